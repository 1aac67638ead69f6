import Derived.Test.Qxb6616506aDoorD
namespace Go.Proofs.Qxb6616506aDoor
open Go.RowKit

/-- The state behind a Read that found the end, and the buffer's slice stored anew. -/
theorem kept {w0 WC W : World} {dv : Value} {d : Nat} {z : Nat → Int} {bb bh n c : Nat} {bv : Value}
    (S : St w0 WC dv d z bb bh n bv) (hB : BufF WC w0.heap.size dv bv n c z) (hW : Same WC W (fun _ => False)) :
    St w0 (W.setCell ⟨bh, 1, none⟩ bv) dv d z bb bh n bv ∧ BufF (W.setCell ⟨bh, 1, none⟩ bv) w0.heap.size dv bv n c z := by
  have rh4 : W.heap[bh]? = some (.cells #[.iface 35 (.pointer (some ⟨bb, 0, none⟩)), bv] 41 (0, 0)) := (hW.block bh (fun h => h)).trans S.rh
  have all : ∀ k : Nat, (W.setCell ⟨bh, 1, none⟩ bv).heap[k]? = WC.heap[k]? := by
    intro k
    by_cases e : k = bh
    · subst e
      rw [heap_setCell_same _ _ _ _ _ _ rh4, S.rh]
      rfl
    · rw [heap_setCell_other _ _ _ _ (by simpa using e)]
      exact hW.block k (fun h => h)
  refine ⟨⟨?_, S.dat.same fun k _ => all k, ?_, (all bh).trans S.rh, S.bge, S.hge⟩, ?_⟩
  · have h1 : Below w0.heap.size WC W := hW.below (fun k hk => hk.elim)
    exact (S.bel.trans h1).setCell S.hge _
  · obtain ⟨pr, h⟩ := S.rb
    exact ⟨pr, (all bb).trans h⟩
  · rcases hB with h | ⟨g, cs, h1, h2, h3, h4, r⟩
    · exact Or.inl h
    · exact Or.inr ⟨g, cs, h1, h2, h3, (all g).trans h4, r⟩

theorem info47 : (Tryd.prog.info? 47).map (fun i => i.comparable) = some true := by kernel_rfl
theorem info65 : ((Tryd.prog.info? 65).map (fun i => i.size)) = some 1 := by kernel_rfl
theorem eql_eof (aE : Addr) (w : World) : (binOp .eql 28 (.iface 47 (.pointer (some aE))) (.iface 47 (.pointer (some aE)))).run Tryd.prog w = .ok (.bool true) w := by
  obtain ⟨i, hi, hc⟩ := Option.map_eq_some_iff.1 info47
  obtain ⟨j, hj, _⟩ := Option.map_eq_some_iff.1 info65
  exact run_eql_iface_ptr_same (P := Tryd.prog) w aE Tryd.underlying28 Tryd.underlying47 hi hc hj

set_option maxRecDepth 100000 in
set_option maxHeartbeats 800000 in
theorem fill_end_grow (w0 w : World) (dv : Value) (d : Nat) (z : Nat → Int) (bb bh cap : Nat) (bv : Value) (aE : Addr) (aU : Option Addr) (hd : d ≤ 1048576) (hcap : cap ≤ 4194304) (hle : d ≤ cap) (hg : cap < d + 4096) (S : St w0 w dv d z bb bh d bv) (hB : BufF w w0.heap.size dv bv d cap z)
    (h2 : 2 ≤ w0.heap.size) (hE : w0.cell? ⟨0, 0, none⟩ = some (.iface 47 (.pointer (some aE)))) (hU : w0.cell? ⟨1, 0, none⟩ = some (.iface 47 (.pointer aU))) :
    Calls Tryd.prog 13 #[.pointer (some ⟨bh, 0, none⟩)] w (FillPost w0 dv d z bb bh d) := by
  obtain ⟨a0, rfl⟩ := hB.val
  obtain ⟨c0, c1, f1⟩ := S.cells
  have hbd1 : (cap : Int) - (d : Int) < 4096 := by omega
  go_enter Tryd.func13, Tryd.ntmps13
  go_wp2_with fail
  go_quiet (fail)
  go_wp2_with fail
  obtain ⟨c, hc⟩ : ∃ c, c = 2 * d + 4096 := ⟨_, rfl⟩
  obtain ⟨Z, hmk, hZ⟩ := make_run (w.drewN nq).drew d c (by omega) (by omega)
  obtain ⟨WA, hWA⟩ : ∃ WA, WA = ((w.drewN nq).drew).alloc (.cells Z 5) := ⟨_, rfl⟩
  have hmk' : (Instr.makeSlice 22 (.int .i64 (d : Int)) (.int .i64 (2 * (d : Int) + 4096))).run Tryd.prog (w.drewN (nq + 1)) = .ok (.slice (some ⟨w.heap.size, 0, none⟩) d c) WA := by
    have e : ((c : Nat) : Int) = 2 * (d : Int) + 4096 := by omega
    rw [e] at hmk
    rw [hWA]
    exact hmk
  have hc1 : d + 4096 ≤ c := by omega
  have hc2 : c ≤ 4194304 := by omega
  clear hc
  obtain ⟨WB, hcp, d0, d1, e1, S2, B2⟩ := grown_state2 S hB (c := c) (by omega) hZ ((Same.refl w _).drewN (nq + 1)) hWA
  clear hmk hWA hZ
  go_region
  clear c0 c1 f1 S hB
  go_wp2_with fail
  obtain ⟨WC, hWC⟩ : ∃ WC, WC = WB.setCell ⟨bh, 1, none⟩ (.slice (some ⟨w.heap.size, 0, none⟩) d c) := ⟨_, rfl⟩
  rw [← hWC] at S2 B2 ⊢
  clear hcp d0 d1 e1 hmk' hWC
  obtain ⟨g, hg⟩ : ∃ g, g = w.heap.size := ⟨_, rfl⟩
  rw [← hg] at S2 B2 ⊢
  clear hg
  obtain ⟨c0, c1, f1⟩ := S2.cells
  have hmr := method_read
  have hna := nil_ahead
  obtain ⟨pr, hrb⟩ := S2.rb
  have gE : WC.cell? ⟨0, 0, none⟩ = some (.iface 47 (.pointer (some aE))) := (S2.bel.cell (p := ⟨0, 0, none⟩) (by simp; omega)).trans hE
  have gU : WC.cell? ⟨1, 0, none⟩ = some (.iface 47 (.pointer aU)) := (S2.bel.cell (p := ⟨1, 0, none⟩) (by simp; omega)).trans hU
  obtain ⟨da, dl, dc, hdv, hdl⟩ : ∃ da dl dc, dv = .slice da dl dc ∧ dl = d := by
    rcases S2.dat with ⟨h, h0⟩ | ⟨bd, cs, h, _⟩
    · exact ⟨_, _, _, h, h0.symm⟩
    · exact ⟨_, _, _, h, rfl⟩
  subst hdv hdl
  have q1 := read_end bb da dl dc dl pr (.slice (some ⟨g, dl, none⟩) (c - dl) (c - dl)) _ aE WC.drew (Nat.le_refl _) rfl gE hrb
  have HS : Hid (St w0 WC (.slice da dl dc) dl z bb bh dl (.slice (some ⟨g, 0, none⟩) dl c) ∧ BufF WC w0.heap.size (.slice da dl dc) (.slice (some ⟨g, 0, none⟩) dl c) dl c z) := ⟨S2, B2⟩
  clear S2 B2 hrb hbd1
  have hi1 : dl ≤ c := by omega
  have hi2 : ¬ c = dl := by omega
  have hi3 : (dl : Int) ≤ (c : Int) := by omega
  have hi4 : (0 : Int) ≤ (dl : Int) := by omega
  go_region_held3 (fun w' => w'.cell? ⟨bh, 0, none⟩ = some (.iface 35 (.pointer (some ⟨bb, 0, none⟩))) ∧ w'.cell? ⟨bh, 1, none⟩ = some (.slice (some ⟨g, 0, none⟩) dl c)) (go_keep)
    ((go_at_call 32; refine q1.mono ?_; rintro e w4 ⟨rfl, q, rfl⟩))
  clear hi1 hi2 hi3 hi4 hmr hna q1
  go_wp2_with fail
  go_region
  obtain ⟨W5, hW5⟩ : ∃ W5, W5 = (WC.drewN (1 + q)).drew.setCell ⟨bh, 1, none⟩ (.slice (some ⟨g, 0, none⟩) dl c) := ⟨_, rfl⟩
  obtain ⟨S5, B5⟩ := kept HS.out.1 HS.out.2 (W := (WC.drewN (1 + q)).drew) ((Same.refl WC _).drewN (1 + q)).drew
  rw [← hW5] at S5 B5
  have HF : Hid (∀ a, FillPost w0 (.slice da dl dc) dl z bb bh dl (.returned (.iface 47 (.pointer a))) W5) := fun a =>
    ⟨dl, c, _, S5, B5, Or.inl rfl, hc2, by rw [if_neg (by omega)], Or.inr ⟨rfl, a, rfl⟩⟩
  have gE5 : W5.cell? ⟨0, 0, none⟩ = some (.iface 47 (.pointer (some aE))) := (S5.bel.cell (p := ⟨0, 0, none⟩) (by simp; omega)).trans hE
  have gU5 : W5.cell? ⟨1, 0, none⟩ = some (.iface 47 (.pointer aU)) := (S5.bel.cell (p := ⟨1, 0, none⟩) (by simp; omega)).trans hU
  have c15 := S5.cells.2.1
  clear S5 B5 HS c0 c1 f1 gE gU
  first | rw [← hW5] | (have hW6 : W5 = (WC.drewN (1 + q + 1)).setCell ⟨bh, 1, none⟩ (.slice (some ⟨g, 0, none⟩) dl c) := hW5; rw [← hW6]; clear hW6)
  clear hW5 hE hU h2
  have heq := eql_eof aE
  go_wp2_with fail
  all_goals
    go_ret
    exact HF.out _

set_option maxRecDepth 100000 in
set_option maxHeartbeats 800000 in
theorem fill_end_keep (w0 w : World) (dv : Value) (d : Nat) (z : Nat → Int) (bb bh cap : Nat) (bv : Value) (aE : Addr) (aU : Option Addr) (hd : d ≤ 1048576) (hcap : cap ≤ 4194304) (hle : d ≤ cap) (hg : d + 4096 ≤ cap) (S : St w0 w dv d z bb bh d bv) (hB : BufF w w0.heap.size dv bv d cap z)
    (h2 : 2 ≤ w0.heap.size) (hE : w0.cell? ⟨0, 0, none⟩ = some (.iface 47 (.pointer (some aE)))) (hU : w0.cell? ⟨1, 0, none⟩ = some (.iface 47 (.pointer aU))) :
    Calls Tryd.prog 13 #[.pointer (some ⟨bh, 0, none⟩)] w (FillPost w0 dv d z bb bh d) := by
  obtain ⟨a0, rfl⟩ := hB.val
  obtain ⟨c0, c1, f1⟩ := S.cells
  have hbd1 : ¬ (cap : Int) - (d : Int) < 4096 := by omega
  go_enter Tryd.func13, Tryd.ntmps13
  go_wp2_with fail
  go_quiet (fail)
  go_wp2_with fail
  have S1 := S
  rcases hB with ⟨_, _, h0⟩ | ⟨g, cs0, hgv, hr⟩
  · omega
  simp only [Value.slice.injEq, and_true] at hgv
  obtain ⟨rfl, _⟩ := hgv
  have B1 : BufF w w0.heap.size dv (.slice (some ⟨g, 0, none⟩) d cap) d cap z := Or.inr ⟨g, cs0, rfl, hr⟩
  obtain ⟨S2, B2⟩ : St w0 (w.drewN nq) dv d z bb bh d (.slice (some ⟨g, 0, none⟩) d cap) ∧ BufF (w.drewN nq) w0.heap.size dv (.slice (some ⟨g, 0, none⟩) d cap) d cap z := ⟨⟨below_drewN S1.bel nq, S1.dat, S1.rb, S1.rh, S1.bge, S1.hge⟩, B1⟩
  clear S1 B1 hr S c0 c1 f1
  obtain ⟨WC, hWC⟩ : ∃ WC, WC = w.drewN nq := ⟨_, rfl⟩
  rw [← hWC] at S2 B2 ⊢
  clear hWC
  obtain ⟨c, hc⟩ : ∃ c, c = cap := ⟨_, rfl⟩
  rw [← hc] at S2 B2 hcap hle hg
  have hc1 : d + 4096 ≤ c := hg
  have hc2 : c ≤ 4194304 := hcap
  subst hc
  obtain ⟨c0, c1, f1⟩ := S2.cells
  have hmr := method_read
  have hna := nil_ahead
  obtain ⟨pr, hrb⟩ := S2.rb
  have gE : WC.cell? ⟨0, 0, none⟩ = some (.iface 47 (.pointer (some aE))) := (S2.bel.cell (p := ⟨0, 0, none⟩) (by simp; omega)).trans hE
  have gU : WC.cell? ⟨1, 0, none⟩ = some (.iface 47 (.pointer aU)) := (S2.bel.cell (p := ⟨1, 0, none⟩) (by simp; omega)).trans hU
  obtain ⟨da, dl, dc, hdv, hdl⟩ : ∃ da dl dc, dv = .slice da dl dc ∧ dl = d := by
    rcases S2.dat with ⟨h, h0⟩ | ⟨bd, cs, h, _⟩
    · exact ⟨_, _, _, h, h0.symm⟩
    · exact ⟨_, _, _, h, rfl⟩
  subst hdv hdl
  have q1 := read_end bb da dl dc dl pr (.slice (some ⟨g, dl, none⟩) (c - dl) (c - dl)) _ aE WC.drew (Nat.le_refl _) rfl gE hrb
  have HS : Hid (St w0 WC (.slice da dl dc) dl z bb bh dl (.slice (some ⟨g, 0, none⟩) dl c) ∧ BufF WC w0.heap.size (.slice da dl dc) (.slice (some ⟨g, 0, none⟩) dl c) dl c z) := ⟨S2, B2⟩
  clear S2 B2 hrb hbd1
  have hi1 : dl ≤ c := by omega
  have hi2 : ¬ c = dl := by omega
  have hi3 : (dl : Int) ≤ (c : Int) := by omega
  have hi4 : (0 : Int) ≤ (dl : Int) := by omega
  go_region_held3 (fun w' => w'.cell? ⟨bh, 0, none⟩ = some (.iface 35 (.pointer (some ⟨bb, 0, none⟩))) ∧ w'.cell? ⟨bh, 1, none⟩ = some (.slice (some ⟨g, 0, none⟩) dl c)) (go_keep)
    ((go_at_call 32; refine q1.mono ?_; rintro e w4 ⟨rfl, q, rfl⟩))
  clear hi1 hi2 hi3 hi4 hmr hna q1
  go_wp2_with fail
  go_region
  obtain ⟨W5, hW5⟩ : ∃ W5, W5 = (WC.drewN (1 + q)).drew.setCell ⟨bh, 1, none⟩ (.slice (some ⟨g, 0, none⟩) dl c) := ⟨_, rfl⟩
  obtain ⟨S5, B5⟩ := kept HS.out.1 HS.out.2 (W := (WC.drewN (1 + q)).drew) ((Same.refl WC _).drewN (1 + q)).drew
  rw [← hW5] at S5 B5
  have HF : Hid (∀ a, FillPost w0 (.slice da dl dc) dl z bb bh dl (.returned (.iface 47 (.pointer a))) W5) := fun a =>
    ⟨dl, c, _, S5, B5, Or.inl rfl, hc2, by rw [if_neg (by omega)], Or.inr ⟨rfl, a, rfl⟩⟩
  have gE5 : W5.cell? ⟨0, 0, none⟩ = some (.iface 47 (.pointer (some aE))) := (S5.bel.cell (p := ⟨0, 0, none⟩) (by simp; omega)).trans hE
  have gU5 : W5.cell? ⟨1, 0, none⟩ = some (.iface 47 (.pointer aU)) := (S5.bel.cell (p := ⟨1, 0, none⟩) (by simp; omega)).trans hU
  have c15 := S5.cells.2.1
  clear S5 B5 HS c0 c1 f1 gE gU
  first | rw [← hW5] | (have hW6 : W5 = (WC.drewN (1 + q + 1)).setCell ⟨bh, 1, none⟩ (.slice (some ⟨g, 0, none⟩) dl c) := hW5; rw [← hW6]; clear hW6)
  clear hW5 hE hU h2
  have heq := eql_eof aE
  go_wp2_with fail
  all_goals
    go_ret
    exact HF.out _

theorem fill_any (w0 w : World) (dv : Value) (d : Nat) (z : Nat → Int) (bb bh n cap : Nat) (bv : Value) (aE : Addr) (aU : Option Addr) (hd : d ≤ 1048576) (hcap : cap ≤ 4194304) (hnd : n ≤ d) (hfull : n = d ∨ cap = n) (S : St w0 w dv d z bb bh n bv) (hB : BufF w w0.heap.size dv bv n cap z)
    (h2 : 2 ≤ w0.heap.size) (hE : w0.cell? ⟨0, 0, none⟩ = some (.iface 47 (.pointer (some aE)))) (hU : w0.cell? ⟨1, 0, none⟩ = some (.iface 47 (.pointer aU))) :
    Calls Tryd.prog 13 #[.pointer (some ⟨bh, 0, none⟩)] w (FillPost w0 dv d z bb bh n) := by
  by_cases h : n < d
  · obtain rfl : cap = n := by omega
    exact fill_more w0 w dv d z bb bh cap bv hd h S hB
  · obtain rfl : n = d := by omega
    have hle : n ≤ cap := by
      rcases hB with ⟨_, h1, h3⟩ | ⟨_, _, _, _, _, _, _, h, _⟩
      · omega
      · exact h
    by_cases hg : cap < n + 4096
    · exact fill_end_grow w0 w dv n z bb bh cap bv aE aU hd hcap hle hg S hB h2 hE hU
    · exact fill_end_keep w0 w dv n z bb bh cap bv aE aU hd hcap hle (by omega) S hB h2 hE hU

set_option maxHeartbeats 400000 in
theorem zzfill_any (w0 w : World) (dv : Value) (d : Nat) (z : Nat → Int) (bb bh n cap : Nat) (bv : Value) (aE : Addr) (aU : Option Addr) (hd : d ≤ 1048576) (hcap : cap ≤ 4194304) (hnd : n ≤ d) (hfull : n = d ∨ cap = n) (S : St w0 w dv d z bb bh n bv) (hB : BufF w w0.heap.size dv bv n cap z)
    (h2 : 2 ≤ w0.heap.size) (hE : w0.cell? ⟨0, 0, none⟩ = some (.iface 47 (.pointer (some aE)))) (hU : w0.cell? ⟨1, 0, none⟩ = some (.iface 47 (.pointer aU))) :
    Calls Tryd.prog 7 #[.pointer (some ⟨bh, 0, none⟩)] w (FillPost w0 dv d z bb bh n) := by
  have q := fill_any w0 w dv d z bb bh n cap bv aE aU hd hcap hnd hfull S hB h2 hE hU
  clear hfull S hB hE hU
  go_enter Tryd.func7, Tryd.ntmps7
  go_wp2_with fail
  refine q.mono ?_
  rintro e w' ⟨n', cap', bv', S', B', hf, hc', hn', he⟩
  rcases he with ⟨h1, rfl⟩ | ⟨h1, a, rfl⟩
  · go_wp2_with fail
    go_ret
    exact ⟨n', cap', bv', S', B', hf, hc', hn', Or.inl ⟨h1, rfl⟩⟩
  · go_wp2_with fail
    go_ret
    exact ⟨n', cap', bv', S', B', hf, hc', hn', Or.inr ⟨h1, a, rfl⟩⟩
end Go.Proofs.Qxb6616506aDoor
