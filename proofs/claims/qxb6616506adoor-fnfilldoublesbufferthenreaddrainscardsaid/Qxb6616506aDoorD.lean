import Derived.Test.Qxb6616506aDoorC
namespace Go.Proofs.Qxb6616506aDoor
open Go.RowKit

theorem BufF.val {w : World} {B : Nat} {dv bv : Value} {n cap : Nat} {z : Nat → Int} (h : BufF w B dv bv n cap z) : ∃ a, bv = .slice a n cap := by
  rcases h with ⟨rfl, rfl, rfl⟩ | ⟨g, cs, rfl, _⟩
  · exact ⟨_, rfl⟩
  · exact ⟨_, rfl⟩

theorem St.cells {w0 w : World} {dv : Value} {d : Nat} {z : Nat → Int} {bb bh pos : Nat} {bv : Value} (S : St w0 w dv d z bb bh pos bv) :
    w.cell? ⟨bh, 0, none⟩ = some (.iface 35 (.pointer (some ⟨bb, 0, none⟩))) ∧ w.cell? ⟨bh, 1, none⟩ = some bv ∧ w.frozen? ⟨bh, 1, none⟩ = false := by
  refine ⟨?_, ?_, frozen_of_row w bh 1 _ _ S.rh⟩
  · simpa using cell_of_row w bh 0 _ _ _ S.rh
  · simpa using cell_of_row w bh 1 _ _ _ S.rh

/-- The world behind the growth of the buffer. -/
theorem grown_state {w0 w W : World} {dv : Value} {d : Nat} {z : Nat → Int} {bb bh pos : Nat} {bv : Value} {n cap c : Nat} {Z : Array Value} (S : St w0 w dv d z bb bh pos bv) (hB : BufF w w0.heap.size dv bv n cap z) (hn : n ≤ c) (hZ : Z.size = c)
    (hW : Same w W (fun _ => False)) (ty : TypeId) :
    ∃ row', (Builtin.copy_ #[22, 22] ty #[.slice (some ⟨w.heap.size, 0, none⟩) n c, bv]).run Tryd.prog (W.alloc (.cells Z 5)) = .ok (.int .i64 (n : Int)) ((W.alloc (.cells Z 5)).setRow w.heap.size row') ∧
      ((W.alloc (.cells Z 5)).setRow w.heap.size row').cell? ⟨bh, 1, none⟩ = some bv ∧ ((W.alloc (.cells Z 5)).setRow w.heap.size row').frozen? ⟨bh, 1, none⟩ = false ∧
      St w0 (((W.alloc (.cells Z 5)).setRow w.heap.size row').setCell ⟨bh, 1, none⟩ (.slice (some ⟨w.heap.size, 0, none⟩) n c)) dv d z bb bh pos (.slice (some ⟨w.heap.size, 0, none⟩) n c) ∧
      BufF (((W.alloc (.cells Z 5)).setRow w.heap.size row').setCell ⟨bh, 1, none⟩ (.slice (some ⟨w.heap.size, 0, none⟩) n c)) w0.heap.size dv (.slice (some ⟨w.heap.size, 0, none⟩) n c) n c z := by
  have hsz : W.heap.size = w.heap.size := hW.size
  have hold : ∀ k, k < w.heap.size → (W.alloc (.cells Z 5)).heap[k]? = w.heap[k]? := fun k hk => (Below.heap_alloc W _ k (by omega)).trans (hW.block k (fun h => h))
  have hnew : (W.alloc (.cells Z 5)).heap[w.heap.size]? = some (.cells Z 5 (0, 0)) := by
    have := heap_alloc_new W (.cells Z 5)
    rw [hsz] at this
    exact this
  have hB' : BufF (W.alloc (.cells Z 5)) w0.heap.size dv bv n cap z := by
    rcases hB with h | ⟨g, cs, rfl, h1, h2, h3, r⟩
    · exact Or.inl h
    · exact Or.inr ⟨g, cs, rfl, h1, h2, (hold g (Array.getElem?_eq_some_iff.1 h3).1).trans h3, r⟩
  obtain ⟨row', hrun, hrs, hseg⟩ := copyBuf_run (W.alloc (.cells Z 5)) ty w0.heap.size dv bv n cap z w.heap.size c Z hB' hnew (by omega)
  have hlth : bh < w.heap.size := (Array.getElem?_eq_some_iff.1 S.rh).1
  have hrow2 : ((W.alloc (.cells Z 5)).setRow w.heap.size row').heap[w.heap.size]? = some (.cells row' 5 (0, 0)) := setRow_heap _ _ _ _ _ _ hnew
  have hold2 : ∀ k, k < w.heap.size → ((W.alloc (.cells Z 5)).setRow w.heap.size row').heap[k]? = w.heap[k]? := fun k hk => (setRow_other _ _ _ _ (by omega)).trans (hold k hk)
  have rh2 := (hold2 bh hlth).trans S.rh
  have hold3 : ∀ k, k < w.heap.size → k ≠ bh → (((W.alloc (.cells Z 5)).setRow w.heap.size row').setCell ⟨bh, 1, none⟩ (.slice (some ⟨w.heap.size, 0, none⟩) n c)).heap[k]? = w.heap[k]? := fun k hk hne => (heap_setCell_other _ _ _ _ (by simpa using hne)).trans (hold2 k hk)
  have hb0 := S.bel.size
  refine ⟨row', hrun, ?_, frozen_of_row _ bh 1 _ _ rh2, ⟨?_, ?_, ?_, ?_, S.bge, S.hge⟩, ?_⟩
  · simpa using cell_of_row _ bh 1 _ _ _ rh2
  · refine S.bel.trans ⟨?_, ?_, ?_, ?_, fun k hk => hold3 k (by omega) (by have := S.hge; omega)⟩
    · exact hW.os
    · exact hW.tape
    · exact hW.output
    · simp [World.setCell, World.setRow]
      omega
  · refine S.dat.same fun bd hbd => ?_
    obtain ⟨hlt, cs, hcs⟩ := S.dat.lt bd hbd
    refine hold3 bd hlt fun e => ?_
    rw [e, S.rh] at hcs
    simp at hcs
  · obtain ⟨pr, hpr⟩ := S.rb
    exact ⟨pr, (hold3 bb (Array.getElem?_eq_some_iff.1 hpr).1 S.neq).trans hpr⟩
  · rw [heap_setCell_same _ _ _ _ _ _ rh2]
    rfl
  · refine Or.inr ⟨w.heap.size, row', rfl, by omega, ?_, ?_, by omega, hn, hseg⟩
    · intro e
      have := (S.dat.lt _ e).1
      omega
    · rw [heap_setCell_other _ _ _ _ (by simp; omega)]
      exact hrow2

theorem grown_state2 {w0 w W WA : World} {dv : Value} {d : Nat} {z : Nat → Int} {bb bh pos : Nat} {bv : Value} {n cap c : Nat} {Z : Array Value} (S : St w0 w dv d z bb bh pos bv) (hB : BufF w w0.heap.size dv bv n cap z) (hn : n ≤ c) (hZ : Z.size = c)
    (hW : Same w W (fun _ => False)) (hWA : WA = W.alloc (.cells Z 5)) :
    ∃ WB, (Builtin.copy_ #[22, 22] 3 #[.slice (some ⟨w.heap.size, 0, none⟩) n c, bv]).run Tryd.prog WA = .ok (.int .i64 (n : Int)) WB ∧
      WA.cell? ⟨bh, 1, none⟩ = some bv ∧ WB.cell? ⟨bh, 1, none⟩ = some bv ∧ WB.frozen? ⟨bh, 1, none⟩ = false ∧
      St w0 (WB.setCell ⟨bh, 1, none⟩ (.slice (some ⟨w.heap.size, 0, none⟩) n c)) dv d z bb bh pos (.slice (some ⟨w.heap.size, 0, none⟩) n c) ∧
      BufF (WB.setCell ⟨bh, 1, none⟩ (.slice (some ⟨w.heap.size, 0, none⟩) n c)) w0.heap.size dv (.slice (some ⟨w.heap.size, 0, none⟩) n c) n c z := by
  subst hWA
  obtain ⟨row', h1, h2, h3, h4, h5⟩ := grown_state S hB hn hZ hW 3
  refine ⟨_, h1, ?_, h2, h3, h4, h5⟩
  have hlth : bh < w.heap.size := (Array.getElem?_eq_some_iff.1 S.rh).1
  have e : (W.alloc (.cells Z 5)).heap[bh]? = w.heap[bh]? := (Below.heap_alloc W _ bh (by rw [hW.size]; exact hlth)).trans (hW.block bh (fun h => h))
  simpa using cell_of_row _ bh 1 _ _ _ (e.trans S.rh)

/-- The state behind a Read into the buffer, and the buffer's longer slice stored. -/
theorem filled {w0 WC w4 : World} {bd d : Nat} {z : Nat → Int} {bb bh n c m g : Nat} {row row' : Array Value}
    (S : St w0 WC (.slice (some ⟨bd, 0, none⟩) d d) d z bb bh n (.slice (some ⟨g, 0, none⟩) n c)) (hgB : w0.heap.size ≤ g) (hrow : WC.heap[g]? = some (.cells row 5 (0, 0))) (hseg : Seg row 0 n z 0)
    (hgd : (Value.slice (some ⟨bd, 0, none⟩) d d).ownBlock ≠ some g) (hrs : row.size = c) (hmc : n + m ≤ c)
    (hb4 : w4.heap[bb]? = some (.cells #[.slice (some ⟨bd, 0, none⟩) d d, .int .i64 ((n + m : Nat) : Int), .int .i64 (-1)] 46 (0, 0))) (hS4 : Same WC.drew w4 (fun k => k = bb ∨ k = g))
    (hr4 : w4.heap[g]? = some (.cells row' 5 (0, 0))) (hrs' : row'.size = row.size) (hseg' : Seg row' n m z n) (hold : ∀ i, i < n → row'[i]? = row[i]?) :
    St w0 (w4.drew.setCell ⟨bh, 1, none⟩ (.slice (some ⟨g, 0, none⟩) (n + m) c)) (.slice (some ⟨bd, 0, none⟩) d d) d z bb bh (n + m) (.slice (some ⟨g, 0, none⟩) (n + m) c) ∧
    BufF (w4.drew.setCell ⟨bh, 1, none⟩ (.slice (some ⟨g, 0, none⟩) (n + m) c)) w0.heap.size (.slice (some ⟨bd, 0, none⟩) d d) (.slice (some ⟨g, 0, none⟩) (n + m) c) (n + m) c z := by
  have hbb : bh ≠ bb := fun e => S.neq e.symm
  have hbg : bh ≠ g := fun e => by have h := S.rh; rw [e, hrow] at h; simp at h
  have hdg : bd ≠ g := fun e => hgd (by rw [e]; rfl)
  have rh4 : w4.drew.heap[bh]? = _ := (hS4.block bh (by simp [hbb, hbg])).trans S.rh
  have oth : ∀ k, k ≠ bh → (w4.drew.setCell ⟨bh, 1, none⟩ (.slice (some ⟨g, 0, none⟩) (n + m) c)).heap[k]? = w4.heap[k]? := fun k hk => heap_setCell_other _ _ _ _ (by simpa using hk)
  have hdat : ∃ cs, WC.heap[bd]? = some (.cells cs 5 (0, 0)) := (S.dat.lt bd rfl).2
  have hdbb : bd ≠ bb := fun e => by
    obtain ⟨cs, h⟩ := hdat
    obtain ⟨pr, h'⟩ := S.rb
    rw [e, h'] at h; simp at h
  have hdbh : bd ≠ bh := fun e => by
    obtain ⟨cs, h⟩ := hdat
    rw [e, S.rh] at h; simp at h
  refine ⟨⟨?_, ?_, ⟨-1, ?_⟩, ?_, S.bge, S.hge⟩, Or.inr ⟨g, row', rfl, hgB, hgd, ?_, by omega, hmc, ?_⟩⟩
  · have hS5 : Same WC w4.drew (fun k => k = bb ∨ k = g) := ⟨hS4.os, hS4.tape, hS4.output, hS4.size, hS4.block⟩
    have h1 : Below w0.heap.size WC w4.drew := hS5.below (fun k hk => by rcases hk with hk | hk <;> rw [hk]; exact S.bge; exact hgB)
    exact (S.bel.trans h1).setCell S.hge _
  · refine S.dat.same fun k hk => ?_
    simp only [Value.ownBlock, Option.some.injEq] at hk
    subst hk
    rw [oth _ hdbh]
    exact hS4.block bd (by simp [hdbb, hdg])
  · rw [oth _ (fun e => hbb e.symm)]
    exact hb4
  · rw [heap_setCell_same _ _ _ _ _ _ rh4]
    rfl
  · rw [oth _ (fun e => hbg e.symm)]
    exact hr4
  · intro i hi
    by_cases h : i < n
    · rw [Nat.zero_add, hold i h]
      have := hseg i h
      rwa [Nat.zero_add] at this
    · have := hseg' (i - n) (by omega)
      rw [show n + (i - n) = i by omega] at this
      simpa using this

/-- What 'fill' leaves. -/
def FillPost (w0 : World) (dv : Value) (d : Nat) (z : Nat → Int) (bb bh n : Nat) (e : Ending) (w' : World) : Prop :=
  ∃ n' cap' bv', St w0 w' dv d z bb bh n' bv' ∧ BufF w' w0.heap.size dv bv' n' cap' z ∧ (n' = d ∨ cap' = n') ∧ cap' ≤ 4194304 ∧ n' = (if n < d then min d (2 * n + 4096) else d) ∧
    ((n < d ∧ e = .returned .nilIface) ∨ (n = d ∧ ∃ a, e = .returned (.iface 47 (.pointer a))))

set_option maxRecDepth 100000 in
set_option maxHeartbeats 800000 in
theorem fill_more (w0 w : World) (dv : Value) (d : Nat) (z : Nat → Int) (bb bh n : Nat) (bv : Value) (hd : d ≤ 1048576) (hnd : n < d) (S : St w0 w dv d z bb bh n bv) (hB : BufF w w0.heap.size dv bv n n z) :
    Calls Tryd.prog 13 #[.pointer (some ⟨bh, 0, none⟩)] w (FillPost w0 dv d z bb bh n) := by
  obtain ⟨a0, rfl⟩ := hB.val
  obtain ⟨c0, c1, f1⟩ := S.cells
  go_enter Tryd.func13, Tryd.ntmps13
  go_wp2_with fail
  go_quiet (fail)
  go_wp2_with fail
  obtain ⟨c, hc⟩ : ∃ c, c = 2 * n + 4096 := ⟨_, rfl⟩
  obtain ⟨Z, hmk, hZ⟩ := make_run (w.drewN nq).drew n c (by omega) (by omega)
  obtain ⟨WA, hWA⟩ : ∃ WA, WA = ((w.drewN nq).drew).alloc (.cells Z 5) := ⟨_, rfl⟩
  have hmk' : (Instr.makeSlice 22 (.int .i64 (n : Int)) (.int .i64 (2 * (n : Int) + 4096))).run Tryd.prog (w.drewN (nq + 1)) = .ok (.slice (some ⟨w.heap.size, 0, none⟩) n c) WA := by
    have e : ((c : Nat) : Int) = 2 * (n : Int) + 4096 := by omega
    rw [e] at hmk
    rw [hWA]
    exact hmk
  have hc1 : n + 4096 ≤ c := by omega
  have hc2 : c ≤ 1073741824 := by omega
  have HC : Hid (c = 2 * n + 4096) := hc
  clear hc
  obtain ⟨WB, hcp, d0, d1, e1, S2, B2⟩ := grown_state2 S hB (c := c) (by omega) hZ ((Same.refl w _).drewN (nq + 1)) hWA
  clear hmk hWA hZ
  go_region
  clear c0 c1 f1 S hB
  go_wp2_with fail
  obtain ⟨WC, hWC⟩ : ∃ WC, WC = WB.setCell ⟨bh, 1, none⟩ (.slice (some ⟨w.heap.size, 0, none⟩) n c) := ⟨_, rfl⟩
  rw [← hWC] at S2 B2 ⊢
  clear hcp d0 d1 e1 hmk' hWC
  obtain ⟨g, hg⟩ : ∃ g, g = w.heap.size := ⟨_, rfl⟩
  rw [← hg] at S2 B2 ⊢
  clear hg
  obtain ⟨c0, c1, f1⟩ := S2.cells
  have hmr := method_read
  have hna := nil_ahead
  rcases B2 with ⟨h, _⟩ | ⟨g', row, hgv, hgB, hgd, hrow, hrs, hnc, hseg⟩
  · cases h
  simp only [Value.slice.injEq, Option.some.injEq, Addr.mk.injEq, and_true] at hgv
  subst hgv
  rcases S2.dat with ⟨_, h0⟩ | ⟨bd, cs, rfl, hbd, hcs, hcz, hdz⟩
  · omega
  obtain ⟨pr, hrb⟩ := S2.rb
  obtain ⟨m, hm⟩ : ∃ m, m = Nat.min (d - n) (c - n) := ⟨_, rfl⟩
  have q1 := read_more bb bd d n m pr g n (c - n) (c - n) z cs row WC.drew hd hnd hm hrb hcs hdz hrow (by omega) (fun e => by rw [e, hrb] at hrow; simp at hrow) (fun e => by rw [e, hrb] at hcs; simp at hcs) (fun e => hgd (by rw [e]; rfl))
  have HS : Hid (St w0 WC (.slice (some ⟨bd, 0, none⟩) d d) d z bb bh n (.slice (some ⟨g, 0, none⟩) n c)) := S2
  have HM : Hid (m = Nat.min (d - n) (c - n)) := hm
  have HR : Hid (row.size = c) := hrs
  have hmd : m ≤ d := by rw [hm]; exact Nat.le_trans (Nat.min_le_left _ _) (by omega)
  clear S2 hrb hcs hm hrs hcz
  have hbb : bh ≠ bb := fun e => HS.out.neq e.symm
  have hbg : bh ≠ g := fun e => by have h := HS.out.rh; rw [e, hrow] at h; simp at h
  have HX : Hid (w0.heap.size ≤ g ∧ WC.heap[g]? = some (.cells row 5 (0, 0)) ∧ Seg row 0 n z 0 ∧ w0.heap.size ≤ bd ∧ Seg cs 0 d z 0 ∧ (Value.slice (some ⟨bd, 0, none⟩) d d).ownBlock ≠ some g) := ⟨hgB, hrow, hseg, hbd, hdz, hgd⟩
  clear hgB hrow hseg hbd hdz hgd hnc f1
  have hi1 : n ≤ c := by omega
  have hi2 : ¬ c = n := by omega
  have hi3 : (n : Int) ≤ (c : Int) := by omega
  have hi4 : (0 : Int) ≤ (n : Int) := by omega
  go_region_held3 (fun w' => w'.cell? ⟨bh, 0, none⟩ = some (.iface 35 (.pointer (some ⟨bb, 0, none⟩))) ∧ w'.cell? ⟨bh, 1, none⟩ = some (.slice (some ⟨g, 0, none⟩) n c)) (go_keep)
    ((go_at_call 32; refine q1.mono ?_; rintro e w4 ⟨rfl, hb4, hS4, hr4⟩; have d0 := (hS4.cell (p := ⟨bh, 0, none⟩) (by simp [hbb, hbg])).trans c0; have d1 := (hS4.cell (p := ⟨bh, 1, none⟩) (by simp [hbb, hbg])).trans c1))
  clear hi1 hi2 hi3 hi4 c0 c1 hmr hna q1
  have f1 : w4.frozen? ⟨bh, 1, none⟩ = false := by
    rw [World.frozen?_of_block (hS4.block bh (by simp [hbb, hbg]))]
    exact HS.out.cells.2.2
  have hm0 : 0 < m := by
    rw [HM.out]
    exact Nat.lt_min.2 ⟨by omega, by omega⟩
  have hmc : n + m ≤ c := by
    have : m ≤ c - n := by rw [HM.out]; exact Nat.min_le_right _ _
    omega
  have hk1 : (n : Int) + (m : Int) ≤ (c : Int) := by omega
  go_wp2_with fail
  go_region
  obtain ⟨row', hr4a, hr4b, hr4c, hr4d⟩ := hr4
  obtain ⟨x1, x2, x3, _, _, x6⟩ := HX.out
  obtain ⟨S5, B5⟩ := filled HS.out x1 x2 x3 x6 HR.out hmc hb4 hS4 hr4a hr4b hr4c hr4d
  obtain ⟨W5, hW5⟩ : ∃ W5, W5 = w4.drew.setCell ⟨bh, 1, none⟩ (.slice (some ⟨g, 0, none⟩) (n + m) c) := ⟨_, rfl⟩
  rw [← hW5] at S5 B5
  have HF : Hid (FillPost w0 (.slice (some ⟨bd, 0, none⟩) d d) d z bb bh n (.returned .nilIface) W5) := by
    have e0 : m = min (d - n) (c - n) := HM.out
    have e1 : n + m = min d c := by omega
    refine ⟨n + m, c, _, S5, B5, ?_, ?_, ?_, Or.inl ⟨hnd, rfl⟩⟩
    · omega
    · have := HC.out; omega
    · rw [if_pos hnd, ← HC.out]; exact e1
  clear S5 B5 hr4a hr4b hr4c hr4d HS HX HM HR hS4 hb4 d0 d1 f1
  first | rw [← hW5] | (have hW6 : W5 = (w4.setCell ⟨bh, 1, none⟩ (.slice (some ⟨g, 0, none⟩) (n + m) c)).drew := hW5; rw [← hW6]; clear hW6)
  clear hW5
  go_wp2_with fail
  go_ret
  exact HF.out
end Go.Proofs.Qxb6616506aDoor
