import Derived.Test.Qxb6616506aDoorE
namespace Go.Proofs.Qxb6616506aDoor
open Go.RowKit

/-- The buffer while it is drained: it holds len bytes from place c of the data on. -/
def BufR (w : World) (B gp : Nat) (bv : Value) (c len : Nat) (z : Nat → Int) : Prop :=
  ∃ a cap, bv = .slice a len cap ∧ len ≤ cap ∧ cap ≤ 4194304 ∧ (len = 0 ∨ ∃ g o cs, a = some ⟨g, o, none⟩ ∧ B ≤ g ∧ g ≠ gp ∧ w.heap[g]? = some (.cells cs 5 (0, 0)) ∧ Seg cs o len z c)

/-- The row that is read into. -/
structure PRow (w0 w : World) (dv : Value) (gp k : Nat) (row : Array Value) : Prop where
  cells : w.heap[gp]? = some (.cells row 5 (0, 0))
  size : row.size = k
  ge : w0.heap.size ≤ gp
  ne : dv.ownBlock ≠ some gp

theorem BufF.toR {w : World} {B gp : Nat} {dv bv : Value} {n cap : Nat} {z : Nat → Int} (h : BufF w B dv bv n cap z) (hc : cap ≤ 4194304) (hg : ∀ g, bv.ownBlock = some g → g ≠ gp) : BufR w B gp bv 0 n z := by
  rcases h with ⟨rfl, rfl, rfl⟩ | ⟨g, cs, rfl, h1, h2, h3, h4, h5, h6⟩
  · exact ⟨_, _, rfl, Nat.le_refl _, hc, Or.inl rfl⟩
  · exact ⟨_, _, rfl, h5, hc, Or.inr ⟨g, 0, cs, rfl, h1, hg g rfl, h3, h6⟩⟩

/-- What 'Read' leaves: m bytes have gone into the row. -/
def ReadPost (w0 : World) (dv : Value) (d : Nat) (z : Nat → Int) (bb bh gp k c m pos' : Nat) (e : Ending) (w' : World) : Prop :=
  ∃ bv' row' err, e = .returned (.tuple #[.int .i64 (m : Int), err]) ∧ (m ≠ 0 → err = .nilIface) ∧ (m = 0 → ∃ a, err = .iface 47 (.pointer a)) ∧
    St w0 w' dv d z bb bh pos' bv' ∧ BufR w' w0.heap.size gp bv' (c + m) (pos' - (c + m)) z ∧ PRow w0 w' dv gp k row' ∧ Seg row' 0 m z c

/-- From the buffer. -/
theorem drained {w0 w : World} {dv : Value} {d : Nat} {z : Nat → Int} {bb bh gp k pos c len m cap g o : Nat} {cs row : Array Value}
    (S : St w0 w dv d z bb bh pos (.slice (some ⟨g, o, none⟩) len cap)) (hgp : g ≠ gp) (hcs : w.heap[g]? = some (.cells cs 5 (0, 0))) (hseg : Seg cs o len z c) (hp : PRow w0 w dv gp k row)
    (hm : m = Nat.min len k) :
    ∃ W1, (Builtin.copy_ #[22, 22] 3 #[.slice (some ⟨gp, 0, none⟩) k k, .slice (some ⟨g, o, none⟩) len cap]).run Tryd.prog w = .ok (.int .i64 (m : Int)) W1 ∧
      W1.cell? ⟨bh, 1, none⟩ = some (.slice (some ⟨g, o, none⟩) len cap) ∧ W1.frozen? ⟨bh, 1, none⟩ = false ∧
      ∀ bv', ∃ row', St w0 (W1.setCell ⟨bh, 1, none⟩ bv') dv d z bb bh pos bv' ∧ PRow w0 (W1.setCell ⟨bh, 1, none⟩ bv') dv gp k row' ∧ Seg row' 0 m z c ∧ (W1.setCell ⟨bh, 1, none⟩ bv').heap[g]? = some (.cells cs 5 (0, 0)) := by
  have hmk : m ≤ k := by rw [hm]; exact Nat.min_le_right _ _
  have hml : m ≤ len := by rw [hm]; exact Nat.min_le_left _ _
  obtain ⟨row', hrun, hsz, hsg, _⟩ := copy_run w 3 gp 0 k k g o len cap row z c m hm hp.cells (fun j hj => by
    rw [cell_of_row w g (o + j) cs 5 _ hcs]
    exact hseg j (by omega)) (by rw [hp.size]; omega)
  have hne : ∀ {X : Nat} {xs : Array Value} {t : TypeId}, w.heap[X]? = some (.cells xs t (0, 0)) → t ≠ 5 → X ≠ gp := fun h ht e => by
    rw [e, hp.cells] at h
    simp only [Option.some.injEq, Obj.cells.injEq] at h
    exact ht h.2.1.symm
  have hbp : bh ≠ gp := hne S.rh (by decide)
  have rh1 : (w.setRow gp row').heap[bh]? = _ := (setRow_other _ _ _ _ hbp).trans S.rh
  refine ⟨_, hrun, by simpa using cell_of_row _ bh 1 _ _ _ rh1, frozen_of_row _ bh 1 _ _ rh1, fun bv' => ⟨row', ?_, ?_, hsg, ?_⟩⟩
  · have oth : ∀ j : Nat, j ≠ bh → j ≠ gp → ((w.setRow gp row').setCell ⟨bh, 1, none⟩ bv').heap[j]? = w.heap[j]? := fun j h1 h2 => by
      rw [heap_setCell_other _ _ _ _ (by simpa using h1)]
      exact setRow_other _ _ _ _ h2
    refine ⟨?_, S.dat.same fun bd hbd => ?_, ?_, ?_, S.bge, S.hge⟩
    · exact (below_setRow S.bel hp.ge _).setCell S.hge _
    · obtain ⟨_, cs', hcs'⟩ := S.dat.lt bd hbd
      refine oth bd (fun e => ?_) (fun e => hp.ne (by rw [← e]; exact hbd))
      rw [e, S.rh] at hcs'
      simp at hcs'
    · obtain ⟨pr, h⟩ := S.rb
      exact ⟨pr, (oth bb S.neq (hne h (by decide))).trans h⟩
    · rw [heap_setCell_same _ _ _ _ _ _ rh1]
      rfl
  · refine ⟨?_, by rw [hsz]; exact hp.size, hp.ge, hp.ne⟩
    rw [heap_setCell_other _ _ _ _ (fun e => hbp (by simpa using e.symm))]
    exact setRow_heap _ _ _ _ _ _ hp.cells
  · have hgh : g ≠ bh := fun e => by rw [e, S.rh] at hcs; simp at hcs
    rw [heap_setCell_other _ _ _ _ (by simpa using hgh), setRow_other _ _ _ _ hgp]
    exact hcs

set_option maxRecDepth 100000 in
set_option maxHeartbeats 400000 in
theorem read_buf (w0 w : World) (dv : Value) (d : Nat) (z : Nat → Int) (bb bh gp k pos c len m cap g o : Nat) (cs row : Array Value)
    (S : St w0 w dv d z bb bh pos (.slice (some ⟨g, o, none⟩) len cap)) (hg : w0.heap.size ≤ g) (hgp : g ≠ gp) (hcs : w.heap[g]? = some (.cells cs 5 (0, 0))) (hseg : Seg cs o len z c) (hp : PRow w0 w dv gp k row)
    (hm : m = Nat.min len k) (hl : 0 < len) (hk : 0 < k) (hlc : len ≤ cap) (hcap : cap ≤ 4194304) (hpos : pos = c + len) :
    Calls Tryd.prog 14 #[.pointer (some ⟨bh, 0, none⟩), .slice (some ⟨gp, 0, none⟩) k k] w (ReadPost w0 dv d z bb bh gp k c m pos) := by
  obtain ⟨c0, c1, f1⟩ := S.cells
  obtain ⟨W1, hcp, d1, e1, hall⟩ := drained S hgp hcs hseg hp hm
  have hm0 : 0 < m := by rw [hm]; exact Nat.lt_min.2 ⟨hl, hk⟩
  have hml : m ≤ len := by rw [hm]; exact Nat.min_le_left _ _
  have HA : Hid (∀ bv', ∃ row', St w0 (W1.setCell ⟨bh, 1, none⟩ bv') dv d z bb bh pos bv' ∧ PRow w0 (W1.setCell ⟨bh, 1, none⟩ bv') dv gp k row' ∧ Seg row' 0 m z c ∧ (W1.setCell ⟨bh, 1, none⟩ bv').heap[g]? = some (.cells cs 5 (0, 0))) := hall
  have HSg : Hid (Seg cs o len z c) := hseg
  have HP : Hid (pos = c + len) := hpos
  clear hall S hcs hp hm hpos hseg
  have hlb : ((len : Int) == 0) = false := beq_eq_false_iff_ne.2 (by omega)
  by_cases hmc : m = cap
  · obtain rfl : m = len := by omega
    subst hmc
    go_enter Tryd.func14, Tryd.ntmps14
    go_wp2_with fail
    go_ret2
    obtain ⟨row', S', P', h3, _⟩ := HA.out (.slice (some ⟨g, o, none⟩) 0 0)
    refine ⟨_, row', .nilIface, rfl, fun _ => rfl, fun h => absurd h (by omega), S', ?_, P', h3⟩
    rw [HP.out, Nat.sub_self]
    exact ⟨_, _, rfl, Nat.le_refl _, by omega, Or.inl rfl⟩
  · have hmc' : m < cap := by omega
    go_enter Tryd.func14, Tryd.ntmps14
    go_wp2_with fail
    go_ret2
    obtain ⟨row', S', P', h3, h4⟩ := HA.out (.slice (some ⟨g, o + m, none⟩) (len - m) (cap - m))
    refine ⟨_, row', .nilIface, rfl, fun _ => rfl, fun h => absurd h (by omega), S', ?_, P', h3⟩
    rw [HP.out, show c + len - (c + m) = len - m by omega]
    refine ⟨_, _, rfl, by omega, by omega, Or.inr ⟨g, o + m, cs, rfl, hg, hgp, h4, fun i hi => ?_⟩⟩
    have := HSg.out (m + i) (by omega)
    rw [Nat.add_assoc, this, Nat.add_assoc]

/-- The state behind a Read straight from the stream. -/
theorem streamed {w0 w w4 : World} {bd d : Nat} {z : Nat → Int} {bb bh gp k pos m : Nat} {bv : Value} {row row' : Array Value}
    (S : St w0 w (.slice (some ⟨bd, 0, none⟩) d d) d z bb bh pos bv) (hp : PRow w0 w (.slice (some ⟨bd, 0, none⟩) d d) gp k row)
    (hb4 : w4.heap[bb]? = some (.cells #[.slice (some ⟨bd, 0, none⟩) d d, .int .i64 ((pos + m : Nat) : Int), .int .i64 (-1)] 46 (0, 0))) (hS4 : Same w w4 (fun k => k = bb ∨ k = gp))
    (hr4 : w4.heap[gp]? = some (.cells row' 5 (0, 0))) (hrs' : row'.size = row.size) :
    St w0 w4 (.slice (some ⟨bd, 0, none⟩) d d) d z bb bh (pos + m) bv ∧ PRow w0 w4 (.slice (some ⟨bd, 0, none⟩) d d) gp k row' := by
  have hbb : bh ≠ bb := fun e => S.neq e.symm
  have hbg : bh ≠ gp := fun e => by have h := S.rh; rw [e, hp.cells] at h; simp at h
  have hdg : bd ≠ gp := fun e => hp.ne (by rw [e]; rfl)
  have hdbb : bd ≠ bb := fun e => by
    obtain ⟨cs, h⟩ := (S.dat.lt bd rfl).2
    obtain ⟨pr, h'⟩ := S.rb
    rw [e, h'] at h; simp at h
  refine ⟨⟨?_, ?_, ⟨-1, hb4⟩, (hS4.block bh (by simp [hbb, hbg])).trans S.rh, S.bge, S.hge⟩, ⟨hr4, by rw [hrs']; exact hp.size, hp.ge, hp.ne⟩⟩
  · exact S.bel.trans (hS4.below (fun k hk => by rcases hk with hk | hk <;> rw [hk]; exact S.bge; exact hp.ge))
  · refine S.dat.same fun k hk => ?_
    simp only [Value.ownBlock, Option.some.injEq] at hk
    subst hk
    exact hS4.block bd (by simp [hdbb, hdg])

set_option maxRecDepth 100000 in
set_option maxHeartbeats 400000 in
theorem read_stream (w0 w : World) (dv : Value) (d : Nat) (z : Nat → Int) (bb bh gp k pos m cap : Nat) (a : Option Addr) (row : Array Value) (aE : Addr) (hd : d ≤ 1048576)
    (S : St w0 w dv d z bb bh pos (.slice a 0 cap)) (hp : PRow w0 w dv gp k row) (hk : 0 < k) (hpos : pos ≤ d) (hcap : cap ≤ 4194304)
    (hm : m = Nat.min (d - pos) k) (h2 : 2 ≤ w0.heap.size) (hE : w0.cell? ⟨0, 0, none⟩ = some (.iface 47 (.pointer (some aE)))) :
    Calls Tryd.prog 14 #[.pointer (some ⟨bh, 0, none⟩), .slice (some ⟨gp, 0, none⟩) k k] w (ReadPost w0 dv d z bb bh gp k pos m (pos + m)) := by
  obtain ⟨c0, c1, f1⟩ := S.cells
  have hmr := method_read
  have hna := nil_ahead
  obtain ⟨pr, hrb⟩ := S.rb
  by_cases hlt : pos < d
  · rcases S.dat with ⟨_, h0⟩ | ⟨bd, cs, rfl, hbd, hcs, hcz, hdz⟩
    · omega
    have q1 := read_more bb bd d pos m pr gp 0 k k z cs row w hd hlt hm hrb hcs hdz hp.cells (by rw [hp.size]; omega) (fun e => by have h := hp.cells; rw [e, hrb] at h; simp at h) (fun e => by rw [e, hrb] at hcs; simp at hcs) (fun e => hp.ne (by rw [e]; rfl))
    have hm0 : 0 < m := by rw [hm]; exact Nat.lt_min.2 ⟨by omega, hk⟩
    clear hrb hcs hdz hcz hm
    go_enter Tryd.func14, Tryd.ntmps14
    go_wp2_with fail
    refine q1.mono ?_
    rintro e w4 ⟨rfl, hb4, hS4, row', hr4, hr5, hr6, _⟩
    go_wp2_with fail
    go_ret2
    obtain ⟨S', P'⟩ := streamed S hp hb4 hS4 hr4 hr5
    refine ⟨_, row', .nilIface, rfl, fun _ => rfl, fun h => absurd h (by omega), S', ?_, P', hr6⟩
    rw [Nat.sub_self]
    exact ⟨_, _, rfl, Nat.zero_le _, hcap, Or.inl rfl⟩
  · obtain rfl : pos = d := by omega
    obtain rfl : m = 0 := by rw [hm, Nat.sub_self]; exact Nat.zero_min _
    have gE : w.cell? ⟨0, 0, none⟩ = some (.iface 47 (.pointer (some aE))) := (S.bel.cell (p := ⟨0, 0, none⟩) (by simp; omega)).trans hE
    obtain ⟨da, dl, dc, hdv, hdl⟩ : ∃ da dl dc, dv = .slice da dl dc ∧ dl = pos := by
      rcases S.dat with ⟨h, h0⟩ | ⟨bd, cs, h, _⟩
      · exact ⟨_, _, _, h, h0.symm⟩
      · exact ⟨_, _, _, h, rfl⟩
    subst hdv hdl
    have q1 := read_end bb da dl dc dl pr (.slice (some ⟨gp, 0, none⟩) k k) _ aE w (Nat.le_refl _) rfl gE hrb
    clear hrb gE hE hm
    go_enter Tryd.func14, Tryd.ntmps14
    go_wp2_with fail
    refine q1.mono ?_
    rintro e w4 ⟨rfl, q, rfl⟩
    go_wp2_with fail
    go_ret2
    refine ⟨_, row, _, rfl, fun h => absurd rfl h, fun _ => ⟨_, rfl⟩, ⟨below_drewN S.bel q, S.dat, S.rb, S.rh, S.bge, S.hge⟩, ?_, ⟨hp.cells, hp.size, hp.ge, hp.ne⟩, fun i hi => absurd hi (by omega)⟩
    rw [Nat.sub_self]
    exact ⟨_, _, rfl, Nat.zero_le _, hcap, Or.inl rfl⟩
end Go.Proofs.Qxb6616506aDoor
