import Derived.Test.Qxb6616506aDoorA
namespace Go.Proofs.Qxb6616506aDoor
open Go.RowKit

/-- Only the blocks of S may have turned. -/
structure Same (w w' : World) (S : Nat → Prop) : Prop where
  os : w'.os = w.os
  tape : w'.tape = w.tape
  output : w'.output = w.output
  size : w'.heap.size = w.heap.size
  block : ∀ k, ¬ S k → w'.heap[k]? = w.heap[k]?

theorem Same.refl (w : World) (S : Nat → Prop) : Same w w S := ⟨rfl, rfl, rfl, rfl, fun _ _ => rfl⟩
theorem Same.trans {a b c : World} {S : Nat → Prop} (h : Same a b S) (k : Same b c S) : Same a c S :=
  ⟨k.os.trans h.os, k.tape.trans h.tape, k.output.trans h.output, k.size.trans h.size, fun i hi => (k.block i hi).trans (h.block i hi)⟩
theorem Same.mono {a b : World} {S T : Nat → Prop} (h : Same a b S) (hs : ∀ k, S k → T k) : Same a b T := ⟨h.os, h.tape, h.output, h.size, fun k hk => h.block k (fun h' => hk (hs k h'))⟩
theorem Same.drewN {a b : World} {S : Nat → Prop} (h : Same a b S) (n : Nat) : Same a (b.drewN n) S := ⟨h.os, h.tape, h.output, h.size, h.block⟩
theorem Same.drew {a b : World} {S : Nat → Prop} (h : Same a b S) : Same a b.drew S := ⟨h.os, h.tape, h.output, h.size, h.block⟩
theorem Same.setCell {a b : World} {S : Nat → Prop} (h : Same a b S) (p : Addr) (hp : S p.block) (v : Value) : Same a (b.setCell p v) S :=
  h.trans ⟨rfl, rfl, rfl, by simp [World.setCell], fun k hk => heap_setCell_other _ _ _ _ (fun e => hk (e ▸ hp))⟩
theorem Same.setRow {a b : World} {S : Nat → Prop} (h : Same a b S) (g : Nat) (hg : S g) (cs : Array Value) : Same a (b.setRow g cs) S :=
  h.trans ⟨rfl, rfl, rfl, by simp [World.setRow], fun k hk => setRow_other _ _ _ _ (fun e => hk (e ▸ hg))⟩
theorem Same.below {a b : World} {S : Nat → Prop} {B : Nat} (h : Same a b S) (hS : ∀ k, S k → B ≤ k) : Below B a b :=
  ⟨h.os, h.tape, h.output, by rw [h.size]; exact Nat.le_refl _, fun k hk => h.block k (fun h' => by have := hS k h'; omega)⟩
theorem Same.cell {a b : World} {S : Nat → Prop} (h : Same a b S) {p : Addr} (hp : ¬ S p.block) : b.cell? p = a.cell? p := World.cell?_of_block (h.block _ hp)

/-- The new row behind a copy. -/
theorem copy_run (w : World) (ty : TypeId) (g o n cap : Nat) (b p sl sc : Nat) (row : Array Value) (z : Nat → Int) (k : Nat) (m : Nat) (hm : m = Nat.min sl n)
    (hg : w.heap[g]? = some (.cells row 5 (0, 0))) (hsrc : ∀ j, j < m → w.cell? ⟨b, p + j, none⟩ = some (.int .u8 (z (k + j)))) (hfit : o + m ≤ row.size) :
    ∃ row', (Builtin.copy_ #[22, 22] ty #[.slice (some ⟨g, o, none⟩) n cap, .slice (some ⟨b, p, none⟩) sl sc]).run Tryd.prog w = .ok (.int .i64 (m : Int)) (w.setRow g row') ∧
      row'.size = row.size ∧ Seg row' o m z k ∧ ∀ i, i < o → row'[i]? = row[i]? := by
  have hlen : (((List.range m).map fun j => Value.int .u8 (z (k + j)))).length = m := by simp
  have hrun := run_copy_row (P := Tryd.prog) w 22 22 ty 5 g o n cap ⟨b, p, none⟩ sl sc row 5 ((List.range m).map fun j => Value.int .u8 (z (k + j))) Tryd.underlying22 (by kernel_rfl) hg (by rw [hlen]; exact hm)
    (by
      intro j v hj
      rw [List.getElem?_map] at hj
      by_cases hjm : j < m
      · rw [List.getElem?_range hjm] at hj
        simp only [Option.map_some, Option.some.injEq] at hj
        subst hj
        rw [Go.WideShapes.add_plain]
        exact hsrc j hjm
      · rw [List.getElem?_eq_none (by simp; omega)] at hj
        simp at hj)
    (by rw [hlen]; exact hfit)
    (by intro v hv; simp only [List.mem_map] at hv; obtain ⟨j, _, rfl⟩ := hv; rfl)
  rw [hlen] at hrun
  refine ⟨_, hrun, ?_, ?_, ?_⟩
  · simp
    omega
  · intro i hi
    simp only [List.getElem?_toArray, List.append_assoc]
    rw [List.getElem?_append_right (by simp; omega)]
    rw [List.getElem?_append_left (by simp; omega)]
    simp only [List.length_take, Array.length_toList, List.getElem?_map]
    rw [List.getElem?_range (by omega)]
    simp only [Option.map_some]
    rw [show o + i - min o row.size = i by omega]
  · intro i hi
    simp only [List.getElem?_toArray, List.append_assoc]
    rw [List.getElem?_append_left (by simp; omega)]
    simp [hi]

/-- What '(*bytes.Reader).Read' leaves where there is something left. -/
def Post32 (dv : Value) (bb g o m pos : Nat) (z : Nat → Int) (row : Array Value) (w : World) (e : Ending) (w' : World) : Prop :=
  e = .returned (.tuple #[.int .i64 (m : Int), .nilIface]) ∧ w'.heap[bb]? = some (.cells #[dv, .int .i64 ((pos + m : Nat) : Int), .int .i64 (-1)] 46 (0, 0)) ∧ Same w w' (fun k => k = bb ∨ k = g) ∧
    ∃ row', w'.heap[g]? = some (.cells row' 5 (0, 0)) ∧ row'.size = row.size ∧ Seg row' o m z pos ∧ ∀ i, i < o → row'[i]? = row[i]?

set_option maxHeartbeats 400000 in
theorem read_end (bb : Nat) (da : Option Addr) (d dc : Nat) (pos : Nat) (pr : Int) (bv eof : Value) (aE : Addr) (w : World) (hp : d ≤ pos) (heof : eof = .iface 47 (.pointer (some aE)))
    (hE : w.cell? ⟨0, 0, none⟩ = some eof) (rb : w.heap[bb]? = some (.cells #[.slice da d dc, .int .i64 pos, .int .i64 pr] 46 (0, 0))) :
    Calls Tryd.prog 32 #[.pointer (some ⟨bb, 0, none⟩), bv] w fun e w' => e = .returned (.tuple #[.int .i64 0, eof]) ∧ ∃ q, w' = w.drewN q := by
  subst heof
  have c0 : w.cell? ⟨bb, 0, none⟩ = some (.slice da d dc) := by simpa using cell_of_row w bb 0 _ _ _ rb
  have c1 : w.cell? ⟨bb, 1, none⟩ = some (.int .i64 pos) := by simpa using cell_of_row w bb 1 _ _ _ rb
  clear rb
  go_enter Tryd.func32, Tryd.ntmps32
  go_wp2_with fail
  go_quiet (fail)
  go_wp2_with fail
  go_quiet (fail)
  go_wp2_with fail
  go_ret2
  exact ⟨rfl, _, World.drewN_drewN _ _ _⟩

set_option maxRecDepth 100000 in
set_option maxHeartbeats 400000 in
theorem read_more (bb bd : Nat) (d : Nat) (pos m : Nat) (pr : Int) (g o n cap : Nat) (z : Nat → Int) (cs row : Array Value) (w : World) (hd : d ≤ 1048576) (hp : pos < d) (hm : m = Nat.min (d - pos) n)
    (rb : w.heap[bb]? = some (.cells #[.slice (some ⟨bd, 0, none⟩) d d, .int .i64 pos, .int .i64 pr] 46 (0, 0))) (hcs : w.heap[bd]? = some (.cells cs 5 (0, 0))) (hseg : Seg cs 0 d z 0)
    (hrow : w.heap[g]? = some (.cells row 5 (0, 0))) (hfit : o + n ≤ row.size) (hgb : g ≠ bb) (hdb : bd ≠ bb) (hgd : g ≠ bd) :
    Calls Tryd.prog 32 #[.pointer (some ⟨bb, 0, none⟩), .slice (some ⟨g, o, none⟩) n cap] w (Post32 (.slice (some ⟨bd, 0, none⟩) d d) bb g o m pos z row w) := by
  have c0 : w.cell? ⟨bb, 0, none⟩ = some (.slice (some ⟨bd, 0, none⟩) d d) := by simpa using cell_of_row w bb 0 _ _ _ rb
  have c1 : w.cell? ⟨bb, 1, none⟩ = some (.int .i64 pos) := by simpa using cell_of_row w bb 1 _ _ _ rb
  have c2 : w.cell? ⟨bb, 2, none⟩ = some (.int .i64 pr) := by simpa using cell_of_row w bb 2 _ _ _ rb
  have f2 := frozen_of_row w bb 2 _ _ rb
  go_enter Tryd.func32, Tryd.ntmps32
  go_wp2_with fail
  go_quiet (fail)
  go_wp2_with fail
  obtain ⟨W1, hW1⟩ : ∃ W1, W1 = (w.drewN nq).setCell ⟨bb, 2, none⟩ (.int .i64 (-1)) := ⟨_, rfl⟩
  rw [← hW1]
  have rb1 : W1.heap[bb]? = some (.cells #[.slice (some ⟨bd, 0, none⟩) d d, .int .i64 pos, .int .i64 (-1)] 46 (0, 0)) := by
    rw [hW1, heap_setCell_same _ _ _ _ _ _ (show (w.drewN nq).heap[bb]? = _ from rb)]
    rfl
  have hS1 : Same w W1 (fun k => k = bb ∨ k = g) := by rw [hW1]; exact ((Same.refl w _).drewN nq).setCell _ (Or.inl rfl) _
  have hcs1 : W1.heap[bd]? = some (.cells cs 5 (0, 0)) := (hS1.block bd (by omega)).trans hcs
  have hrow1 : W1.heap[g]? = some (.cells row 5 (0, 0)) := by
    rw [hW1, heap_setCell_other _ _ _ _ (by simpa using hgb)]
    exact hrow
  obtain ⟨row', hcp, hsz, hsg, hold⟩ := copy_run W1.drew 3 g o n cap bd pos (d - pos) (d - pos) row z pos m hm hrow1
    (fun j hj => by
      rw [cell_of_row W1.drew bd (pos + j) cs 5 _ hcs1]
      have hjd : pos + j < d := by
        have : m ≤ d - pos := by rw [hm]; exact Nat.min_le_left _ _
        omega
      have := hseg (pos + j) hjd
      simpa using this) (by have : m ≤ n := by rw [hm]; exact Nat.min_le_right _ _
                            omega)
  clear hW1 c0 c1 c2 f2 rb hcs hrow
  have c0 : W1.cell? ⟨bb, 0, none⟩ = some (.slice (some ⟨bd, 0, none⟩) d d) := by simpa using cell_of_row W1 bb 0 _ _ _ rb1
  have c1 : W1.cell? ⟨bb, 1, none⟩ = some (.int .i64 pos) := by simpa using cell_of_row W1 bb 1 _ _ _ rb1
  have hmd : m ≤ d := by
    have : m ≤ d - pos := by rw [hm]; exact Nat.min_le_left _ _
    omega
  have HM : Hid (m = Nat.min (d - pos) n) := hm
  clear hm
  go_region
  obtain ⟨W2, hW2⟩ : ∃ W2, W2 = W1.drew.setRow g row' := ⟨_, rfl⟩
  rw [← hW2]
  have hS2 : Same w W2 (fun k => k = bb ∨ k = g) := by rw [hW2]; exact hS1.drew.setRow g (Or.inr rfl) _
  have hrow2 : W2.heap[g]? = some (.cells row' 5 (0, 0)) := by rw [hW2]; exact setRow_heap _ _ _ _ _ _ (show W1.drew.heap[g]? = _ from hrow1)
  have rb2 : W2.heap[bb]? = some (.cells #[.slice (some ⟨bd, 0, none⟩) d d, .int .i64 pos, .int .i64 (-1)] 46 (0, 0)) := by
    rw [hW2, setRow_other _ _ _ _ (fun e => hgb e.symm)]
    exact rb1
  clear hW2 c0 c1 hcp rb1 hcs1 hrow1 hS1
  have c1 : W2.cell? ⟨bb, 1, none⟩ = some (.int .i64 pos) := by simpa using cell_of_row W2 bb 1 _ _ _ rb2
  have f1 := frozen_of_row W2 bb 1 _ _ rb2
  go_wp2_with fail
  go_ret2
  refine ⟨rfl, ?_, hS2.setCell _ (Or.inl rfl) _, row', ?_, hsz, hsg, hold⟩
  · rw [heap_setCell_same _ _ _ _ _ _ rb2]
    simp
  · rw [heap_setCell_other _ _ _ _ (by simpa using hgb)]
    exact hrow2
end Go.Proofs.Qxb6616506aDoor
