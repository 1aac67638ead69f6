import Derived.Test.Qxb6616580aE
namespace Go.Proofs.Qxb6616580a
open Go.RowKit

def Post4 (w : World) (e : Ending) (w' : World) : Prop := e = .returned (.bool true) ∧ Below w.heap.size w w'

set_option maxRecDepth 100000 in
set_option maxHeartbeats 1000000 in
theorem law_any (n1 n2 n3 n4 n5 : Int) (w : World) (x1 x2 x3 x4 x5 : Nat) (d1 d2 d3 d4 d5 : Int) (q1 : ∀ w, Calls Try.prog 7 #[.int .i64 n1] w (Post7 x1 d1 w)) (q2 : ∀ w, Calls Try.prog 7 #[.int .i64 n2] w (Post7 x2 d2 w))
    (q3 : ∀ w, Calls Try.prog 7 #[.int .i64 n3] w (Post7 x3 d3 w)) (q4 : ∀ w, Calls Try.prog 7 #[.int .i64 n4] w (Post7 x4 d4 w)) (q5 : ∀ w, Calls Try.prog 7 #[.int .i64 n5] w (Post7 x5 d5 w)) :
    Calls Try.prog 4 #[.int .i64 n1, .int .i64 n2, .int .i64 n3, .int .i64 n4, .int .i64 n5] w (Post4 w) := by
  go_enter Try.func4, Try.ntmps4
  go_wp2_with fail
  refine (new_any n1 n2 x1 x2 d1 d2 q1 q2 w).mono ?_
  rintro e w1 ⟨g1, rfl, hg1, r1, hb1⟩
  clear q1 q2
  have HB1 : Hid (Below w.heap.size w w1) := hb1
  clear hb1
  go_wp2_with fail
  refine (new_any n3 n4 x3 x4 d3 d4 q3 q4 w1).mono ?_
  rintro e w2 ⟨g2, rfl, hg2, r2, hb2⟩
  have hl1 : g1 < w1.heap.size := (Array.getElem?_eq_some_iff.1 r1).1
  have r1' := (hb2.block g1 hl1).trans r1
  have HB2 : Hid (Below w.heap.size w w2) := HB1.out.trans (hb2.mono HB1.out.size)
  have hne : g1 < g2 := by omega
  clear hb2 r1 HB1 hl1
  go_wp2_with fail
  refine (zztimes_any g1 w2).mono ?_
  rintro e w3 ⟨rfl, hb3⟩
  have l1 : g1 < w2.heap.size := (Array.getElem?_eq_some_iff.1 r1').1
  have l2 : g2 < w2.heap.size := (Array.getElem?_eq_some_iff.1 r2).1
  have s1 := (hb3.block g1 l1).trans r1'
  have s2 := (hb3.block g2 l2).trans r2
  have HB3 : Hid (Below w.heap.size w w3) := HB2.out.trans (hb3.mono HB2.out.size)
  clear hb3 r1' r2 HB2 l1 l2
  go_wp2_with fail
  refine (zztimes_any g2 w3).mono ?_
  rintro e w4 ⟨rfl, hb4⟩
  have l1 : g1 < w3.heap.size := (Array.getElem?_eq_some_iff.1 s1).1
  have l2 : g2 < w3.heap.size := (Array.getElem?_eq_some_iff.1 s2).1
  have t1 := (hb4.block g1 l1).trans s1
  have t2 := (hb4.block g2 l2).trans s2
  have HB4 : Hid (Below w.heap.size w w4) := HB3.out.trans (hb4.mono HB3.out.size)
  clear hb4 s1 s2 HB3 l1 l2
  have p1 := ptr_other g1 g2 7 7 _ _ w4 (by omega) t1 t2
  have p2 := ptr_other g1 g2 7 10 _ _ w4 (by omega) t1 t2
  have p3 := ptr_other g1 g2 10 7 _ _ w4 (by omega) t1 t2
  have p4 := ptr_other g1 g2 10 10 _ _ w4 (by omega) t1 t2
  go_wp2_with fail
  refine (q5 _).mono ?_
  clear q5 p1 p2 p3 p4
  rintro e w5 ⟨rfl, hb5⟩
  have l1 : g1 < w4.heap.size := (Array.getElem?_eq_some_iff.1 t1).1
  have l2 : g2 < w4.heap.size := (Array.getElem?_eq_some_iff.1 t2).1
  have u1 := (hb5.block g1 l1).trans t1
  have u2 := (hb5.block g2 l2).trans t2
  have HB5 : Hid (Below w.heap.size w w5) := HB4.out.trans (hb5.mono HB4.out.size)
  clear hb5 t1 t2 HB4 l1 l2
  have k1 : g1 < w5.heap.size := (Array.getElem?_eq_some_iff.1 u1).1
  have k2 : g2 < w5.heap.size := (Array.getElem?_eq_some_iff.1 u2).1
  have c7 : w5.cell? ⟨g1, 7, none⟩ = some (.int .u64 (x1 : Int)) := by simpa [annCells] using cell_of_row w5 g1 7 _ _ _ u1
  have z7 := frozen_of_row w5 g1 7 _ _ u1
  have c8 : w5.cell? ⟨g1, 8, none⟩ = some (.int .i64 d1) := by simpa [annCells] using cell_of_row w5 g1 8 _ _ _ u1
  have z8 := frozen_of_row w5 g1 8 _ _ u1
  have c9 : w5.cell? ⟨g1, 9, none⟩ = some (.pointer none) := by simpa [annCells] using cell_of_row w5 g1 9 _ _ _ u1
  have z9 := frozen_of_row w5 g1 9 _ _ u1
  have c10 : w5.cell? ⟨g1, 10, none⟩ = some (.int .u64 (x2 : Int)) := by simpa [annCells] using cell_of_row w5 g1 10 _ _ _ u1
  have z10 := frozen_of_row w5 g1 10 _ _ u1
  have c11 : w5.cell? ⟨g1, 11, none⟩ = some (.int .i64 d2) := by simpa [annCells] using cell_of_row w5 g1 11 _ _ _ u1
  have z11 := frozen_of_row w5 g1 11 _ _ u1
  have c12 : w5.cell? ⟨g1, 12, none⟩ = some (.pointer none) := by simpa [annCells] using cell_of_row w5 g1 12 _ _ _ u1
  have z12 := frozen_of_row w5 g1 12 _ _ u1
  go_wp2_with fail
  obtain ⟨W, hW⟩ : ∃ W, W = (((((((w5.setCell ⟨g1, 7, none⟩ (.int .u64 (x5 : Int))).setCell ⟨g1, 8, none⟩ (.int .i64 d5)).setCell ⟨g1, 9, none⟩ (.pointer none)).setCell ⟨g1, 10, none⟩ (.int .u64 (x5 : Int))).setCell ⟨g1, 11, none⟩ (.int .i64 d5)).setCell ⟨g1, 12, none⟩ (.pointer none)).alloc (.cells #[.int .u64 (x5 : Int), .int .i64 d5, .pointer none] 30)) := ⟨_, rfl⟩
  rw [← hW]
  have a1 : W.heap[g1]? = some (.cells (annCells x5 d5 x5 d5) 44 (0, 0)) := by
    rw [hW, Below.heap_alloc _ _ _ (by simpa using k1)]
    rw [heap_setCell_same _ _ _ _ _ _ (heap_setCell_same _ _ _ _ _ _ (heap_setCell_same _ _ _ _ _ _ (heap_setCell_same _ _ _ _ _ _ (heap_setCell_same _ _ _ _ _ _ (heap_setCell_same _ _ _ _ _ _ u1)))))]
    rfl
  have a2 : W.heap[g2]? = some (.cells (annCells x3 d3 x4 d4) 44 (0, 0)) := by
    rw [hW, Below.heap_alloc _ _ _ (by simpa using k2)]
    iterate 6 rw [heap_setCell_other _ _ _ _ (by simp; omega)]
    exact u2
  have a3 : W.heap[w5.heap.size]? = some (.cells #[.int .u64 (x5 : Int), .int .i64 d5, .pointer none] 30 (0, 0)) := by
    rw [hW]
    have := heap_alloc_new ((((((w5.setCell ⟨g1, 7, none⟩ (.int .u64 (x5 : Int))).setCell ⟨g1, 8, none⟩ (.int .i64 d5)).setCell ⟨g1, 9, none⟩ (.pointer none)).setCell ⟨g1, 10, none⟩ (.int .u64 (x5 : Int))).setCell ⟨g1, 11, none⟩ (.int .i64 d5)).setCell ⟨g1, 12, none⟩ (.pointer none)) (.cells #[.int .u64 (x5 : Int), .int .i64 d5, .pointer none] 30)
    simpa using this
  have HB : Hid (Below w.heap.size w W) := by
    rw [hW]
    have b := (((((HB5.out.setCell (p := ⟨g1, 7, none⟩) hg1 (.int .u64 (x5 : Int))).setCell (p := ⟨g1, 8, none⟩) hg1 (.int .i64 d5)).setCell (p := ⟨g1, 9, none⟩) hg1 (.pointer none)).setCell (p := ⟨g1, 10, none⟩) hg1 (.int .u64 (x5 : Int))).setCell (p := ⟨g1, 11, none⟩) hg1 (.int .i64 d5)).setCell (p := ⟨g1, 12, none⟩) hg1 (.pointer none)
    exact b.alloc b.size _
  obtain ⟨gt, hgt⟩ : ∃ gt, gt = w5.heap.size := ⟨_, rfl⟩
  rw [← hgt] at a3
  rw [← hgt]
  clear hW hgt u1 u2 k1 k2 HB5 c7 c8 c9 c10 c11 c12 z7 z8 z9 z10 z11 z12
  have y7 : W.cell? ⟨g1, 7, none⟩ = some (.int .u64 (x5 : Int)) := by simpa [annCells] using cell_of_row W g1 7 _ _ _ a1
  have y8 : W.cell? ⟨g1, 8, none⟩ = some (.int .i64 d5) := by simpa [annCells] using cell_of_row W g1 8 _ _ _ a1
  have y9 : W.cell? ⟨g1, 9, none⟩ = some (.pointer none) := by simpa [annCells] using cell_of_row W g1 9 _ _ _ a1
  have y10 : W.cell? ⟨g1, 10, none⟩ = some (.int .u64 (x5 : Int)) := by simpa [annCells] using cell_of_row W g1 10 _ _ _ a1
  have y11 : W.cell? ⟨g1, 11, none⟩ = some (.int .i64 d5) := by simpa [annCells] using cell_of_row W g1 11 _ _ _ a1
  have y12 : W.cell? ⟨g1, 12, none⟩ = some (.pointer none) := by simpa [annCells] using cell_of_row W g1 12 _ _ _ a1
  have t0 : W.cell? ⟨gt, 0, none⟩ = some (.int .u64 (x5 : Int)) := by simpa using cell_of_row W gt 0 _ _ _ a3
  have t1 : W.cell? ⟨gt, 1, none⟩ = some (.int .i64 d5) := by simpa using cell_of_row W gt 1 _ _ _ a3
  have t2 : W.cell? ⟨gt, 2, none⟩ = some (.pointer none) := by simpa using cell_of_row W gt 2 _ _ _ a3
  have hst := stood30
  have hns := nil_same
  go_quiet (fail)
  go_wp2_with fail
  obtain ⟨V, hV⟩ : ∃ V, V = W.drewN nq := ⟨_, rfl⟩
  rw [← hV]
  have K : Keep w g2 x3 d3 x4 d4 V := by rw [hV]; exact Keep.drewN ⟨a2, HB.out⟩ nq
  clear hV a1 a2 a3 HB y7 y8 y9 y10 y11 y12 t0 t1 t2
  have K' := K.drew
  obtain ⟨e7, e8, e9, e10, e11, e12⟩ := K.cells
  clear K
  go_region_held3 (fun w' => w'.cell? ⟨g2, 7, none⟩ = some (.int .u64 (x3 : Int)) ∧ w'.cell? ⟨g2, 8, none⟩ = some (.int .i64 d3) ∧ w'.cell? ⟨g2, 9, none⟩ = some (.pointer none) ∧ w'.cell? ⟨g2, 10, none⟩ = some (.int .u64 (x4 : Int)) ∧ w'.cell? ⟨g2, 11, none⟩ = some (.int .i64 d4) ∧ w'.cell? ⟨g2, 12, none⟩ = some (.pointer none) ∧ Keep w g2 x3 d3 x4 d4 w') (go_keep)
    ((first
      | (go_at_call 7; refine (timeAt_keep (w := w) (g := g2) (x3 := x3) (d3 := d3) (x4 := x4) (d4 := d4) q3 _ (by assumption)).mono ?_; rintro e w8 ⟨rfl, K8⟩; obtain ⟨j7, j8, j9, j10, j11, j12⟩ := K8.cells)
      | (go_at_call 7; refine (timeAt_keep (w := w) (g := g2) (x3 := x3) (d3 := d3) (x4 := x4) (d4 := d4) q4 _ (by assumption)).mono ?_; rintro e w9 ⟨rfl, K9⟩; obtain ⟨l7, l8, l9, l10, l11, l12⟩ := K9.cells)))
  clear K' e7 e8 e9 e10 e11 e12 K8 j7 j8 j9 j10 j11 j12 l7 l8 l9 l10 l11 l12
  rename_i hHeld
  clear hHeld
  go_wp2_with fail
  have K' := K9.drew
  obtain ⟨e7, e8, e9, e10, e11, e12⟩ := K9.cells
  clear K9
  go_region_held3 (fun w' => w'.cell? ⟨g2, 7, none⟩ = some (.int .u64 (x3 : Int)) ∧ w'.cell? ⟨g2, 8, none⟩ = some (.int .i64 d3) ∧ w'.cell? ⟨g2, 9, none⟩ = some (.pointer none) ∧ w'.cell? ⟨g2, 10, none⟩ = some (.int .u64 (x4 : Int)) ∧ w'.cell? ⟨g2, 11, none⟩ = some (.int .i64 d4) ∧ w'.cell? ⟨g2, 12, none⟩ = some (.pointer none) ∧ Keep w g2 x3 d3 x4 d4 w') (go_keep)
    ((first
      | (go_at_call 7; refine (timeAt_keep (w := w) (g := g2) (x3 := x3) (d3 := d3) (x4 := x4) (d4 := d4) q3 _ (by assumption)).mono ?_; rintro e w10 ⟨rfl, K10⟩; obtain ⟨j7, j8, j9, j10, j11, j12⟩ := K10.cells)
      | (go_at_call 7; refine (timeAt_keep (w := w) (g := g2) (x3 := x3) (d3 := d3) (x4 := x4) (d4 := d4) q4 _ (by assumption)).mono ?_; rintro e w11 ⟨rfl, K11⟩; obtain ⟨l7, l8, l9, l10, l11, l12⟩ := K11.cells)))
  clear K' e7 e8 e9 e10 e11 e12 K10 j7 j8 j9 j10 j11 j12 l7 l8 l9 l10 l11 l12 q3 q4
  rename_i hHeld
  clear hHeld
  have b1 : willS.toList = [119, 105, 108, 108, 66, 101, 82, 101, 118, 111, 107, 101, 100, 65, 116] := by kernel_rfl
  have b2 : badS.toList = [98, 97, 100, 83, 105, 110, 99, 101, 68, 97, 116, 101] := by kernel_rfl
  go_wp2_with fail
  go_ret
  exact ⟨rfl, K11.2⟩
end Go.Proofs.Qxb6616580a
