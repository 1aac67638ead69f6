import Derived.Test.Qxb6616580aA
namespace Go.Proofs.Qxb6616580a
open Go.RowKit

set_option maxRecDepth 100000 in
set_option maxHeartbeats 1000000 in
theorem add_neg (ns q r : Int) (w : World) (hq : ns.tdiv 1000000000 = q) (hr : ns.tmod 1000000000 = r) (hq1 : -9223372037 < q) (hq2 : q ≤ 0) (hr1 : -1000000000 < r) (hr2 : r < 0) (x : Nat) (d : Int) (hx : r + 1000000000 = (x : Int)) (hd : q - 1 = d) :
    Calls Try.prog 9 #[.agg #[.int .u64 0, .int .i64 0, .pointer none], .int .i64 ns] w (Post9 x d w) := by
  have hxl : x < 1000000000 := by omega
  have hdl : -9223372037 ≤ d ∧ d ≤ 9223372036 := by omega
  have e1 : Hid (bits .andNot .u64 0 1073741823 = 0) := andNot_zero
  have e2 : Hid (bits .or .u64 0 (x : Int) = (x : Int)) := or_zero x hxl
  have e3 : Hid (bits .and .u64 (x : Int) 9223372036854775808 = 0) := nomono x (by omega)
  go_enter Try.func9, Try.ntmps9
  go_wp2_with fail
  obtain ⟨W, hW⟩ : ∃ W, W = (w.alloc (.cells #[.int .u64 0, .int .i64 0, .pointer none] 30)).alloc (.cells #[.int .u64 0, .int .i64 0, .pointer none] 30) := ⟨_, rfl⟩
  have r0 : W.heap[w.heap.size]? = some (.cells #[.int .u64 0, .int .i64 0, .pointer none] 30 (0, 0)) := by
    rw [hW, Below.heap_alloc _ _ _ (by simp)]; exact heap_alloc_new _ _
  have r1 : W.heap[w.heap.size + 1]? = some (.cells #[.int .u64 0, .int .i64 0, .pointer none] 30 (0, 0)) := by
    have := heap_alloc_new (w.alloc (.cells #[.int .u64 0, .int .i64 0, .pointer none] 30)) (.cells #[.int .u64 0, .int .i64 0, .pointer none] 30)
    rw [World.size_alloc] at this
    rw [hW]; exact this
  have HB : Hid (Below w.heap.size w W) := by rw [hW]; exact ((Below.refl _ _).alloc (Nat.le_refl _) _).alloc (by simp) _
  rw [← hW]
  obtain ⟨b0, hb0, hb0'⟩ : ∃ b0, b0 = w.heap.size ∧ w.heap.size ≤ b0 := ⟨_, rfl, Nat.le_refl _⟩
  obtain ⟨b1, hb1, hb1'⟩ : ∃ b1, b1 = w.heap.size + 1 ∧ w.heap.size ≤ b1 := ⟨_, rfl, by omega⟩
  have hne : b0 ≠ b1 := by omega
  rw [← hb0] at r0
  rw [← hb1] at r1
  rw [← hb1, ← hb0]
  clear hb0 hb1 hW
  have c0 : W.cell? ⟨b0, 0, none⟩ = some (.int .u64 0) := by simpa using cell_of_row W b0 0 _ _ _ r0
  have f0 := frozen_of_row W b0 0 _ _ r0
  refine (nsec_zero b0 W c0).mono ?_
  rintro e w2 ⟨rfl, rfl⟩
  have HX : Hid (r + 1000000000 = (x : Int)) := hx
  have HD : Hid (q - 1 = d) := hd
  clear hx hd
  have HXL : Hid (x < 1000000000 ∧ -9223372037 ≤ d ∧ d ≤ 9223372036) := ⟨hxl, hdl⟩
  clear hdl hxl
  go_wp2_with fail
  obtain ⟨hxl, hdl⟩ := HXL.out
  clear HXL
  rw [e1.out, HX.out, e2.out, HD.out]
  obtain ⟨W3, hW3⟩ : ∃ W3, W3 = w2.setCell ⟨b0, 0, none⟩ (.int .u64 (x : Int)) := ⟨_, rfl⟩
  rw [← hW3]
  have s0 : W3.heap[b0]? = some (.cells #[.int .u64 (x : Int), .int .i64 0, .pointer none] 30 (0, 0)) := by
    rw [hW3, heap_setCell_same _ _ _ _ _ _ r0]; rfl
  have s1 : W3.heap[b1]? = some (.cells #[.int .u64 0, .int .i64 0, .pointer none] 30 (0, 0)) := by
    rw [hW3, heap_setCell_other _ _ _ _ (by simpa using fun h => hne h.symm)]; exact r1
  have HB3 : Hid (Below w.heap.size w W3) := by rw [hW3]; exact HB.out.setCell (p := ⟨b0, 0, none⟩) hb0' _
  clear hW3 r0 r1 c0 f0 HB
  have k0 : W3.cell? ⟨b0, 0, none⟩ = some (.int .u64 (x : Int)) := by simpa using cell_of_row W3 b0 0 _ _ _ s0
  have k1 : W3.cell? ⟨b0, 1, none⟩ = some (.int .i64 0) := by simpa using cell_of_row W3 b0 1 _ _ _ s0
  have f1 := frozen_of_row W3 b0 1 _ _ s0
  refine (addSec_any b0 x d W3 hxl (by omega) (by omega) k0 k1 f1).mono ?_
  rintro e w4 ⟨⟨v, rfl⟩, hw4⟩
  have t0 : w4.heap[b0]? = some (.cells #[.int .u64 (x : Int), .int .i64 d, .pointer none] 30 (0, 0)) := by
    rw [hw4, heap_setCell_same _ _ _ _ _ _ s0]; rfl
  have t1 : w4.heap[b1]? = some (.cells #[.int .u64 0, .int .i64 0, .pointer none] 30 (0, 0)) := by
    rw [hw4, heap_setCell_other _ _ _ _ (by simpa using fun h => hne h.symm)]; exact s1
  have HB4 : Hid (Below w.heap.size w w4) := by rw [hw4]; exact HB3.out.setCell (p := ⟨b0, 1, none⟩) hb0' _
  clear hw4 s0 s1 k0 k1 f1 HB3
  have k0 : w4.cell? ⟨b0, 0, none⟩ = some (.int .u64 (x : Int)) := by simpa using cell_of_row w4 b0 0 _ _ _ t0
  have k1 : w4.cell? ⟨b0, 1, none⟩ = some (.int .i64 d) := by simpa using cell_of_row w4 b0 1 _ _ _ t0
  have k2 : w4.cell? ⟨b0, 2, none⟩ = some (.pointer none) := by simpa using cell_of_row w4 b0 2 _ _ _ t0
  have m0 : w4.cell? ⟨b1, 0, none⟩ = some (.int .u64 0) := by simpa using cell_of_row w4 b1 0 _ _ _ t1
  have m1 : w4.cell? ⟨b1, 1, none⟩ = some (.int .i64 0) := by simpa using cell_of_row w4 b1 1 _ _ _ t1
  have m2 : w4.cell? ⟨b1, 2, none⟩ = some (.pointer none) := by simpa using cell_of_row w4 b1 2 _ _ _ t1
  have n0 := frozen_of_row w4 b1 0 _ _ t1
  have n1 := frozen_of_row w4 b1 1 _ _ t1
  have n2 := frozen_of_row w4 b1 2 _ _ t1
  have e3' := e3.out
  clear HX HD hxl hdl
  go_wp2_with fail
  refine bodyPost_ret (v := .agg #[.int .u64 (x : Int), .int .i64 d, .pointer none]) (by simp [results, Try.f9, go_sem, m0, m1, m2]) rfl ⟨rfl, ?_⟩
  exact ((HB4.out.setCell (p := ⟨b1, 0, none⟩) hb1' _).setCell (p := ⟨b1, 1, none⟩) hb1' _).setCell (p := ⟨b1, 2, none⟩) hb1' _
set_option maxRecDepth 100000 in
set_option maxHeartbeats 1000000 in
theorem add_whole (ns q : Int) (w : World) (hq : ns.tdiv 1000000000 = q) (hr : ns.tmod 1000000000 = 0) (hq1 : -9223372037 < q) (hq2 : q ≤ 0)  :
    Calls Try.prog 9 #[.agg #[.int .u64 0, .int .i64 0, .pointer none], .int .i64 ns] w (Post9 0 q w) := by
  have e1 : Hid (bits .andNot .u64 0 1073741823 = 0) := andNot_zero
  have e2 : Hid (bits .or .u64 0 0 = 0) := (by simpa using or_zero 0 (by omega) : bits .or .u64 0 0 = 0)
  have e3 : Hid (bits .and .u64 0 9223372036854775808 = 0) := (by simpa using nomono 0 (by omega) : bits .and .u64 0 9223372036854775808 = 0)
  go_enter Try.func9, Try.ntmps9
  go_wp2_with fail
  obtain ⟨W, hW⟩ : ∃ W, W = (w.alloc (.cells #[.int .u64 0, .int .i64 0, .pointer none] 30)).alloc (.cells #[.int .u64 0, .int .i64 0, .pointer none] 30) := ⟨_, rfl⟩
  have r0 : W.heap[w.heap.size]? = some (.cells #[.int .u64 0, .int .i64 0, .pointer none] 30 (0, 0)) := by
    rw [hW, Below.heap_alloc _ _ _ (by simp)]; exact heap_alloc_new _ _
  have r1 : W.heap[w.heap.size + 1]? = some (.cells #[.int .u64 0, .int .i64 0, .pointer none] 30 (0, 0)) := by
    have := heap_alloc_new (w.alloc (.cells #[.int .u64 0, .int .i64 0, .pointer none] 30)) (.cells #[.int .u64 0, .int .i64 0, .pointer none] 30)
    rw [World.size_alloc] at this
    rw [hW]; exact this
  have HB : Hid (Below w.heap.size w W) := by rw [hW]; exact ((Below.refl _ _).alloc (Nat.le_refl _) _).alloc (by simp) _
  rw [← hW]
  obtain ⟨b0, hb0, hb0'⟩ : ∃ b0, b0 = w.heap.size ∧ w.heap.size ≤ b0 := ⟨_, rfl, Nat.le_refl _⟩
  obtain ⟨b1, hb1, hb1'⟩ : ∃ b1, b1 = w.heap.size + 1 ∧ w.heap.size ≤ b1 := ⟨_, rfl, by omega⟩
  have hne : b0 ≠ b1 := by omega
  rw [← hb0] at r0
  rw [← hb1] at r1
  rw [← hb1, ← hb0]
  clear hb0 hb1 hW
  have c0 : W.cell? ⟨b0, 0, none⟩ = some (.int .u64 0) := by simpa using cell_of_row W b0 0 _ _ _ r0
  have f0 := frozen_of_row W b0 0 _ _ r0
  refine (nsec_zero b0 W c0).mono ?_
  rintro e w2 ⟨rfl, rfl⟩
  go_wp2_with fail
  try rw [e1.out]
  rw [e2.out]
  obtain ⟨W3, hW3⟩ : ∃ W3, W3 = w2.setCell ⟨b0, 0, none⟩ (.int .u64 0) := ⟨_, rfl⟩
  rw [← hW3]
  have s0 : W3.heap[b0]? = some (.cells #[.int .u64 0, .int .i64 0, .pointer none] 30 (0, 0)) := by
    rw [hW3, heap_setCell_same _ _ _ _ _ _ r0]; rfl
  have s1 : W3.heap[b1]? = some (.cells #[.int .u64 0, .int .i64 0, .pointer none] 30 (0, 0)) := by
    rw [hW3, heap_setCell_other _ _ _ _ (by simpa using fun h => hne h.symm)]; exact r1
  have HB3 : Hid (Below w.heap.size w W3) := by rw [hW3]; exact HB.out.setCell (p := ⟨b0, 0, none⟩) hb0' _
  clear hW3 r0 r1 c0 f0 HB
  have k0 : W3.cell? ⟨b0, 0, none⟩ = some (.int .u64 0) := by simpa using cell_of_row W3 b0 0 _ _ _ s0
  have k1 : W3.cell? ⟨b0, 1, none⟩ = some (.int .i64 0) := by simpa using cell_of_row W3 b0 1 _ _ _ s0
  have f1 := frozen_of_row W3 b0 1 _ _ s0
  refine (addSec_any b0 0 q W3 (by omega) (by omega) (by omega) (by simpa using k0) k1 f1).mono ?_
  rintro e w4 ⟨⟨v, rfl⟩, hw4⟩
  have t0 : w4.heap[b0]? = some (.cells #[.int .u64 0, .int .i64 q, .pointer none] 30 (0, 0)) := by
    rw [hw4, heap_setCell_same _ _ _ _ _ _ s0]; rfl
  have t1 : w4.heap[b1]? = some (.cells #[.int .u64 0, .int .i64 0, .pointer none] 30 (0, 0)) := by
    rw [hw4, heap_setCell_other _ _ _ _ (by simpa using fun h => hne h.symm)]; exact s1
  have HB4 : Hid (Below w.heap.size w w4) := by rw [hw4]; exact HB3.out.setCell (p := ⟨b0, 1, none⟩) hb0' _
  clear hw4 s0 s1 k0 k1 f1 HB3
  have k0 : w4.cell? ⟨b0, 0, none⟩ = some (.int .u64 0) := by simpa using cell_of_row w4 b0 0 _ _ _ t0
  have k1 : w4.cell? ⟨b0, 1, none⟩ = some (.int .i64 q) := by simpa using cell_of_row w4 b0 1 _ _ _ t0
  have k2 : w4.cell? ⟨b0, 2, none⟩ = some (.pointer none) := by simpa using cell_of_row w4 b0 2 _ _ _ t0
  have m0 : w4.cell? ⟨b1, 0, none⟩ = some (.int .u64 0) := by simpa using cell_of_row w4 b1 0 _ _ _ t1
  have m1 : w4.cell? ⟨b1, 1, none⟩ = some (.int .i64 0) := by simpa using cell_of_row w4 b1 1 _ _ _ t1
  have m2 : w4.cell? ⟨b1, 2, none⟩ = some (.pointer none) := by simpa using cell_of_row w4 b1 2 _ _ _ t1
  have n0 := frozen_of_row w4 b1 0 _ _ t1
  have n1 := frozen_of_row w4 b1 1 _ _ t1
  have n2 := frozen_of_row w4 b1 2 _ _ t1
  have e3' := e3.out
  go_wp2_with fail
  refine bodyPost_ret (v := .agg #[.int .u64 0, .int .i64 q, .pointer none]) (by simp [results, Try.f9, go_sem, m0, m1, m2]) rfl ⟨rfl, ?_⟩
  exact ((HB4.out.setCell (p := ⟨b1, 0, none⟩) hb1' _).setCell (p := ⟨b1, 1, none⟩) hb1' _).setCell (p := ⟨b1, 2, none⟩) hb1' _
/-- 'time.Time{}.Add(ns)' hands back the same value wherever it is called. -/
theorem add_any (ns : Int) (h1 : -9223372036854775808 ≤ ns) (h2 : ns ≤ 9223372036854775807) :
    ∃ (x : Nat) (d : Int), ∀ w, Calls Try.prog 9 #[.agg #[.int .u64 0, .int .i64 0, .pointer none], .int .i64 ns] w (Post9 x d w) := by
  by_cases h0 : 0 ≤ ns
  · obtain ⟨x, hx⟩ : ∃ x : Nat, ns % 1000000000 = (x : Int) := ⟨(ns % 1000000000).toNat, by omega⟩
    exact ⟨x, ns / 1000000000, fun w => add_pos ns w h0 h2 x _ hx rfl⟩
  · have e1 : ns.tdiv 1000000000 = -((-ns) / 1000000000) := by
      have := Int.neg_tdiv (-ns) 1000000000
      rw [Int.neg_neg] at this
      rw [this, Int.tdiv_eq_ediv_of_nonneg (a := -ns) (by omega)]
    have e2 : ns.tmod 1000000000 = -((-ns) % 1000000000) := by
      have := Int.neg_tmod (-ns) 1000000000
      rw [Int.neg_neg] at this
      rw [this, Int.tmod_eq_emod_of_nonneg (a := -ns) (by omega)]
    by_cases hr : (-ns) % 1000000000 = 0
    · exact ⟨0, _, fun w => add_whole ns _ w e1 (by rw [e2, hr]; rfl) (by omega) (by omega)⟩
    · obtain ⟨x, hx⟩ : ∃ x : Nat, -((-ns) % 1000000000) + 1000000000 = (x : Int) := ⟨(-((-ns) % 1000000000) + 1000000000).toNat, by omega⟩
      exact ⟨x, _, fun w => add_neg ns _ _ w e1 e2 (by omega) (by omega) (by omega) (by omega) x _ hx rfl⟩

def Post7 (x : Nat) (d : Int) (w : World) (e : Ending) (w' : World) : Prop := e = .returned (.agg #[.int .u64 (x : Int), .int .i64 d, .pointer none]) ∧ Below w.heap.size w w'

set_option maxRecDepth 100000 in
set_option maxHeartbeats 1000000 in
theorem timeAt_any (ns : Int) (h1 : -9223372036854775808 ≤ ns) (h2 : ns ≤ 9223372036854775807) :
    ∃ (x : Nat) (d : Int), ∀ w, Calls Try.prog 7 #[.int .i64 ns] w (Post7 x d w) := by
  obtain ⟨x, d, q⟩ := add_any ns h1 h2
  refine ⟨x, d, fun w => ?_⟩
  clear h1 h2
  go_enter Try.func7, Try.ntmps7
  go_wp2_with fail
  refine (q _).mono ?_
  rintro e w2 ⟨rfl, hb⟩
  clear q
  have hr : w2.heap[w.heap.size]? = some (.cells #[.int .u64 0, .int .i64 0, .pointer none] 30 (0, 0)) := (hb.block _ (by simp)).trans (heap_alloc_new w _)
  have HB : Hid (Below w.heap.size w w2) := ((Below.refl _ w).alloc (Nat.le_refl _) _).trans (hb.mono (by simp))
  obtain ⟨g, hg, hg'⟩ : ∃ g, g = w.heap.size ∧ w.heap.size ≤ g := ⟨_, rfl, Nat.le_refl _⟩
  rw [← hg] at hr
  rw [← hg]
  clear hg hb
  have m0 : w2.cell? ⟨g, 0, none⟩ = some (.int .u64 0) := by simpa using cell_of_row w2 g 0 _ _ _ hr
  have m1 : w2.cell? ⟨g, 1, none⟩ = some (.int .i64 0) := by simpa using cell_of_row w2 g 1 _ _ _ hr
  have m2 : w2.cell? ⟨g, 2, none⟩ = some (.pointer none) := by simpa using cell_of_row w2 g 2 _ _ _ hr
  have n0 := frozen_of_row w2 g 0 _ _ hr
  have n1 := frozen_of_row w2 g 1 _ _ hr
  have n2 := frozen_of_row w2 g 2 _ _ hr
  go_wp2_with fail
  refine bodyPost_ret (v := .agg #[.int .u64 (x : Int), .int .i64 d, .pointer none]) (by simp [results, Try.f7, go_sem, m0, m1, m2]) rfl ⟨rfl, ?_⟩
  exact ((HB.out.setCell (p := ⟨g, 0, none⟩) hg' _).setCell (p := ⟨g, 1, none⟩) hg' _).setCell (p := ⟨g, 2, none⟩) hg' _
end Go.Proofs.Qxb6616580a
