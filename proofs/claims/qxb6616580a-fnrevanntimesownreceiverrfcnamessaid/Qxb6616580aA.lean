import Derived.Test.Qxb6616580aRows
import Derived.WalkKit
import Derived.WalkSpells
import Derived.WalkLawsBesides
import Derived.RegionTactic
import Derived.Deep.QuietTactic
import Derived.BigQuiet
import Derived.Laws.Bits64b
import Derived.Laws.OwnMore
import Derived.Below
namespace Go.Proofs.Qxb6616580a
open Go.RowKit

theorem and_zero (m : Nat) (hm : m < 18446744073709551616) : bits .and .u64 0 (m : Int) = 0 := by
  have := bits_and_u64_nat 0 m (by omega) hm
  simpa using this

theorem nomono (x : Nat) (hx : x < 1073741824) : bits .and .u64 (x : Int) 9223372036854775808 = 0 := by
  have h := bits_and_u64_nat x 9223372036854775808 (by omega) (by omega)
  have e : x &&& 9223372036854775808 = 0 := by
    have h2 : (9223372036854775808 : Nat) = 2 ^ 63 := by decide
    rw [h2]
    apply Nat.eq_of_testBit_eq
    intro i
    rw [Nat.testBit_and, Nat.zero_testBit]
    by_cases hi : i = 63
    · subst hi
      rw [Nat.testBit_lt_two_pow (by omega)]
      rfl
    · rw [Nat.testBit_two_pow_of_ne (fun h => hi h.symm)]
      simp
  rw [e] at h
  simpa using h

set_option maxHeartbeats 400000 in
theorem nsec_zero (b : Nat) (w : World) (h : w.cell? ⟨b, 0, none⟩ = some (.int .u64 0)) :
    Calls Try.prog 11 #[.pointer (some ⟨b, 0, none⟩)] w fun e w' => e = .returned (.int .i32 0) ∧ w' = w := by
  have hz := and_zero 1073741823 (by omega)
  have hz' : bits .and .u64 0 1073741823 = 0 := by simpa using hz
  clear hz
  go_enter Try.func11, Try.ntmps11
  go_wp2_with fail
  go_ret
  exact ⟨rfl, rfl⟩

set_option maxRecDepth 100000 in
set_option maxHeartbeats 1000000 in
theorem addSec_any (b x : Nat) (d : Int) (w : World) (hx : x < 1000000000) (hd : -9223372037 ≤ d) (hd' : d ≤ 9223372037) (h0 : w.cell? ⟨b, 0, none⟩ = some (.int .u64 (x : Int))) (h1 : w.cell? ⟨b, 1, none⟩ = some (.int .i64 0)) (f1 : w.frozen? ⟨b, 1, none⟩ = false) :
    Calls Try.prog 12 #[.pointer (some ⟨b, 0, none⟩), .int .i64 d] w fun e w' => (∃ v, e = .returned v) ∧ w' = w.setCell ⟨b, 1, none⟩ (.int .i64 d) := by
  have hb : (bits .and .u64 (x : Int) 9223372036854775808 != 0) = false := by rw [nomono x (by omega)]; rfl
  have hdd : ∀ p : Bool, (p == p) = true := fun p => by simp
  go_enter Try.func12, Try.ntmps12
  go_wp2_with fail
  go_end0
  exact ⟨⟨_, rfl⟩, rfl⟩

/-- What 'Add' at the zero time hands back. -/
def Post9 (x : Nat) (d : Int) (w : World) (e : Ending) (w' : World) : Prop := e = .returned (.agg #[.int .u64 (x : Int), .int .i64 d, .pointer none]) ∧ Below w.heap.size w w'

theorem andNot_zero : bits .andNot .u64 0 1073741823 = 0 := by kernel_rfl
theorem or_zero (x : Nat) (hx : x < 1000000000) : bits .or .u64 0 (x : Int) = (x : Int) := by
  have := bits_or_u64_nat 0 x (by omega) (by omega)
  simpa using this

set_option maxRecDepth 100000 in
set_option maxHeartbeats 1000000 in
theorem add_pos (ns : Int) (w : World) (h0 : 0 ≤ ns) (h1 : ns ≤ 9223372036854775807) (x : Nat) (d : Int) (hx : ns % 1000000000 = (x : Int)) (hd : ns / 1000000000 = d) :
    Calls Try.prog 9 #[.agg #[.int .u64 0, .int .i64 0, .pointer none], .int .i64 ns] w (Post9 x d w) := by
  have hxl : x < 1000000000 := by omega
  have hdl : 0 ≤ d ∧ d ≤ 9223372036 := by omega
  have e1 : Hid (bits .andNot .u64 0 1073741823 = 0) := andNot_zero
  have e2 : Hid (bits .or .u64 0 (x : Int) = (x : Int)) := or_zero x hxl
  have e3 : Hid (bits .and .u64 (x : Int) 9223372036854775808 = 0) := nomono x (by omega)
  go_enter Try.func9, Try.ntmps9
  go_wp2_with fail
  obtain ⟨W, hW⟩ : ∃ W, W = (w.alloc (.cells #[.int .u64 0, .int .i64 0, .pointer none] 30)).alloc (.cells #[.int .u64 0, .int .i64 0, .pointer none] 30) := ⟨_, rfl⟩
  have r0 : W.heap[w.heap.size]? = some (.cells #[.int .u64 0, .int .i64 0, .pointer none] 30 (0, 0)) := by
    rw [hW, Below.heap_alloc _ _ _ (by simp)]; exact heap_alloc_new _ _
  have r1 : W.heap[w.heap.size + 1]? = some (.cells #[.int .u64 0, .int .i64 0, .pointer none] 30 (0, 0)) := by
    have := heap_alloc_new (w.alloc (.cells #[.int .u64 0, .int .i64 0, .pointer none] 30)) (.cells #[.int .u64 0, .int .i64 0, .pointer none] 30)
    rw [World.size_alloc] at this
    rw [hW]; exact this
  have HB : Hid (Below w.heap.size w W) := by rw [hW]; exact ((Below.refl _ _).alloc (Nat.le_refl _) _).alloc (by simp) _
  rw [← hW]
  obtain ⟨b0, hb0, hb0'⟩ : ∃ b0, b0 = w.heap.size ∧ w.heap.size ≤ b0 := ⟨_, rfl, Nat.le_refl _⟩
  obtain ⟨b1, hb1, hb1'⟩ : ∃ b1, b1 = w.heap.size + 1 ∧ w.heap.size ≤ b1 := ⟨_, rfl, by omega⟩
  have hne : b0 ≠ b1 := by omega
  rw [← hb0] at r0
  rw [← hb1] at r1
  rw [← hb1, ← hb0]
  clear hb0 hb1 hW
  have c0 : W.cell? ⟨b0, 0, none⟩ = some (.int .u64 0) := by simpa using cell_of_row W b0 0 _ _ _ r0
  have f0 := frozen_of_row W b0 0 _ _ r0
  refine (nsec_zero b0 W c0).mono ?_
  rintro e w2 ⟨rfl, rfl⟩
  have HX : Hid (ns % 1000000000 = (x : Int)) := hx
  have HD : Hid (ns / 1000000000 = d) := hd
  clear hx hd
  have HXL : Hid (x < 1000000000 ∧ 0 ≤ d ∧ d ≤ 9223372036) := ⟨hxl, hdl⟩
  clear hdl hxl
  go_wp2_with fail
  obtain ⟨hxl, hdl⟩ := HXL.out
  clear HXL
  rw [e1.out, HX.out, e2.out, HD.out]
  obtain ⟨W3, hW3⟩ : ∃ W3, W3 = w2.setCell ⟨b0, 0, none⟩ (.int .u64 (x : Int)) := ⟨_, rfl⟩
  rw [← hW3]
  have s0 : W3.heap[b0]? = some (.cells #[.int .u64 (x : Int), .int .i64 0, .pointer none] 30 (0, 0)) := by
    rw [hW3, heap_setCell_same _ _ _ _ _ _ r0]; rfl
  have s1 : W3.heap[b1]? = some (.cells #[.int .u64 0, .int .i64 0, .pointer none] 30 (0, 0)) := by
    rw [hW3, heap_setCell_other _ _ _ _ (by simpa using fun h => hne h.symm)]; exact r1
  have HB3 : Hid (Below w.heap.size w W3) := by rw [hW3]; exact HB.out.setCell (p := ⟨b0, 0, none⟩) hb0' _
  clear hW3 r0 r1 c0 f0 HB
  have k0 : W3.cell? ⟨b0, 0, none⟩ = some (.int .u64 (x : Int)) := by simpa using cell_of_row W3 b0 0 _ _ _ s0
  have k1 : W3.cell? ⟨b0, 1, none⟩ = some (.int .i64 0) := by simpa using cell_of_row W3 b0 1 _ _ _ s0
  have f1 := frozen_of_row W3 b0 1 _ _ s0
  refine (addSec_any b0 x d W3 hxl (by omega) (by omega) k0 k1 f1).mono ?_
  rintro e w4 ⟨⟨v, rfl⟩, hw4⟩
  have t0 : w4.heap[b0]? = some (.cells #[.int .u64 (x : Int), .int .i64 d, .pointer none] 30 (0, 0)) := by
    rw [hw4, heap_setCell_same _ _ _ _ _ _ s0]; rfl
  have t1 : w4.heap[b1]? = some (.cells #[.int .u64 0, .int .i64 0, .pointer none] 30 (0, 0)) := by
    rw [hw4, heap_setCell_other _ _ _ _ (by simpa using fun h => hne h.symm)]; exact s1
  have HB4 : Hid (Below w.heap.size w w4) := by rw [hw4]; exact HB3.out.setCell (p := ⟨b0, 1, none⟩) hb0' _
  clear hw4 s0 s1 k0 k1 f1 HB3
  have k0 : w4.cell? ⟨b0, 0, none⟩ = some (.int .u64 (x : Int)) := by simpa using cell_of_row w4 b0 0 _ _ _ t0
  have k1 : w4.cell? ⟨b0, 1, none⟩ = some (.int .i64 d) := by simpa using cell_of_row w4 b0 1 _ _ _ t0
  have k2 : w4.cell? ⟨b0, 2, none⟩ = some (.pointer none) := by simpa using cell_of_row w4 b0 2 _ _ _ t0
  have m0 : w4.cell? ⟨b1, 0, none⟩ = some (.int .u64 0) := by simpa using cell_of_row w4 b1 0 _ _ _ t1
  have m1 : w4.cell? ⟨b1, 1, none⟩ = some (.int .i64 0) := by simpa using cell_of_row w4 b1 1 _ _ _ t1
  have m2 : w4.cell? ⟨b1, 2, none⟩ = some (.pointer none) := by simpa using cell_of_row w4 b1 2 _ _ _ t1
  have n0 := frozen_of_row w4 b1 0 _ _ t1
  have n1 := frozen_of_row w4 b1 1 _ _ t1
  have n2 := frozen_of_row w4 b1 2 _ _ t1
  have e3' := e3.out
  clear HX HD hxl hdl
  go_wp2_with fail
  refine bodyPost_ret (v := .agg #[.int .u64 (x : Int), .int .i64 d, .pointer none]) (by simp [results, Try.f9, go_sem, m0, m1, m2]) rfl ⟨rfl, ?_⟩
  exact ((HB4.out.setCell (p := ⟨b1, 0, none⟩) hb1' _).setCell (p := ⟨b1, 1, none⟩) hb1' _).setCell (p := ⟨b1, 2, none⟩) hb1' _
end Go.Proofs.Qxb6616580a
