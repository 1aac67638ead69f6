import Derived.Test.Qxb6616513aRows
import Derived.WalkKit
import Derived.WalkSpells
import Derived.WalkLawsBesides
import Derived.RegionTactic
import Derived.Deep.QuietTactic
import Derived.BigQuiet
import Derived.Laws.CopyOwn
namespace Go.Proofs.Qxb6616513a
open Go.RowKit

/-- A slice of bytes: each of its cells. -/
def SliceAt (w : World) (a : Option Addr) (n : Nat) (z : Nat → Int) : Prop := n = 0 ∨ ∃ b off, a = some ⟨b, off, none⟩ ∧ ∀ j, j < n → w.cell? ⟨b, off + j, none⟩ = some (.int .u8 (z j))

theorem SliceAt.drewN {w : World} {a : Option Addr} {n : Nat} {z : Nat → Int} (h : SliceAt w a n z) (q : Nat) : SliceAt (w.drewN q) a n z := h

/-- Of the first n, is one not zero? -/
def nz (z : Nat → Int) : Nat → Bool
  | 0 => false
  | n + 1 => nz z n || (z n != 0)

/-- How many of the first n are zero. -/
def zeros (z : Nat → Int) : Nat → Nat
  | 0 => 0
  | n + 1 => zeros z n + (if z n = 0 then 1 else 0)

theorem zeros_le (z : Nat → Int) (n : Nat) : zeros z n ≤ n := by
  induction n with
  | zero => exact Nat.le_refl _
  | succ n ih => unfold zeros; split <;> omega

theorem nz_zeros (z : Nat → Int) (n : Nat) : nz z n = decide (zeros z n < n) := by
  induction n with
  | zero => rfl
  | succ n ih =>
    unfold nz zeros
    rw [ih]
    have := zeros_le z n
    by_cases h : z n = 0
    · simp [h]
    · have h1 : (z n != 0) = true := by simp [h]
      rw [h1, if_neg h, Bool.or_true, decide_eq_true (by omega)]

set_option maxHeartbeats 400000 in
theorem zzBytes_any (a : Option Addr) (len cap : Nat) (m k : Int) (w : World) (hl : len ≤ 9223372036854775807) :
    Calls Try.prog 8 #[.slice a len cap, .int .i64 m, .int .u8 k] w fun e w' => e = .returned (.bool (decide (len ≤ 1048576))) ∧ w' = w := by
  by_cases h : len ≤ 1048576
  · go_enter Try.func8, Try.ntmps8
    go_wp2
    go_ret
    exact ⟨by simp [h], rfl⟩
  · have h' : 1048576 < len := by omega
    go_enter Try.func8, Try.ntmps8
    go_wp2
    go_ret
    exact ⟨by simp [h], rfl⟩

set_option maxHeartbeats 400000 in
theorem nonzero1_any (c : Int) (w : World) :
    Calls Try.prog 41 #[.int .u8 c] w fun e w' => e = .returned (.bool (c != 0)) ∧ w' = w := by
  go_enter Try.func41, Try.ntmps41
  go_wp2
  go_ret
  exact ⟨rfl, rfl⟩

/-- What 'slices.IndexFunc' comes back with. -/
def Post47 (n : Nat) (z : Nat → Int) (w : World) (e : Ending) (w' : World) : Prop := ∃ r : Int, e = .returned (.int .i64 r) ∧ decide (r ≥ 0) = nz z n ∧ w' = w

theorem nz_of (z : Nat → Int) (n j : Nat) (hj : j < n) (h : z j ≠ 0) : nz z n = true := by
  induction n with
  | zero => omega
  | succ n ih =>
    unfold nz
    by_cases e : j = n
    · subst e; simp [h]
    · rw [ih (by omega)]; rfl

set_option maxRecDepth 100000 in
set_option maxHeartbeats 400000 in
theorem index_any (a : Option Addr) (n ca : Nat) (z : Nat → Int) (w : World) (hn : n ≤ 2097152) (ha : SliceAt w a n z) :
    Calls Try.prog 47 #[.slice a n ca, .func (.func 41) #[] #[]] w (Post47 n z w) := by
  rcases ha with rfl | ⟨b1, o1, rfl, h1⟩
  · go_enter Try.func47, Try.ntmps47
    go_wp2_with fail
    refine wp_loop_rounds 1 ?_
    rw [rounds_succ]
    go_wp2_with fail
    go_ret
    exact ⟨-1, rfl, rfl, rfl⟩
  · go_enter Try.func47, Try.ntmps47
    go_wp2_with fail
    go_loopw [8] (fun i wr => ∃ (j : Nat), j ≤ n ∧ i = .int .i64 j ∧ nz z j = false ∧ wr = w) (fun i _ => n - (intOf i).toNat)
    case atStart => exact ⟨0, Nat.zero_le _, rfl, rfl, rfl⟩
    case round =>
      obtain ⟨j, hj, rfl, hz, rfl⟩ := hrel
      by_cases hlt : j < n
      · have c1 := h1 j hlt
        have q41 := nonzero1_any (z j) wr
        clear h1
        by_cases hx : z j = 0
        · rw [hx] at q41 c1
          go_wp2_with fail
          refine q41.mono ?_
          rintro e w' ⟨rfl, rfl⟩
          have hb : ((0 : Int) != 0) = false := rfl
          rw [hb]
          go_wp2_with fail
          go_roundw
          case rel => exact ⟨j + 1, by omega, by go_num, by unfold nz; rw [hz, hx]; rfl, trivial⟩
          case measure => simp [intOf]; omega
        · go_wp2_with fail
          refine q41.mono ?_
          rintro e w' ⟨rfl, rfl⟩
          have hb : (z j != 0) = true := by simp [hx]
          rw [hb]
          go_wp2_with fail
          go_ret
          refine ⟨j, rfl, ?_, rfl⟩
          rw [nz_of z n j hlt hx, decide_eq_true (by omega)]
      · go_wp2_with fail
        go_ret
        obtain rfl : j = n := by omega
        exact ⟨-1, rfl, by rw [hz]; rfl, rfl⟩

set_option maxRecDepth 100000 in
set_option maxHeartbeats 400000 in
theorem contains_any (a : Option Addr) (n ca : Nat) (z : Nat → Int) (w : World) (hn : n ≤ 2097152) (ha : SliceAt w a n z) :
    Calls Try.prog 40 #[.slice a n ca, .func (.func 41) #[] #[]] w fun e w' => e = .returned (.bool (nz z n)) ∧ w' = w := by
  have q47 := index_any a n ca z w hn ha
  go_enter Try.func40, Try.ntmps40
  go_wp2_with fail
  refine q47.mono ?_
  rintro e w' ⟨r, rfl, hr, rfl⟩
  go_wp2_with fail
  go_ret
  exact ⟨by rw [← hr]; rfl, rfl⟩

set_option maxRecDepth 100000 in
set_option maxHeartbeats 400000 in
theorem nonzero_any (a : Option Addr) (n ca : Nat) (z : Nat → Int) (w : World) (hn : n ≤ 2097152) (ha : SliceAt w a n z) :
    Calls Try.prog 28 #[.slice a n ca] w fun e w' => e = .returned (.bool (nz z n)) ∧ w' = w := by
  have q := contains_any a n ca z w hn ha
  go_enter Try.func28, Try.ntmps28
  go_wp2_with fail
  refine q.mono ?_
  rintro e w' ⟨rfl, rfl⟩
  go_wp2_with fail
  go_ret
  exact ⟨rfl, rfl⟩

set_option maxRecDepth 100000 in
set_option maxHeartbeats 400000 in
theorem zznonzero_any (a : Option Addr) (n ca : Nat) (z : Nat → Int) (w : World) (hn : n ≤ 2097152) (ha : SliceAt w a n z) :
    Calls Try.prog 9 #[.slice a n ca] w fun e w' => e = .returned (.bool (nz z n)) ∧ w' = w := by
  have q := nonzero_any a n ca z w hn ha
  go_enter Try.func9, Try.ntmps9
  go_wp2_with fail
  refine q.mono ?_
  rintro e w' ⟨rfl, rfl⟩
  go_wp2_with fail
  go_ret
  exact ⟨rfl, rfl⟩

set_option maxRecDepth 100000 in
set_option maxHeartbeats 400000 in
theorem zeros_any (a : Option Addr) (n ca : Nat) (z : Nat → Int) (w : World) (hn : n ≤ 2097152) (ha : SliceAt w a n z) :
    Calls Try.prog 10 #[.slice a n ca] w fun e w' => e = .returned (.int .i64 (zeros z n : Nat)) ∧ w' = w := by
  rcases ha with rfl | ⟨b1, o1, rfl, h1⟩
  · go_enter Try.func10, Try.ntmps10
    go_wp2_with fail
    refine wp_loop_rounds 1 ?_
    rw [rounds_succ]
    go_wp2_with fail
    go_ret
    exact ⟨rfl, rfl⟩
  · go_enter Try.func10, Try.ntmps10
    go_wp2_with fail
    go_loopw [3, 4] (fun s i wr => ∃ (j : Nat), j ≤ n ∧ i = .int .i64 j ∧ s = .int .i64 (zeros z j : Nat) ∧ wr = w) (fun _ i _ => n - (intOf i).toNat)
    case atStart => exact ⟨0, Nat.zero_le _, rfl, rfl, rfl⟩
    case round =>
      obtain ⟨j, hj, rfl, rfl, rfl⟩ := hrel
      have hle := zeros_le z j
      have hs : zeros z (j + 1) = zeros z j + (if z j = 0 then 1 else 0) := rfl
      obtain ⟨y, hy⟩ : ∃ y, y = zeros z j := ⟨_, rfl⟩
      rw [← hy] at hle hs
      rw [← hy]
      by_cases hlt : j < n
      · have c1 := h1 j hlt
        clear h1
        by_cases hx : z j = 0
        · rw [hx] at c1
          rw [if_pos hx] at hs
          go_wp2_with fail
          go_roundw
          case rel => exact ⟨j + 1, by omega, by go_num, by rw [hs]; go_num, trivial⟩
          case measure => simp [intOf]; omega
        · have hb : (z j == 0) = false := by simp [hx]
          rw [if_neg hx] at hs
          go_wp2_with fail
          go_roundw
          case rel => exact ⟨j + 1, by omega, by go_num, by rw [hs]; rfl, trivial⟩
          case measure => simp [intOf]; omega
      · go_wp2_with fail
        go_ret
        obtain rfl : j = n := by omega
        exact ⟨by rw [hy]; rfl, rfl⟩
end Go.Proofs.Qxb6616513a
