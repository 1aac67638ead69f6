import Derived.Test.Qxb6616513aN
namespace Go.Proofs.Qxb6616513a
open Go.RowKit Go.Shelf

set_option maxHeartbeats 400000 in
theorem zzBytes26 (s t n : Int) (a1 a2 : Option Addr) (l1 c1 l2 c2 : Nat) (w : World) (h1 : l1 ≤ 9223372036854775807) (h2 : l2 ≤ 9223372036854775807) :
    Calls Try.prog 26 #[.int .i64 s, .int .i64 t, .int .i64 n, .slice a1 l1 c1, .slice a2 l2 c2] w fun e w' => e = .returned (.bool (decide (l1 + l2 ≤ 1048576))) ∧ w' = w := by
  by_cases h : l1 ≤ 1048576
  · by_cases h' : l2 ≤ 1048576
    · by_cases h'' : l1 + l2 ≤ 1048576
      · go_enter Try.func26, Try.ntmps26
        go_wp2
        go_ret
        exact ⟨by simp [h''], rfl⟩
      · have h3 : 1048576 < l1 + l2 := by omega
        go_enter Try.func26, Try.ntmps26
        go_wp2
        go_ret
        exact ⟨by simp [h''], rfl⟩
    · have h3 : 1048576 < l2 := by omega
      go_enter Try.func26, Try.ntmps26
      go_wp2
      go_ret
      exact ⟨by simp; omega, rfl⟩
  · have h3 : 1048576 < l1 := by omega
    go_enter Try.func26, Try.ntmps26
    go_wp2
    go_ret
    exact ⟨by simp; omega, rfl⟩

set_option maxHeartbeats 400000 in
/-- A NaN is the same as a NaN. -/
theorem sameFloat_nan (x y : Nat) (w : World) (hx : (FloatKind.f64.format.order x x != some Ordering.eq) = true) (hy : (FloatKind.f64.format.order y y != some Ordering.eq) = true) : Calls Try.prog 18 #[.float .f64 x, .float .f64 y] w fun e w' => e = .returned (.bool true) ∧ w' = w := by
  go_enter Try.func18, Try.ntmps18
  go_wp2_with fail
  go_ret
  exact ⟨rfl, rfl⟩

set_option maxHeartbeats 400000 in
theorem slotsM_any (start step : Int) (a : Option Addr) (n c : Nat) (w : World) : Calls Try.prog 27 #[.agg #[.int .i64 start, .int .i64 step, .slice a n c]] w fun e w' => e = .returned (.agg #[.int .i64 start, .int .i64 step, .int .i64 (n : Int)]) ∧ w' = (w.alloc (.cells #[.int .i64 start, .int .i64 step, .slice a n c] 50)).alloc (.cells #[.int .i64 start, .int .i64 step, .int .i64 (n : Int)] 53) := by
  go_enter Try.func27, Try.ntmps27
  go_wp2_with fail
  exact bodyPost_ret (v := .agg #[.int .i64 start, .int .i64 step, .int .i64 (n : Int)]) (by simp [results, Try.f27, go_sem]) rfl ⟨rfl, rfl⟩

set_option maxRecDepth 100000 in
set_option maxHeartbeats 1000000 in
theorem f7_guard (start step n : Int) (a1 a2 : Option Addr) (l1 c1 l2 c2 : Nat) (w : World) (k1 : l1 ≤ 9223372036854775807) (k2 : l2 ≤ 9223372036854775807)
    (h : ¬ (l1 = l2 ∧ l1 ≤ 65536 ∧ 0 ≤ n ∧ n ≤ 65536 ∧ 1 ≤ step ∧ step ≤ 1099511627776 ∧ -4611686018427387904 ≤ start ∧ start ≤ 4611686018427387904)) :
    Calls Try.prog 7 #[.int .i64 start, .int .i64 step, .int .i64 n, .slice a1 l1 c1, .slice a2 l2 c2] w (Post6 w) := by
  have q23 := zzBytes26 start step n a1 a2 l1 c1 l2 c2 w k1 k2
  by_cases g1 : ¬ l1 + l2 ≤ 1048576
  · rw [decide_eq_false g1] at q23
    go_enter Try.func7, Try.ntmps7
    go_wp2_with fail
    refine q23.mono ?_
    rintro e w0 ⟨rfl, rfl⟩
    go_wp2_with fail
    go_ret
    exact ⟨rfl, Below.refl _ _⟩
  rw [decide_eq_true (by omega)] at q23
  by_cases g2 : 65536 < l1
  · go_enter Try.func7, Try.ntmps7
    go_wp2_with fail
    refine q23.mono ?_
    rintro e w0 ⟨rfl, rfl⟩
    go_wp2_with fail
    go_ret
    exact ⟨rfl, Below.refl _ _⟩
  by_cases g3 : 65536 < l2
  · go_enter Try.func7, Try.ntmps7
    go_wp2_with fail
    refine q23.mono ?_
    rintro e w0 ⟨rfl, rfl⟩
    go_wp2_with fail
    go_ret
    exact ⟨rfl, Below.refl _ _⟩
  by_cases g5 : ¬ l1 = l2
  · have g5' : ((l1 : Int) != (l2 : Int)) = true := by simp; omega
    go_enter Try.func7, Try.ntmps7
    go_wp2_with fail
    refine q23.mono ?_
    rintro e w0 ⟨rfl, rfl⟩
    go_wp2_with fail
    go_ret
    exact ⟨rfl, Below.refl _ _⟩
  by_cases g6 : n < 0
  · have g5' : ((l1 : Int) != (l2 : Int)) = false := by simp; omega
    go_enter Try.func7, Try.ntmps7
    go_wp2_with fail
    refine q23.mono ?_
    rintro e w0 ⟨rfl, rfl⟩
    go_wp2_with fail
    go_ret
    exact ⟨rfl, Below.refl _ _⟩
  by_cases g7 : 65536 < n
  · have g5' : ((l1 : Int) != (l2 : Int)) = false := by simp; omega
    go_enter Try.func7, Try.ntmps7
    go_wp2_with fail
    refine q23.mono ?_
    rintro e w0 ⟨rfl, rfl⟩
    go_wp2_with fail
    go_ret
    exact ⟨rfl, Below.refl _ _⟩
  by_cases g8 : step < 1
  · have g5' : ((l1 : Int) != (l2 : Int)) = false := by simp; omega
    go_enter Try.func7, Try.ntmps7
    go_wp2_with fail
    refine q23.mono ?_
    rintro e w0 ⟨rfl, rfl⟩
    go_wp2_with fail
    go_ret
    exact ⟨rfl, Below.refl _ _⟩
  by_cases g9 : 1099511627776 < step
  · have g5' : ((l1 : Int) != (l2 : Int)) = false := by simp; omega
    go_enter Try.func7, Try.ntmps7
    go_wp2_with fail
    refine q23.mono ?_
    rintro e w0 ⟨rfl, rfl⟩
    go_wp2_with fail
    go_ret
    exact ⟨rfl, Below.refl _ _⟩
  by_cases g10 : start < -4611686018427387904
  · have g5' : ((l1 : Int) != (l2 : Int)) = false := by simp; omega
    go_enter Try.func7, Try.ntmps7
    go_wp2_with fail
    refine q23.mono ?_
    rintro e w0 ⟨rfl, rfl⟩
    go_wp2_with fail
    go_ret
    exact ⟨rfl, Below.refl _ _⟩
  by_cases g11 : 4611686018427387904 < start
  · have g5' : ((l1 : Int) != (l2 : Int)) = false := by simp; omega
    go_enter Try.func7, Try.ntmps7
    go_wp2_with fail
    refine q23.mono ?_
    rintro e w0 ⟨rfl, rfl⟩
    go_wp2_with fail
    go_ret
    exact ⟨rfl, Below.refl _ _⟩
  exact absurd h (by omega)
end Go.Proofs.Qxb6616513a
