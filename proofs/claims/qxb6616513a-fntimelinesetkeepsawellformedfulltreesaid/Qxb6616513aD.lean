import Derived.Test.Qxb6616513aA
import Derived.Laws.FloatArith
namespace Go.Proofs.Qxb6616513a
open Go.RowKit

/-- A word that is equal to itself is no NaN: one divided by it is defined. -/
theorem inv_some {x : Nat} (h : (FloatKind.f64.format.order x x != some Ordering.eq) = false) : ∃ r, floatBits .quo .f64 4607182418800017408 x = some r := by
  have h1 : FloatKind.f64.format.order x x = some Ordering.eq := by simpa using h
  unfold Ieee.Format.order at h1
  show ∃ r, FloatKind.f64.format.div 4607182418800017408 x = some r
  unfold Ieee.Format.div
  have hone : FloatKind.f64.format.read 4607182418800017408 = .number false 4503599627370496 (-52) := by kernel_rfl
  rw [hone]
  cases hd : FloatKind.f64.format.read x with
  | nan s f => rw [hd] at h1; simp [Ieee.Datum.order] at h1
  | infinity s => simp [Ieee.Datum.quotient]
  | number s m e =>
    by_cases hm : m = 0
    · simp [Ieee.Datum.quotient, hm]
    · simp [Ieee.Datum.quotient, hm]

set_option maxHeartbeats 400000 in
theorem sameFloat_refl (x : Nat) (w : World) : Calls Try.prog 18 #[.float .f64 x, .float .f64 x] w fun e w' => e = .returned (.bool true) ∧ w' = w := by
  cases h : (FloatKind.f64.format.order x x != some Ordering.eq) with
  | true =>
    go_enter Try.func18, Try.ntmps18
    go_wp2_with fail
    go_ret
    exact ⟨rfl, rfl⟩
  | false =>
    obtain ⟨r, hr⟩ := inv_some h
    have hq : ∀ t w, (binOp .quo t (.float .f64 4607182418800017408) (.float .f64 x)).run Try.prog w = .ok (.float .f64 r) w := fun t w => run_float_arith w .quo t .f64 _ x r hr
    go_enter Try.func18, Try.ntmps18
    go_wp2_with (simp only [hq])
    all_goals (go_ret; exact ⟨by simp, rfl⟩)

theorem frombits_run (w : World) : (callFunc 53 #[.int .u64 9221120237041090561]).run Try.prog w = .ok (.value (.float .f64 9221120237041090561)) w := by kernel_rfl

set_option maxHeartbeats 400000 in
theorem nan_any (w : World) : Calls Try.prog 46 #[] w fun e w' => e = .returned (.float .f64 9221120237041090561) ∧ w' = w := by
  have hb := frombits_run
  go_enter Try.func46, Try.ntmps46
  go_wp2_with (simp only [hb])
  go_ret
  exact ⟨rfl, rfl⟩
end Go.Proofs.Qxb6616513a
