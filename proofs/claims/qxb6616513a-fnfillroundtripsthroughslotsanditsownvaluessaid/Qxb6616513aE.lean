import Derived.Test.Qxb6616513aA
namespace Go.Proofs.Qxb6616513a
open Go.RowKit

/-- What 'slotOf' answers. -/
def Post37 (start step t : Int) (n : Nat) (w : World) (e : Ending) (w' : World) : Prop :=
  w' = w ∧ (e = .returned (.int .i64 (-1)) ∨ ∃ r : Nat, r < n ∧ start + (r : Int) * step = t ∧ e = .returned (.int .i64 (r : Int)))

set_option maxRecDepth 100000 in
set_option maxHeartbeats 1000000 in
theorem slotOf_any (start step t : Int) (n : Nat) (w : World) (hn : n ≤ 65536) (h1 : 1 ≤ step) (h2 : step ≤ 1099511627776) (h3 : -4611686018427387904 ≤ start) (h4 : start ≤ 4611686018427387904) :
    Calls Try.prog 37 #[.int .i64 start, .int .i64 step, .int .i64 (n : Int), .int .i64 t] w (Post37 start step t n w) := by
  go_enter Try.func37, Try.ntmps37
  go_wp2_with fail
  go_loopw [9, 10] (fun a b wr => ∃ (lo hi : Nat), lo ≤ hi ∧ hi ≤ n ∧ a = .int .i64 lo ∧ b = .int .i64 hi ∧ wr = w) (fun a b _ => (intOf b).toNat - (intOf a).toNat)
  case atStart => exact ⟨0, n, Nat.zero_le _, Nat.le_refl _, rfl, rfl, rfl⟩
  case round =>
    obtain ⟨lo, hi, hlh, hhn, rfl, rfl, rfl⟩ := hrel
    by_cases hlt : lo < hi
    · obtain ⟨M, hM, hM1, hM2⟩ : ∃ M : Nat, ((M : Nat) : Int) = (lo : Int) + ((hi : Int) - (lo : Int)) / 2 ∧ lo ≤ M ∧ M < hi := ⟨lo + (hi - lo) / 2, by omega, by omega, by omega⟩
      go_wp2_with fail
      case roundEnd =>
        rw [← hM]
        exact ⟨⟨M + 1, hi, by omega, hhn, by go_num, rfl, trivial⟩, by simp [intOf]; omega⟩
      case roundEnd =>
        rw [← hM]
        exact ⟨⟨lo, M, by omega, by omega, rfl, rfl, trivial⟩, by simp [intOf]; omega⟩
    · obtain rfl : lo = hi := by omega
      obtain ⟨p, hp⟩ : ∃ p, p = (lo : Int) * step := ⟨_, rfl⟩
      have hp0 : 0 ≤ (lo : Int) * step := Int.mul_nonneg (by omega) (by omega)
      have hp1 : (lo : Int) * step ≤ 65536 * 1099511627776 := Int.mul_le_mul (by omega) h2 (by omega) (by omega)
      by_cases hln : lo < n
      · by_cases he : start + (lo : Int) * step = t
        · have hb : (start + (lo : Int) * step == t) = true := by simp [he]
          go_wp2_with fail
          go_ret
          exact ⟨rfl, Or.inr ⟨lo, hln, he, rfl⟩⟩
        · have hb : (start + (lo : Int) * step == t) = false := by simp [he]
          go_wp2_with fail
          go_ret
          exact ⟨rfl, Or.inl rfl⟩
      · go_wp2_with fail
        go_ret
        exact ⟨rfl, Or.inl rfl⟩
end Go.Proofs.Qxb6616513a
