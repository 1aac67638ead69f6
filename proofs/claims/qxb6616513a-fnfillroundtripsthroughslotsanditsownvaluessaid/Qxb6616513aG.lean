import Derived.RangeFuncNested
import Derived.RangeFuncBound
import Derived.RangeFuncCalls
import Derived.RangeFuncLeaves
import Derived.RangeFuncBox
import Derived.Shelf.Abstract
import Derived.WalkKit
import Derived.OwnWalkIn
import Derived.TacticsInMore
import Derived.LoopNIn
import Derived.LoopIn
import Derived.Stop.RegionWithIn
import Derived.Deep.RegionHeld3
import Derived.Test.Qxb6616513aF
namespace Go.Proofs.Qxb6616513a
open Go.RowKit Go.Shelf

attribute [local go_sem] Oper.semAt_some

/-- What has come when k rounds are over. -/
def upto {α : Type} (f : Nat → α) (k : Nat) : List α := (List.range k).map f
theorem upto_succ {α : Type} (f : Nat → α) (k : Nat) : upto f (k + 1) = upto f k ++ [f k] := by simp [upto, List.range_succ]
theorem upto_length {α : Type} (f : Nat → α) (k : Nat) : (upto f k).length = k := by simp [upto]

/-- How a round comes back. -/
def Post39 (n₀ : Nat) (J Jx : List (Nat × Nat) → World → Prop) (xs : List (Nat × Nat)) (W : World) (bb : Bool) (W' : World) : Prop := (bb = true → J xs W' ∧ Below n₀ W W') ∧ (bb = false → Jx xs W')

set_option maxRecDepth 100000 in
set_option maxHeartbeats 2000000 in
theorem iter_in (n : Nat) (hn : 1 ≤ n) (l B1 B2 n₀ b1 o1 c1 b2 o2 c2 len : Nat) (T : Nat → Int) (f : Nat → Nat × Nat) (hlen : len ≤ 65536) (hB1 : B1 < n₀) (hB2 : B2 < n₀) (hb1 : b1 < n₀) (hb2 : b2 < n₀) (J Jx : List (Nat × Nat) → World → Prop)
    (hJd : ∀ pre W, J pre W → J pre W.drew)
    (hY : ∀ pre x W, J pre W → pre.length < len → YieldAt Fence.wide (n - 1) Try.prog l #[.int .i64 (T x.1), .float .f64 x.2] W fun e W' =>
      (e = .returned (.bool true) ∧ J (pre ++ [x]) W' ∧ Below n₀ W W') ∨ (e = .returned (.bool false) ∧ Jx (pre ++ [x]) W'))
    (W : World) (hC1 : W.cell? ⟨B1, 0, none⟩ = some (.slice (some ⟨b1, o1, none⟩) len c1)) (hC2 : W.cell? ⟨B2, 0, none⟩ = some (.slice (some ⟨b2, o2, none⟩) len c2))
    (hc1 : ∀ j, j < len → W.cell? ⟨b1, o1 + j, none⟩ = some (.int .i64 (T (f j).1))) (hc2 : ∀ j, j < len → W.cell? ⟨b2, o2 + j, none⟩ = some (.float .f64 (f j).2)) (h0 : J [] W) :
    CallsIn Fence.wide n Try.prog 39 #[.func (.yield l) #[] #[], .pointer (some ⟨B1, 0, none⟩), .pointer (some ⟨B2, 0, none⟩)] W fun e W' => (∃ v, e = .returned v) ∧
      ((∃ ys, ys = upto f len ∧ J ys W') ∨ (∃ pre, (∃ k, k ≤ len ∧ pre = upto f k) ∧ Jx pre W')) := by
  refine callsIn_of_wp Try.func39 rfl trivial ?_ rfl
  simp only [Try.ntmps39, List.size_toArray, List.length_cons, List.length_nil, Nat.reduceAdd, Nat.reduceSub, Array.replicate_succ, Array.replicate_zero, List.push_toArray, List.append_toArray, List.nil_append, List.cons_append]
  gi_wp2
  gi_loopw [4] (fun i wr => ∃ k : Nat, k ≤ len ∧ i = .int .i64 k ∧ J (upto f k) wr ∧ Below n₀ W wr) (fun i _ => len - (intOf i).toNat)
  case atStart => exact ⟨0, Nat.zero_le _, rfl, h0, Below.refl _ _⟩
  case round =>
    obtain ⟨k, hk, rfl, hJs, hnx⟩ := hrel
    have e1 := (hnx.cell (p := ⟨B1, 0, none⟩) hB1).trans hC1
    have e2 := (hnx.cell (p := ⟨B2, 0, none⟩) hB2).trans hC2
    by_cases hlt : k < len
    · obtain ⟨fn, tmps, assign, body, hy, hR⟩ := hY _ (f k) wr.drew (hJd _ _ hJs) (by rw [upto_length]; exact hlt)
      have d1 := (hnx.cell (p := ⟨b1, o1 + k, none⟩) hb1).trans (hc1 k hlt)
      have d2 := (hnx.cell (p := ⟨b2, o2 + k, none⟩) hb2).trans (hc2 k hlt)
      have HY : Hid (∀ (pre : List (Nat × Nat)) (x : Nat × Nat) (W : World), J pre W → pre.length < len → YieldAt Fence.wide (n - 1) Try.prog l #[.int .i64 (T x.1), .float .f64 x.2] W fun e W' =>
        (e = .returned (.bool true) ∧ J (pre ++ [x]) W' ∧ Below n₀ W W') ∨ (e = .returned (.bool false) ∧ Jx (pre ++ [x]) W')) := hY
      clear hY hc1 hc2
      gi_wp2
      have hR' := hR.mono (R' := fun e W' => ∃ bb, e = .returned (.bool bb) ∧ Post39 n₀ J Jx (upto f k ++ [f k]) wr.drew bb W') (by
        rintro e W' (⟨he, hj, hb⟩ | ⟨he, hj⟩)
        · exact ⟨true, he, ⟨fun _ => ⟨hj, hb⟩, fun h => Bool.noConfusion h⟩⟩
        · exact ⟨false, he, ⟨fun h => Bool.noConfusion h, fun _ => hj⟩⟩)
      clear hR
      have HN : Hid (Below n₀ W wr) := hnx
      clear hC1 hC2 hnx HY h0 hJs hJd hB1 hB2 hb1 hb2
      refine Code.wpIn_mono NoPanic.imp ?_
      gi_region_with ((with_reducible refine hR'.mono ?_); rintro e W3 ⟨bb, rfl, hbb⟩)
      all_goals
        refine NoPanic.normal ?_
        cases bb with
        | true =>
          obtain ⟨hJ3, hk3⟩ := hbb.1 rfl
          clear hR' hbb hy d1 d2
          gi_wp2
          go_roundw
          case rel => exact ⟨k + 1, by omega, by simp, by rw [upto_succ]; exact hJ3, (HN.out.drew).trans hk3⟩
          case measure => simp [intOf]; omega
        | false =>
          have hJx3 := hbb.2 rfl
          clear hR' hbb hy d1 d2
          gi_wp2
          refine bodyPost_ret (results_none rfl _ _ _) rfl ?_
          exact ⟨⟨_, rfl⟩, .inr ⟨_, ⟨k + 1, by omega, (upto_succ _ _).symm⟩, hJx3⟩⟩
    · obtain rfl : k = len := by omega
      gi_wp2
      go_end0
      exact ⟨⟨_, rfl⟩, .inl ⟨_, rfl, hJs⟩⟩
end Go.Proofs.Qxb6616513a
