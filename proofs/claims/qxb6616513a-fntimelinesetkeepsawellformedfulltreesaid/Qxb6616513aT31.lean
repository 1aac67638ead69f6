import Derived.Test.Qxb6616513aT30
namespace Go.Proofs.Qxb6616513a
open Go.RowKit

set_option maxHeartbeats 1000000 in
set_option maxRecDepth 100000 in
theorem mono_up (a : Option Addr) (n c : Nat) (z : Nat → Int) (hn : n ≤ 65536) (w : World) (ha : IntsAt w a n z) :
    Calls Try.prog 22 #[.slice a n c, .bool true] w fun e w' => ∃ b, e = .returned (.bool b) ∧ (b = true → UpTo z n) ∧ Below w.heap.size w w' := by
  have HA : Hid (IntsAt w a n z) := ha
  clear ha
  go_enter Try.func22, Try.ntmps22
  go_wp2_with fail
  go_loopw [5] (fun i wr => ∃ (k : Nat), 1 ≤ k ∧ (k ≤ n ∨ k = 1) ∧ i = .int .i64 k ∧ Below w.heap.size w wr ∧ UpTo z k) (fun i _ => n - (intOf i).toNat)
  case atStart => exact ⟨1, Nat.le_refl _, Or.inr rfl, rfl, Below.refl _ _, fun j hj => by omega⟩
  case round =>
    obtain ⟨k, hk1, hk2, rfl, hB, hU⟩ := hrel
    by_cases hkn : k < n
    · obtain ⟨d, hd, hcd⟩ : ∃ d : Addr, a = some d ∧ ∀ j, j < n → w.cell? (d.add j) = some (.int .i64 (z j)) := by
        rcases HA.out with h0 | h0
        · omega
        · exact h0
      subst hd
      obtain ⟨m, hm⟩ : ∃ m, k = m + 1 := ⟨k - 1, by omega⟩
      have e1 := (hB.cell (p := d.add m) (World.block_lt_of_cell? _ _ (hcd m (by omega)))).trans (hcd m (by omega))
      have e2 := (hB.cell (p := d.add k) (World.block_lt_of_cell? _ _ (hcd k hkn))).trans (hcd k hkn)
      have hkm : (k : Int) - 1 = (m : Int) := by omega
      have hmn : m < n := by omega
      have HE : Hid (Below w.heap.size w wr ∧ UpTo z k ∧ k = m + 1) := ⟨hB, hU, hm⟩
      clear hB hU hcd hm
      by_cases hz : z k ≤ z m
      · have hzd : decide (z k ≤ z m) = true := decide_eq_true hz
        go_wp2_with fail
        go_quiet (fail)
        go_wp2_with fail
        go_ret
        exact ⟨false, rfl, (fun h => by cases h), HE.out.1.trans ⟨rfl, rfl, rfl, Nat.le_refl _, fun _ _ => rfl⟩⟩
      · have hzd : decide (z k ≤ z m) = false := decide_eq_false hz
        go_wp2_with fail
        go_quiet (fail)
        go_wp2_with fail
        go_quiet (fail)
        go_wp2_with fail
        go_roundw
        case rel =>
          have hE := HE.out
          refine ⟨k + 1, by omega, Or.inl (by omega), by go_num, hE.1.trans ⟨rfl, rfl, rfl, Nat.le_refl _, fun _ _ => rfl⟩, fun j hj => ?_⟩
          by_cases e : j = m
          · subst e
            have := hE.2.2
            rw [← this]
            omega
          · exact hE.2.1 j (by have := hE.2.2; omega)
        case measure => simp [intOf]; omega
    · have HE : Hid (Below w.heap.size w wr ∧ UpTo z n) := ⟨hB, fun j hj => hU j (by omega)⟩
      clear hB hU
      go_wp2_with fail
      go_ret
      exact ⟨true, rfl, fun _ => HE.out.2, HE.out.1⟩

set_option maxHeartbeats 1000000 in
set_option maxRecDepth 100000 in
theorem mono_down (a : Option Addr) (n c : Nat) (z : Nat → Int) (hn : n ≤ 65536) (w : World) (ha : IntsAt w a n z) :
    Calls Try.prog 22 #[.slice a n c, .bool false] w fun e w' => ∃ b, e = .returned (.bool b) ∧ (b = true → DownTo z n) ∧ Below w.heap.size w w' := by
  have HA : Hid (IntsAt w a n z) := ha
  clear ha
  go_enter Try.func22, Try.ntmps22
  go_wp2_with fail
  go_loopw [5] (fun i wr => ∃ (k : Nat), 1 ≤ k ∧ (k ≤ n ∨ k = 1) ∧ i = .int .i64 k ∧ Below w.heap.size w wr ∧ DownTo z k) (fun i _ => n - (intOf i).toNat)
  case atStart => exact ⟨1, Nat.le_refl _, Or.inr rfl, rfl, Below.refl _ _, fun j hj => by omega⟩
  case round =>
    obtain ⟨k, hk1, hk2, rfl, hB, hU⟩ := hrel
    by_cases hkn : k < n
    · obtain ⟨d, hd, hcd⟩ : ∃ d : Addr, a = some d ∧ ∀ j, j < n → w.cell? (d.add j) = some (.int .i64 (z j)) := by
        rcases HA.out with h0 | h0
        · omega
        · exact h0
      subst hd
      obtain ⟨m, hm⟩ : ∃ m, k = m + 1 := ⟨k - 1, by omega⟩
      have e1 := (hB.cell (p := d.add m) (World.block_lt_of_cell? _ _ (hcd m (by omega)))).trans (hcd m (by omega))
      have e2 := (hB.cell (p := d.add k) (World.block_lt_of_cell? _ _ (hcd k hkn))).trans (hcd k hkn)
      have hkm : (k : Int) - 1 = (m : Int) := by omega
      have hmn : m < n := by omega
      have HE : Hid (Below w.heap.size w wr ∧ DownTo z k ∧ k = m + 1) := ⟨hB, hU, hm⟩
      clear hB hU hcd hm
      by_cases hz : z m ≤ z k
      · have hzd : decide (z m ≤ z k) = true := decide_eq_true hz
        go_wp2_with fail
        go_quiet (fail)
        go_wp2_with fail
        go_quiet (fail)
        go_wp2_with fail
        go_ret
        exact ⟨false, rfl, (fun h => by cases h), HE.out.1.trans ⟨rfl, rfl, rfl, Nat.le_refl _, fun _ _ => rfl⟩⟩
      · have hzd : decide (z m ≤ z k) = false := decide_eq_false hz
        go_wp2_with fail
        go_quiet (fail)
        go_wp2_with fail
        go_quiet (fail)
        go_wp2_with fail
        go_roundw
        case rel =>
          have hE := HE.out
          refine ⟨k + 1, by omega, Or.inl (by omega), by go_num, hE.1.trans ⟨rfl, rfl, rfl, Nat.le_refl _, fun _ _ => rfl⟩, fun j hj => ?_⟩
          by_cases e : j = m
          · subst e
            have := hE.2.2
            rw [← this]
            omega
          · exact hE.2.1 j (by have := hE.2.2; omega)
        case measure => simp [intOf]; omega
    · have HE : Hid (Below w.heap.size w wr ∧ DownTo z n) := ⟨hB, fun j hj => hU j (by omega)⟩
      clear hB hU
      go_wp2_with fail
      go_ret
      exact ⟨true, rfl, fun _ => HE.out.2, HE.out.1⟩

end Go.Proofs.Qxb6616513a
