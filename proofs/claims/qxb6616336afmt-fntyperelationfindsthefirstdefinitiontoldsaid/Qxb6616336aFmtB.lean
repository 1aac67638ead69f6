import Derived.Test.Qxb6616336aFmtA
namespace Go.Proofs.Qxb6616336aFmt
open Go.RowKit

/-- What 'zzBytes' leaves: some bool; if true, lengths are small. -/
def ZPost (len : Nat) (rl : Nat → Nat) (w : World) (e : Ending) (w' : World) : Prop :=
  ∃ b : Bool, e = .returned (.bool b) ∧ w' = w ∧ (b = true → len ≤ 1048576 ∧ ∀ i, i < len → rl i ≤ 1048576)

theorem ZPost.no (len : Nat) (rl : Nat → Nat) (w : World) : ZPost len rl w (.returned (.bool false)) w := ⟨false, rfl, rfl, fun h => by cases h⟩
theorem ZPost.yes (len : Nat) (rl : Nat → Nat) (w : World) (h1 : len ≤ 1048576) (h2 : ∀ i, i < len → rl i ≤ 1048576) : ZPost len rl w (.returned (.bool true)) w := ⟨true, rfl, rfl, fun _ => ⟨h1, h2⟩⟩

theorem big_no {x : Int} (h : x ≤ 1048576) : decide ((1048576 : Int) < x) = false := by simp; omega

set_option maxRecDepth 100000 in
set_option maxHeartbeats 1000000 in
theorem zzBytes_any (a : Option Addr) (len cap : Nat) (nm : Nat → ByteArray) (ra : Nat → Option Addr) (rl rc : Nat → Nat) (rn : Nat → Nat → ByteArray) (s1 s2 s3 : ByteArray) (w : World)
    (hl : len ≤ 9223372036854775807) (hnm : ∀ i, i < len → (nm i).size ≤ 9223372036854775807) (hrl : ∀ i, i < len → rl i ≤ 9223372036854775807) (hrn : ∀ i j, i < len → j < rl i → (rn i j).size ≤ 9223372036854775807)
    (g1 : s1.size ≤ 9223372036854775807) (g2 : s2.size ≤ 9223372036854775807) (g3 : s3.size ≤ 9223372036854775807)
    (hc : TypesAt w a len nm ra rl rc rn) :
    Calls Tryf.prog 4 #[.slice a len cap, .string s1, .string s2, .string s3] w (ZPost len rl w) := by
  rcases hc with rfl | ⟨b, off, rfl, hbs, hcell⟩
  · go_enter Tryf.func4, Tryf.ntmps4
    go_wp2_with fail
    refine wp_loop_rounds 1 ?_
    rw [rounds_succ]
    go_wp2_with fail
    all_goals
      go_ret
      first | exact ZPost.no _ _ _ | exact ZPost.yes _ _ _ (by omega) (fun i hi => absurd hi (by omega))
  · by_cases hbig : len ≤ 1048576
    · have hbd := big_no (x := (len : Int)) (by omega)
      go_enter Tryf.func4, Tryf.ntmps4
      go_wp2_with fail
      go_loop [9, 10, 11] (fun t i _ => ∃ (m : Int) (k : Nat), t = .int .i64 m ∧ i = .int .i64 k ∧ 0 ≤ m ∧ m ≤ 1048576 ∧ k ≤ len ∧ ∀ i, i < k → rl i ≤ 1048576) (fun _ i _ => len - (intOf i).toNat)
      case atStart => exact ⟨len, 0, rfl, rfl, by omega, by omega, Nat.zero_le _, fun i hi => absurd hi (by omega)⟩
      case round =>
        obtain ⟨m, k, rfl, rfl, hm0, hm1, hk, hall⟩ := hrel
        by_cases hlt : k < len
        · obtain ⟨h1, h2, h3⟩ := hcell k hlt
          have g4 := hnm k hlt
          have g5 := hrl k hlt
          have g6 : ∀ j, j < rl k → (rn k j).size ≤ 9223372036854775807 := fun j hj => hrn k j hlt hj
          clear hcell hnm hrl hrn
          by_cases t1 : ((nm k).size : Int) ≤ 1048576
          · by_cases t2 : m + ((nm k).size : Int) ≤ 1048576
            · by_cases t3 : ((rl k : Nat) : Int) ≤ 1048576
              · by_cases t4 : m + ((nm k).size : Int) + ((rl k : Nat) : Int) ≤ 1048576
                · have t1' := big_no t1
                  have t2' := big_no t2
                  have t3' := big_no t3
                  have t4' := big_no t4
                  have hall' : ∀ i, i < k + 1 → rl i ≤ 1048576 := fun i hi => by
                    by_cases e : i = k
                    · subst e; omega
                    · exact hall i (by omega)
                  have HA : Hid (∀ i, i < k + 1 → rl i ≤ 1048576) := hall'
                  clear hall hall'
                  rcases h3 with h3 | ⟨b', off', h3a, h3b, h3c⟩
                  · rw [h3] at t3' t4' t3 t4 h2
                    have h30 : Hid (rl k = 0) := h3
                    clear h3
                    go_wp2_with fail
                    refine wp_loop_rounds 1 ?_
                    rw [rounds_succ]
                    go_wp2_with fail
                    go_round
                    case rel => exact ⟨_, k + 1, rfl, by go_num, by omega, by omega, by omega, HA.out⟩
                    case measure => simp [intOf]; omega
                  · rw [h3a] at h2
                    clear h3a
                    go_wp2_with fail
                    go_loop [9, 11] (fun t j => ∃ (m : Int) (q : Nat), t = .int .i64 m ∧ j = .int .i64 q ∧ 0 ≤ m ∧ m ≤ 1048576 ∧ q ≤ rl k) (fun _ j => rl k - (intOf j).toNat)
                    case atStart => exact ⟨_, 0, rfl, rfl, by omega, by omega, Nat.zero_le _⟩
                    case round =>
                      obtain ⟨m', q, rfl, rfl, hm0', hm1', hq⟩ := hrel
                      by_cases hqk : q < rl k
                      · have hcq := h3c q hqk
                        have g7 := g6 q hqk
                        clear h3c g6
                        by_cases t5 : ((rn k q).size : Int) ≤ 1048576
                        · by_cases t6 : m' + ((rn k q).size : Int) ≤ 1048576
                          · go_wp2_with fail
                            go_round
                            case rel => exact ⟨_, q + 1, rfl, by go_num, by omega, by omega, by omega⟩
                            case measure => simp [intOf]; omega
                          · go_wp2_with fail
                            go_ret
                            exact ZPost.no _ _ _
                        · go_wp2_with fail
                          go_ret
                          exact ZPost.no _ _ _
                      · clear h3c g6
                        go_wp2_with fail
                        go_round
                        case rel => exact ⟨_, k + 1, rfl, by go_num, by omega, by omega, by omega, HA.out⟩
                        case measure => simp [intOf]; omega
                · go_wp2_with fail
                  go_ret
                  exact ZPost.no _ _ _
              · go_wp2_with fail
                go_ret
                exact ZPost.no _ _ _
            · go_wp2_with fail
              go_ret
              exact ZPost.no _ _ _
          · go_wp2_with fail
            go_ret
            exact ZPost.no _ _ _
        · obtain rfl : k = len := by omega
          clear hcell hnm hrl hrn
          go_wp2_with fail
          all_goals
            go_ret
            first | exact ZPost.no _ _ _ | exact ZPost.yes _ _ _ (by omega) hall
    · have hbig' : 1048576 < len := by omega
      go_enter Tryf.func4, Tryf.ntmps4
      go_wp2_with fail
      go_ret
      exact ZPost.no _ _ _
end Go.Proofs.Qxb6616336aFmt
