import Derived.Test.Qxb6616336aFmtRows
import Derived.WalkKit
import Derived.WalkSpells
import Derived.WalkLawsBesides
namespace Go.Proofs.Qxb6616336aFmt
open Go.RowKit

/-- A slice of strings: its cells. -/
def StrsAt (w : World) (a : Option Addr) (len : Nat) (r : Nat → ByteArray) : Prop :=
  len = 0 ∨ ∃ b off, a = some ⟨b, off, none⟩ ∧ b < w.heap.size ∧ ∀ j, j < len → w.cell? ⟨b, off + j, none⟩ = some (.string (r j))

theorem StrsAt.below {w w' : World} {a : Option Addr} {len : Nat} {r : Nat → ByteArray} (h : StrsAt w a len r) (hb : Below w.heap.size w w') : StrsAt w' a len r := by
  rcases h with h | ⟨b, off, ha, hlt, hc⟩
  · exact Or.inl h
  · exact Or.inr ⟨b, off, ha, Nat.lt_of_lt_of_le hlt hb.size, fun j hj => (hb.cell (p := ⟨b, off + j, none⟩) hlt).trans (hc j hj)⟩

set_option maxHeartbeats 400000 in
theorem addLen_any (n l : Int) (w : World) (h0 : 0 ≤ n) (h1 : n ≤ 1048577) (l0 : 0 ≤ l) (l1 : l ≤ 9223372036854775807) :
    Calls Tryf.prog 6 #[.int .i64 n, .int .i64 l] w fun e w' => ∃ m : Int, e = .returned (.int .i64 m) ∧ 0 ≤ m ∧ m ≤ 1048577 ∧ w' = w := by
  go_enter Tryf.func6, Tryf.ntmps6
  go_wp2
  · go_ret
    exact ⟨_, rfl, by omega, by omega, rfl⟩
  · go_ret
    exact ⟨_, rfl, by omega, by omega, rfl⟩

set_option maxHeartbeats 400000 in
theorem typeBytes_any (n : Int) (s : ByteArray) (a : Option Addr) (len cap : Nat) (r : Nat → ByteArray) (w : World) (h0 : 0 ≤ n) (h1 : n ≤ 1048577)
    (hs : s.size ≤ 9223372036854775807) (hl : len ≤ 9223372036854775807) (hr : ∀ j, j < len → (r j).size ≤ 9223372036854775807) (hc : StrsAt w a len r) :
    Calls Tryf.prog 12 #[.int .i64 n, .agg #[.string s, .slice a len cap]] w fun e w' => ∃ m : Int, e = .returned (.int .i64 m) ∧ 0 ≤ m ∧ m ≤ 1048577 ∧ Below w.heap.size w w' := by
  rcases hc with rfl | ⟨b, off, rfl, hbl, hcell⟩
  · go_enter Tryf.func12, Tryf.ntmps12
    go_wp2_with (go_at_call 6; refine (addLen_any _ _ _ (by omega) (by omega) (by omega) (by omega)).mono ?_; rintro e w' ⟨m, rfl, hm0, hm1, rfl⟩)
    refine wp_loop_rounds 1 ?_
    rw [rounds_succ]
    go_wp2_with fail
    go_ret
    exact ⟨_, rfl, hm0, hm1, (Below.refl _ _).alloc (Nat.le_refl _) _⟩
  · go_enter Tryf.func12, Tryf.ntmps12
    go_wp2_with (go_at_call 6; refine (addLen_any _ _ _ (by omega) (by omega) (by omega) (by omega)).mono ?_; rintro e w' ⟨m, rfl, hm0, hm1, rfl⟩)
    go_loop [0, 5] (fun t i => ∃ (m : Int) (k : Nat), t = .int .i64 m ∧ i = .int .i64 k ∧ 0 ≤ m ∧ m ≤ 1048577 ∧ k ≤ len) (fun _ i => len - (intOf i).toNat)
    case atStart => exact ⟨m, 0, rfl, rfl, hm0, hm1, Nat.zero_le _⟩
    case round =>
      clear hm0 hm1
      obtain ⟨m, k, rfl, rfl, hm0, hm1, hk⟩ := hrel
      by_cases hlt : k < len
      · have hck : w.cell? ⟨b, off + k, none⟩ = some (.string (r k)) := hcell k hlt
        have hrk := hr k hlt
        clear hcell hr
        by_cases hm2 : m ≤ 1048576
        · go_wp2_with (go_at_call 6; refine (addLen_any _ _ _ (by omega) (by omega) (by omega) (by omega)).mono ?_; rintro e w' ⟨m, rfl, hm0, hm1, rfl⟩)
          go_round
          case rel => exact ⟨_, k + 1, rfl, by go_num, by assumption, by assumption, by omega⟩
          case measure => simp [intOf]; omega
        · go_wp2_with fail
          go_ret
          exact ⟨_, rfl, hm0, hm1, (Below.refl _ _).alloc (Nat.le_refl _) _⟩
      · go_wp2_with fail
        go_ret
        exact ⟨_, rfl, hm0, hm1, (Below.refl _ _).alloc (Nat.le_refl _) _⟩

/-- A slice of TypeIn: names and their relations' names. -/
def TypesAt (w : World) (a : Option Addr) (len : Nat) (nm : Nat → ByteArray) (ra : Nat → Option Addr) (rl rc : Nat → Nat) (rn : Nat → Nat → ByteArray) : Prop :=
  len = 0 ∨ ∃ b off, a = some ⟨b, off, none⟩ ∧ b < w.heap.size ∧ ∀ i, i < len → w.cell? ⟨b, off + i * 2, none⟩ = some (.string (nm i)) ∧ w.cell? ⟨b, off + i * 2 + 1, none⟩ = some (.slice (ra i) (rl i) (rc i)) ∧ StrsAt w (ra i) (rl i) (rn i)

theorem TypesAt.below {w w' : World} {a : Option Addr} {len : Nat} {nm : Nat → ByteArray} {ra : Nat → Option Addr} {rl rc : Nat → Nat} {rn : Nat → Nat → ByteArray} (h : TypesAt w a len nm ra rl rc rn) (hb : Below w.heap.size w w') : TypesAt w' a len nm ra rl rc rn := by
  rcases h with h | ⟨b, off, ha, hlt, hc⟩
  · exact Or.inl h
  · refine Or.inr ⟨b, off, ha, Nat.lt_of_lt_of_le hlt hb.size, fun i hi => ?_⟩
    obtain ⟨h1, h2, h3⟩ := hc i hi
    exact ⟨(hb.cell (p := ⟨b, off + i * 2, none⟩) hlt).trans h1, (hb.cell (p := ⟨b, off + i * 2 + 1, none⟩) hlt).trans h2, h3.below hb⟩

set_option maxHeartbeats 400000 in
theorem typesBytes_any (a : Option Addr) (len cap : Nat) (nm : Nat → ByteArray) (ra : Nat → Option Addr) (rl rc : Nat → Nat) (rn : Nat → Nat → ByteArray) (w : World)
    (hl : len ≤ 9223372036854775807) (hnm : ∀ i, i < len → (nm i).size ≤ 9223372036854775807) (hrl : ∀ i, i < len → rl i ≤ 9223372036854775807) (hrn : ∀ i j, i < len → j < rl i → (rn i j).size ≤ 9223372036854775807)
    (hc : TypesAt w a len nm ra rl rc rn) :
    Calls Tryf.prog 5 #[.int .i64 0, .slice a len cap] w fun e w' => ∃ m : Int, e = .returned (.int .i64 m) ∧ 0 ≤ m ∧ m ≤ 1048577 ∧ Below w.heap.size w w' := by
  rcases hc with rfl | ⟨b, off, rfl, hbs, hcell⟩
  · go_enter Tryf.func5, Tryf.ntmps5
    go_wp2_with fail
    refine wp_loop_rounds 1 ?_
    rw [rounds_succ]
    go_wp2_with fail
    go_ret
    exact ⟨_, rfl, by omega, by omega, (Below.refl _ _)⟩
  · go_enter Tryf.func5, Tryf.ntmps5
    go_wp2_with fail
    go_loopw [0, 5] (fun t i wr => ∃ (m : Int) (k : Nat), t = .int .i64 m ∧ i = .int .i64 k ∧ 0 ≤ m ∧ m ≤ 1048577 ∧ k ≤ len ∧ Below w.heap.size w wr) (fun _ i _ => len - (intOf i).toNat)
    case atStart => exact ⟨0, 0, rfl, rfl, by omega, by omega, Nat.zero_le _, Below.refl _ _⟩
    case round =>
      obtain ⟨m, k, rfl, rfl, hm0, hm1, hk, hbl⟩ := hrel
      by_cases hlt : k < len
      · obtain ⟨h1, h2, h3⟩ := hcell k hlt
        have h1' := (hbl.cell (p := ⟨b, off + k * 2, none⟩) hbs).trans h1
        have h2' := (hbl.cell (p := ⟨b, off + k * 2 + 1, none⟩) hbs).trans h2
        have h3' := h3.below hbl
        have g1 := hnm k hlt
        have g2 := hrl k hlt
        have g3 : ∀ j, j < rl k → (rn k j).size ≤ 9223372036854775807 := fun j hj => hrn k j hlt hj
        clear h1 h2 h3 hcell hnm hrl hrn
        by_cases hm2 : m ≤ 1048576
        · go_wp2_with (go_at_call 12; refine (typeBytes_any _ _ _ _ _ (rn k) _ (by omega) (by omega) g1 g2 g3 h3').mono ?_; rintro e w1 ⟨m, rfl, hm0, hm1, hb'⟩)
          go_roundw
          case rel => exact ⟨_, k + 1, rfl, by go_num, by assumption, by assumption, by omega, hbl.trans (Below.mono hb' hbl.size)⟩
          case measure => simp [intOf]; omega
        · go_wp2_with fail
          go_ret
          exact ⟨_, rfl, hm0, hm1, hbl⟩
      · go_wp2_with fail
        go_ret
        exact ⟨_, rfl, hm0, hm1, hbl⟩
end Go.Proofs.Qxb6616336aFmt
