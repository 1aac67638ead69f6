import Derived.Test.Qxb6616336aFmtD
import Derived.LaidEqlPtr
namespace Go.Proofs.Qxb6616336aFmt
open Go.RowKit

/-- Place (i, j): the first relation of that name of the first type of that name. -/
structure Hit (len : Nat) (nm : Nat → ByteArray) (rl : Nat → Nat) (rn : Nat → Nat → ByteArray) (typ name : ByteArray) (i j : Nat) : Prop where
  ilt : i < len
  itype : nm i = typ
  ifirst : ∀ i', i' < i → nm i' ≠ typ
  jlt : j < rl i
  jname : rn i j = name
  jfirst : ∀ j', j' < j → rn i j' ≠ name

theorem Hit.unique {len : Nat} {nm : Nat → ByteArray} {rl : Nat → Nat} {rn : Nat → Nat → ByteArray} {typ name : ByteArray} {i j i' j' : Nat}
    (h : Hit len nm rl rn typ name i j) (h' : Hit len nm rl rn typ name i' j') : i = i' ∧ j = j' := by
  have e : i = i' := by
    rcases Nat.lt_trichotomy i i' with h1 | h1 | h1
    · exact absurd h.itype (h'.ifirst i h1)
    · exact h1
    · exact absurd h'.itype (h.ifirst i' h1)
  subst e
  refine ⟨rfl, ?_⟩
  rcases Nat.lt_trichotomy j j' with h1 | h1 | h1
  · exact absurd h.jname (h'.jfirst j h1)
  · exact h1
  · exact absurd h'.jname (h.jfirst j' h1)

/-- What 'firstIndex' leaves. -/
def Post10 (len : Nat) (nm : Nat → ByteArray) (rl : Nat → Nat) (rn : Nat → Nat → ByteArray) (typ name : ByteArray) (w : World) (e : Ending) (w' : World) : Prop :=
  w' = w ∧ ((∃ i j : Nat, Hit len nm rl rn typ name i j ∧ e = .returned (.tuple #[.int .i64 (i : Int), .int .i64 (j : Int)])) ∨
    ((∀ i j, ¬ Hit len nm rl rn typ name i j) ∧ e = .returned (.tuple #[.int .i64 (-1), .int .i64 (-1)])))

theorem str_yes {a b : ByteArray} (h : a = b) : (a.toList == b.toList) = true := by subst h; simp
theorem str_no {a b : ByteArray} (h : a ≠ b) : (a.toList == b.toList) = false := by
  rw [beq_eq_false_iff_ne]
  intro e
  rw [ByteArray.toList_eq, ByteArray.toList_eq] at e
  exact h (ByteArray.ext (Array.toList_inj.1 e))

theorem Post10.miss {len : Nat} {nm : Nat → ByteArray} {rl : Nat → Nat} {rn : Nat → Nat → ByteArray} {typ name : ByteArray} {w : World} (h : ∀ i j, ¬ Hit len nm rl rn typ name i j) :
    Post10 len nm rl rn typ name w (.returned (.tuple #[.int .i64 (-1), .int .i64 (-1)])) w := ⟨rfl, Or.inr ⟨h, rfl⟩⟩
theorem Post10.hit {len : Nat} {nm : Nat → ByteArray} {rl : Nat → Nat} {rn : Nat → Nat → ByteArray} {typ name : ByteArray} {w : World} {i j : Nat} (h : Hit len nm rl rn typ name i j) :
    Post10 len nm rl rn typ name w (.returned (.tuple #[.int .i64 (i : Int), .int .i64 (j : Int)])) w := ⟨rfl, Or.inl ⟨i, j, h, rfl⟩⟩

set_option maxRecDepth 100000 in
set_option maxHeartbeats 1000000 in
theorem first_any (bm bt : Nat) (br : Nat → Nat) (len : Nat) (nm : Nat → ByteArray) (rl : Nat → Nat) (rn : Nat → Nat → ByteArray) (typ name : ByteArray) (w : World)
    (hl : len ≤ 1048576) (hrl : ∀ i, i < len → rl i ≤ 1048576) (M : ModelAt w bm bt br len nm rl rn) :
    Calls Tryf.prog 10 #[.pointer (some ⟨bm, 0, none⟩), .string typ, .string name] w (Post10 len nm rl rn typ name w) := by
  have m0 := M.top
  go_enter Tryf.func10, Tryf.ntmps10
  go_wp2_with fail
  go_loop [8, 9] (fun i _ => ∃ k : Nat, i = .int .i64 k ∧ k ≤ len ∧ ∀ i', i' < k → nm i' ≠ typ) (fun i _ => len - (intOf i).toNat)
  case atStart => exact ⟨0, rfl, Nat.zero_le _, fun i hi => absurd hi (by omega)⟩
  case round =>
    obtain ⟨k, rfl, hk, hno⟩ := hrel
    by_cases hlt : k < len
    · have m1 := M.name k hlt
      have m2 := M.rels k hlt
      have m3 := M.rel k hlt
      have g2 := hrl k hlt
      by_cases ht : nm k = typ
      · have hb := str_yes ht
        have HT : Hid (nm k = typ) := ht
        have HN : Hid (∀ i', i' < k → nm i' ≠ typ) := hno
        clear ht M hrl hno
        go_wp2_with fail
        go_loop [9] (fun j => ∃ q : Nat, j = .int .i64 q ∧ q ≤ rl k ∧ Hid (∀ j', j' < q → rn k j' ≠ name)) (fun j => rl k - (intOf j).toNat)
        case atStart => exact ⟨0, rfl, Nat.zero_le _, fun i hi => absurd hi (by omega)⟩
        case round =>
          obtain ⟨q, rfl, hq, HJ⟩ := hrel
          by_cases hqk : q < rl k
          · have m4 := m3 q hqk
            clear m3
            by_cases hn : rn k q = name
            · have hb2 := str_yes hn
              have HH : Hid (Hit len nm rl rn typ name k q) := ⟨hlt, HT.out, HN.out, hqk, hn, HJ.out⟩
              clear hn
              go_wp2_with fail
              go_ret2
              exact Post10.hit HH.out
            · have hb2 := str_no hn
              have HJ' : Hid (∀ j', j' < q + 1 → rn k j' ≠ name) := fun j' hj' => by
                by_cases e : j' = q
                · subst e; exact hn
                · exact HJ.out j' (by omega)
              clear hn
              go_wp2_with fail
              go_round
              case rel => exact ⟨q + 1, by go_num, by omega, HJ'⟩
              case measure => simp [intOf]; omega
          · clear m3
            go_wp2_with fail
            go_ret2
            refine Post10.miss fun i j h => ?_
            have e : i = k := by
              rcases Nat.lt_trichotomy i k with h1 | h1 | h1
              · exact absurd h.itype (HN.out i h1)
              · exact h1
              · exact absurd HT.out (h.ifirst k h1)
            subst e
            exact HJ.out j (by have := h.jlt; omega) h.jname
      · have hb := str_no ht
        have HN : Hid (∀ i', i' < k + 1 → nm i' ≠ typ) := fun j' hj' => by
          by_cases e : j' = k
          · subst e; exact ht
          · exact hno j' (by omega)
        clear ht M hrl hno m3
        go_wp2_with fail
        go_round
        case rel => exact ⟨k + 1, by go_num, by omega, HN.out⟩
        case measure => simp [intOf]; omega
    · go_wp2_with fail
      go_ret2
      exact Post10.miss fun i j h => hno i (by have := h.ilt; omega) h.itype

/-- What 'locate' leaves, at a pointer to place (i, j). -/
def Post11 (i j : Nat) (w : World) (e : Ending) (w' : World) : Prop := w' = w ∧ e = .returned (.tuple #[.int .i64 (i : Int), .int .i64 (j : Int)])

set_option maxHeartbeats 400000 in
theorem locate_nil (bm : Nat) (w : World) :
    Calls Tryf.prog 11 #[.pointer (some ⟨bm, 0, none⟩), .pointer none] w fun e w' => e = .returned (.tuple #[.int .i64 (-1), .int .i64 (-1)]) ∧ w' = w := by
  go_enter Tryf.func11, Tryf.ntmps11
  go_wp2_with fail
  go_ret2
  exact ⟨rfl, rfl⟩

set_option maxRecDepth 100000 in
set_option maxHeartbeats 1000000 in
theorem locate_any (bm bt : Nat) (br : Nat → Nat) (len : Nat) (nm : Nat → ByteArray) (rl : Nat → Nat) (rn : Nat → Nat → ByteArray) (i j : Nat) (w : World)
    (hl : len ≤ 1048576) (hrl : ∀ i, i < len → rl i ≤ 1048576) (M : ModelAt w bm bt br len nm rl rn) (hi : i < len) (hj : j < rl i) :
    Calls Tryf.prog 11 #[.pointer (some ⟨bm, 0, none⟩), .pointer (some ⟨br i, j * 3, none⟩)] w (Post11 i j w) := by
  obtain ⟨i0, hi59, hz0, hz1, hz2⟩ := info_parts Tryf.info59
  clear hz0 hz2
  have m0 := M.top
  go_enter Tryf.func11, Tryf.ntmps11
  go_wp2_with fail
  go_loop [6, 7] (fun t _ => ∃ k : Nat, t = .int .i64 k ∧ k ≤ i) (fun t _ => len - (intOf t).toNat)
  case atStart => exact ⟨0, rfl, Nat.zero_le _⟩
  case round =>
    obtain ⟨k, rfl, hk⟩ := hrel
    have hlt : k < len := by omega
    have m1 := M.name k hlt
    have m2 := M.rels k hlt
    have m3 := M.rel k hlt
    have g2 := hrl k hlt
    go_wp2_with fail
    go_loop [7] (fun t => ∃ q : Nat, t = .int .i64 q ∧ q ≤ rl k ∧ (k = i → q ≤ j)) (fun t => rl k - (intOf t).toNat)
    case atStart => exact ⟨0, rfl, Nat.zero_le _, fun _ => Nat.zero_le _⟩
    case round =>
      obtain ⟨q, rfl, hq, hqj⟩ := hrel
      by_cases hqk : q < rl k
      · by_cases hsame : k = i ∧ q = j
        · obtain ⟨rfl, rfl⟩ := hsame
          have hrun := run_eql_ptr_same (P := Tryf.prog) w (⟨br k, q * 3, none⟩ : Addr) Tryf.underlying33 hi59
          clear m3 hrl M
          go_wp2_with fail
          go_ret2
          exact ⟨rfl, rfl⟩
        · have hne : (⟨br k, q * 3, none⟩ : Addr) ≠ ⟨br i, j * 3, none⟩ := by
            intro e
            simp only [Addr.mk.injEq, and_true] at e
            rcases Nat.lt_or_ge k i with h | h
            · have := M.mono k i h hi; omega
            · exact hsame ⟨by omega, by omega⟩
          obtain ⟨ca, hca⟩ := M.brow k hlt
          obtain ⟨cb, hcb⟩ := M.brow i hi
          have hrun := run_eql_ptr_other (P := Tryf.prog) w (a := ⟨br k, q * 3, none⟩) (b := ⟨br i, j * 3, none⟩) Tryf.underlying33 hi59 (by rw [hz1]; decide) hne hca hcb
          have hqj' : Hid (k = i → q + 1 ≤ j) := fun e => by have := hqj e; omega
          clear m3 hrl M hne hsame hca hcb hqj
          go_wp2_with fail
          go_round
          case rel => exact ⟨q + 1, by go_num, by omega, hqj'.out⟩
          case measure => simp [intOf]; omega
      · have hki : k ≠ i := fun e => by subst e; have := hqj rfl; omega
        clear m3 hrl M hqj
        go_wp2_with fail
        go_round
        case rel => exact ⟨k + 1, by go_num, by omega⟩
        case measure => simp [intOf]; omega
end Go.Proofs.Qxb6616336aFmt
