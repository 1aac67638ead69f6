import Derived.Test.Qxb6616513aChecked
import Derived.WalkKit
import Derived.WalkSpells
import Derived.WalkLawsBesides
import Derived.RegionTactic
import Derived.Deep.QuietTactic
import Derived.BigQuiet
import Derived.Below
import Derived.OwnWalk
namespace Go.Proofs.Qxb6616513a
open Go.RowKit

/-- The times of a slice of points that lies from a on: cell 2 j. -/
def TimesAt (w : World) (a : Option Addr) (n : Nat) (z : Nat → Int) : Prop := n = 0 ∨ ∃ g off, a = some ⟨g, off, none⟩ ∧ g < w.heap.size ∧ ∀ j, j < n → w.cell? ⟨g, off + j * 2, none⟩ = some (.int .i64 (z j)) ∧ ∃ u, w.cell? ⟨g, off + j * 2 + 1, none⟩ = some u ∧ u.oneCell' = true

theorem isNaN_any (x : Int) (w : World) : Calls Try.prog 67 #[.int .i64 x] w fun e w' => e = .returned (.bool false) ∧ w' = w := by
  have h : (x != x) = false := by simp
  go_enter Try.func67, Try.ntmps67
  go_wp2_with fail
  go_ret
  exact ⟨rfl, rfl⟩

/-- cmp.Compare. -/
def cmpI (x y : Int) : Int := if x < y then -1 else if y < x then 1 else 0

theorem compare_any (x y : Int) (w : World) : Calls Try.prog 59 #[.int .i64 x, .int .i64 y] w fun e w' => e = .returned (.int .i64 (cmpI x y)) ∧ w' = w := by
  have q := isNaN_any x
  have q' := isNaN_any y
  by_cases h : x < y
  · have e : cmpI x y = -1 := by unfold cmpI; rw [if_pos h]
    rw [e]
    go_enter Try.func59, Try.ntmps59
    go_wp2_with fail
    refine (q _).mono ?_
    rintro e w0 ⟨rfl, rfl⟩
    go_wp2_with fail
    refine (q' _).mono ?_
    rintro e w1 ⟨rfl, rfl⟩
    go_wp2_with fail
    go_ret
    exact ⟨rfl, rfl⟩
  · by_cases h2 : y < x
    · have e : cmpI x y = 1 := by unfold cmpI; rw [if_neg h, if_pos h2]
      rw [e]
      go_enter Try.func59, Try.ntmps59
      go_wp2_with fail
      refine (q _).mono ?_
      rintro e w0 ⟨rfl, rfl⟩
      go_wp2_with fail
      refine (q' _).mono ?_
      rintro e w1 ⟨rfl, rfl⟩
      go_wp2_with fail
      go_ret
      exact ⟨rfl, rfl⟩
    · have e : cmpI x y = 0 := by unfold cmpI; rw [if_neg h, if_neg h2]
      rw [e]
      go_enter Try.func59, Try.ntmps59
      go_wp2_with fail
      refine (q _).mono ?_
      rintro e w0 ⟨rfl, rfl⟩
      go_wp2_with fail
      refine (q' _).mono ?_
      rintro e w1 ⟨rfl, rfl⟩
      go_wp2_with fail
      go_ret
      exact ⟨rfl, rfl⟩

theorem find1_any (x y : Int) (u : Value) (w : World) : Calls Try.prog 64 #[.agg #[.int .i64 x, u], .int .i64 y] w fun e w' => e = .returned (.int .i64 (cmpI x y)) ∧ Below w.heap.size w w' := by
  have q := compare_any x y
  go_enter Try.func64, Try.ntmps64
  go_wp2_with fail
  refine (q _).mono ?_
  rintro e w0 ⟨rfl, rfl⟩
  go_wp2_with fail
  go_ret
  exact ⟨rfl, (Below.refl _ _).alloc (Nat.le_refl _) _⟩

theorem child1_any (x y : Int) (u : Value) (w : World) : Calls Try.prog 58 #[.agg #[.int .i64 x, u], .int .i64 y] w fun e w' => e = .returned (.int .i64 (cmpI x y)) ∧ Below w.heap.size w w' := by
  have q := compare_any x y
  go_enter Try.func58, Try.ntmps58
  go_wp2_with fail
  refine (q _).mono ?_
  rintro e w0 ⟨rfl, rfl⟩
  go_wp2_with fail
  go_ret
  exact ⟨rfl, (Below.refl _ _).alloc (Nat.le_refl _) _⟩

/-- Where the look back stops. -/
def Back (n : Nat) (z : Nat → Int) (t : Int) (most : Nat) (i : Nat) : Prop := i ≤ n ∧ (∀ j, i ≤ j → j < n → t ≤ z j) ∧ (i = 0 ∨ z (i - 1) < t ∨ most ≤ n - i)

set_option maxRecDepth 100000 in
theorem scanBack_any (a : Option Addr) (n c : Nat) (z : Nat → Int) (t : Int) (most : Nat) (hn : n ≤ 65536) (w : World) (h : TimesAt w a n z) :
    Calls Try.prog 62 #[.slice a n c, .int .i64 t, .int .i64 (most : Int)] w fun e w' => w' = w ∧ ∃ i, Back n z t most i ∧ e = .returned (.int .i64 (i : Nat)) := by
  rcases h with rfl | ⟨g, off, rfl, hlt, hc⟩
  · go_enter Try.func62, Try.ntmps62
    go_wp2_with fail
    refine wp_loop_rounds 1 ?_
    rw [rounds_succ]
    go_wp2_with fail
    go_ret
    exact ⟨rfl, 0, ⟨Nat.le_refl _, fun j _ hj => by omega, Or.inl rfl⟩, rfl⟩
  · go_enter Try.func62, Try.ntmps62
    go_wp2_with fail
    go_loopw [7] (fun i wr => ∃ (k : Nat), k ≤ n ∧ i = .int .i64 k ∧ wr = w ∧ ∀ j, k ≤ j → j < n → t ≤ z j) (fun i _ => (intOf i).toNat)
    case atStart => exact ⟨n, Nat.le_refl _, rfl, rfl, fun j h1 h2 => by omega⟩
    case round =>
      obtain ⟨k, hk, rfl, rfl, hge⟩ := hrel
      by_cases h0 : k = 0
      · subst h0
        go_wp2_with fail
        go_ret
        exact ⟨rfl, 0, ⟨hk, hge, Or.inl rfl⟩, rfl⟩
      · obtain ⟨k, rfl⟩ : ∃ k', k = k' + 1 := ⟨k - 1, by omega⟩
        obtain ⟨hck, _⟩ := hc k (by omega)
        by_cases h1 : n - (k + 1) < most
        · by_cases h2 : t ≤ z k
          · have HG : Hid (∀ j, k + 1 ≤ j → j < n → t ≤ z j) := hge
            clear hge hc
            have e1 : ((k + 1 : Nat) : Int) - 1 = (k : Int) := by omega
            have e2 : (n : Int) - ((k + 1 : Nat) : Int) < (most : Int) := by omega
            go_wp2_with fail
            go_roundw
            case rel =>
              refine ⟨k, by omega, rfl, trivial, fun j hj hjn => ?_⟩
              by_cases hjk : j = k
              · rw [hjk]; exact h2
              · exact HG.out j (by omega) hjn
            case measure => simp [intOf]
          · clear hc
            have e1 : ((k + 1 : Nat) : Int) - 1 = (k : Int) := by omega
            have e2 : (n : Int) - ((k + 1 : Nat) : Int) < (most : Int) := by omega
            have HG : Hid (Back n z t most (k + 1)) := ⟨hk, hge, Or.inr (Or.inl (by simpa using h2))⟩
            clear hge
            go_wp2_with fail
            go_ret
            exact ⟨rfl, k + 1, HG.out, rfl⟩
        · clear hc
          have e2 : ¬ (n : Int) - ((k + 1 : Nat) : Int) < (most : Int) := by omega
          have HG : Hid (Back n z t most (k + 1)) := ⟨hk, hge, Or.inr (Or.inr (by omega))⟩
          clear hge
          go_wp2_with fail
          go_ret
          exact ⟨rfl, k + 1, HG.out, rfl⟩

/-- The place of t among ascending times. -/
def Place (n : Nat) (z : Nat → Int) (t : Int) (i : Nat) : Prop := i ≤ n ∧ (∀ j, j < i → z j < t) ∧ (∀ j, i ≤ j → j < n → t ≤ z j)

set_option maxRecDepth 100000 in
theorem search_points (a : Option Addr) (n c : Nat) (z : Nat → Int) (t : Int) (hn : n ≤ 65536) (hz : ∀ i j, i < j → j < n → z i < z j) (w : World) (h : TimesAt w a n z) :
    Calls Try.prog 63 #[.slice a n c, .int .i64 t, .func (.func 64) #[] #[]] w fun e w' => Below w.heap.size w w' ∧ ∃ i, Place n z t i ∧ e = .returned (.tuple #[.int .i64 (i : Nat), .bool (decide (i < n ∧ z i = t))]) := by
  rcases h with rfl | ⟨g, off, rfl, hlt, hc⟩
  · go_enter Try.func63, Try.ntmps63
    go_wp2_with fail
    refine wp_loop_rounds 1 ?_
    rw [rounds_succ]
    go_wp2_with fail
    go_ret2
    exact ⟨Below.refl _ _, 0, ⟨Nat.le_refl _, fun j hj => by omega, fun j _ hj => by omega⟩, by simp⟩
  · go_enter Try.func63, Try.ntmps63
    go_wp2_with fail
    go_loopw [9, 10] (fun i j wr => ∃ (l h : Nat), l ≤ h ∧ h ≤ n ∧ i = .int .i64 l ∧ j = .int .i64 h ∧ Below w.heap.size w wr ∧ (∀ m, m < l → z m < t) ∧ ∀ m, h ≤ m → m < n → t ≤ z m) (fun i j _ => (intOf j).toNat - (intOf i).toNat)
    case atStart => exact ⟨0, n, Nat.zero_le _, Nat.le_refl _, rfl, rfl, Below.refl _ _, fun j h1 => by omega, fun j h1 h2 => by omega⟩
    case round =>
      obtain ⟨l, h, hlh, hhn, rfl, rfl, hB, hlo, hhi⟩ := hrel
      by_cases h0 : l < h
      · have hm : ((l : Int) + (h : Int)) / 2 = (((l + h) / 2 : Nat) : Int) := by omega
        have hm1 : l ≤ (l + h) / 2 ∧ (l + h) / 2 < h := by omega
        obtain ⟨m, hmm⟩ : ∃ m, m = (l + h) / 2 := ⟨_, rfl⟩
        rw [← hmm] at hm hm1
        obtain ⟨hck, u, hcu, hu⟩ := hc m (by omega)
        have e1 : wr.cell? ⟨g, off + m * 2, none⟩ = some (.int .i64 (z m)) := (hB.cell (p := ⟨g, off + m * 2, none⟩) hlt).trans hck
        have e2 : wr.cell? ⟨g, off + m * 2 + 1, none⟩ = some u := (hB.cell (p := ⟨g, off + m * 2 + 1, none⟩) hlt).trans hcu
        have HH : Hid ((∀ m, m < l → z m < t) ∧ (∀ m, h ≤ m → m < n → t ≤ z m) ∧ Below w.heap.size w wr) := ⟨hlo, hhi, hB⟩
        have q := find1_any (z m) t u wr
        clear hlo hhi hB hmm hck hcu
        go_wp2_with fail
        refine q.mono ?_
        rintro e w1 ⟨rfl, hB1⟩
        have HB1 : Hid (Below wr.heap.size wr w1) := hB1
        clear q hB1 e1 e2
        by_cases hlt' : z m < t
        · have hcm : cmpI (z m) t < 0 := by unfold cmpI; rw [if_pos hlt']; decide
          go_wp2_with fail
          go_roundw
          case rel =>
            refine ⟨m + 1, h, by omega, by omega, by go_num, rfl, HH.out.2.2.trans (HB1.out.mono HH.out.2.2.size), fun j hj => ?_, HH.out.2.1⟩
            by_cases hjm : j = m
            · rw [hjm]; exact hlt'
            · have := hz j m (by omega) (by omega); omega
          case measure => simp [intOf]; omega
        · have hcm : ¬ cmpI (z m) t < 0 := by unfold cmpI; rw [if_neg hlt']; split <;> decide
          go_wp2_with fail
          go_roundw
          case rel =>
            refine ⟨l, m, by omega, by omega, rfl, rfl, HH.out.2.2.trans (HB1.out.mono HH.out.2.2.size), HH.out.1, fun j hj hjn => ?_⟩
            by_cases hjm : j = m
            · rw [hjm]; omega
            · have := hz m j (by omega) (by omega); omega
          case measure => simp [intOf]; omega
      · obtain rfl : l = h := by omega
        have HH : Hid (Place n z t l ∧ Below w.heap.size w wr) := ⟨⟨hhn, hlo, hhi⟩, hB⟩
        by_cases hln : l < n
        · obtain ⟨hck, u, hcu, hu⟩ := hc l hln
          have e1 : wr.cell? ⟨g, off + l * 2, none⟩ = some (.int .i64 (z l)) := (hB.cell (p := ⟨g, off + l * 2, none⟩) hlt).trans hck
          have e2 : wr.cell? ⟨g, off + l * 2 + 1, none⟩ = some u := (hB.cell (p := ⟨g, off + l * 2 + 1, none⟩) hlt).trans hcu
          have q := find1_any (z l) t u wr
          clear hlo hhi hB hck hcu
          go_wp2_with fail
          refine q.mono ?_
          rintro e w1 ⟨rfl, hB1⟩
          have HB1 : Hid (Below wr.heap.size wr w1) := hB1
          clear q hB1 e1 e2
          by_cases heq : z l = t
          · have hcm : cmpI (z l) t = 0 := by unfold cmpI; rw [heq]; simp
            go_wp2_with fail
            go_ret2
            exact ⟨HH.out.2.trans (HB1.out.mono HH.out.2.size), l, HH.out.1, by simp [hln, heq, cmpI]⟩
          · have hcm : ¬ cmpI (z l) t = 0 := by
              unfold cmpI
              split
              · decide
              · rw [if_pos (by omega)]; decide
            have hcm' : (cmpI (z l) t == 0) = false := by simpa using hcm
            go_wp2_with fail
            go_ret2
            exact ⟨HH.out.2.trans (HB1.out.mono HH.out.2.size), l, HH.out.1, by simp [heq]⟩
        · clear hc hlo hhi hB
          go_wp2_with fail
          go_ret2
          exact ⟨HH.out.2, l, HH.out.1, by simp [hln]⟩

set_option maxRecDepth 100000 in
theorem search_kids (a : Option Addr) (n c : Nat) (z : Nat → Int) (t : Int) (hn : n ≤ 65536) (hz : ∀ i j, i < j → j < n → z i < z j) (w : World) (h : TimesAt w a n z) :
    Calls Try.prog 57 #[.slice a n c, .int .i64 t, .func (.func 58) #[] #[]] w fun e w' => Below w.heap.size w w' ∧ ∃ i, Place n z t i ∧ e = .returned (.tuple #[.int .i64 (i : Nat), .bool (decide (i < n ∧ z i = t))]) := by
  rcases h with rfl | ⟨g, off, rfl, hlt, hc⟩
  · go_enter Try.func57, Try.ntmps57
    go_wp2_with fail
    refine wp_loop_rounds 1 ?_
    rw [rounds_succ]
    go_wp2_with fail
    go_ret2
    exact ⟨Below.refl _ _, 0, ⟨Nat.le_refl _, fun j hj => by omega, fun j _ hj => by omega⟩, by simp⟩
  · go_enter Try.func57, Try.ntmps57
    go_wp2_with fail
    go_loopw [9, 10] (fun i j wr => ∃ (l h : Nat), l ≤ h ∧ h ≤ n ∧ i = .int .i64 l ∧ j = .int .i64 h ∧ Below w.heap.size w wr ∧ (∀ m, m < l → z m < t) ∧ ∀ m, h ≤ m → m < n → t ≤ z m) (fun i j _ => (intOf j).toNat - (intOf i).toNat)
    case atStart => exact ⟨0, n, Nat.zero_le _, Nat.le_refl _, rfl, rfl, Below.refl _ _, fun j h1 => by omega, fun j h1 h2 => by omega⟩
    case round =>
      obtain ⟨l, h, hlh, hhn, rfl, rfl, hB, hlo, hhi⟩ := hrel
      by_cases h0 : l < h
      · have hm : ((l : Int) + (h : Int)) / 2 = (((l + h) / 2 : Nat) : Int) := by omega
        have hm1 : l ≤ (l + h) / 2 ∧ (l + h) / 2 < h := by omega
        obtain ⟨m, hmm⟩ : ∃ m, m = (l + h) / 2 := ⟨_, rfl⟩
        rw [← hmm] at hm hm1
        obtain ⟨hck, u, hcu, hu⟩ := hc m (by omega)
        have e1 : wr.cell? ⟨g, off + m * 2, none⟩ = some (.int .i64 (z m)) := (hB.cell (p := ⟨g, off + m * 2, none⟩) hlt).trans hck
        have e2 : wr.cell? ⟨g, off + m * 2 + 1, none⟩ = some u := (hB.cell (p := ⟨g, off + m * 2 + 1, none⟩) hlt).trans hcu
        have HH : Hid ((∀ m, m < l → z m < t) ∧ (∀ m, h ≤ m → m < n → t ≤ z m) ∧ Below w.heap.size w wr) := ⟨hlo, hhi, hB⟩
        have q := child1_any (z m) t u wr
        clear hlo hhi hB hmm hck hcu
        go_wp2_with fail
        refine q.mono ?_
        rintro e w1 ⟨rfl, hB1⟩
        have HB1 : Hid (Below wr.heap.size wr w1) := hB1
        clear q hB1 e1 e2
        by_cases hlt' : z m < t
        · have hcm : cmpI (z m) t < 0 := by unfold cmpI; rw [if_pos hlt']; decide
          go_wp2_with fail
          go_roundw
          case rel =>
            refine ⟨m + 1, h, by omega, by omega, by go_num, rfl, HH.out.2.2.trans (HB1.out.mono HH.out.2.2.size), fun j hj => ?_, HH.out.2.1⟩
            by_cases hjm : j = m
            · rw [hjm]; exact hlt'
            · have := hz j m (by omega) (by omega); omega
          case measure => simp [intOf]; omega
        · have hcm : ¬ cmpI (z m) t < 0 := by unfold cmpI; rw [if_neg hlt']; split <;> decide
          go_wp2_with fail
          go_roundw
          case rel =>
            refine ⟨l, m, by omega, by omega, rfl, rfl, HH.out.2.2.trans (HB1.out.mono HH.out.2.2.size), HH.out.1, fun j hj hjn => ?_⟩
            by_cases hjm : j = m
            · rw [hjm]; omega
            · have := hz m j (by omega) (by omega); omega
          case measure => simp [intOf]; omega
      · obtain rfl : l = h := by omega
        have HH : Hid (Place n z t l ∧ Below w.heap.size w wr) := ⟨⟨hhn, hlo, hhi⟩, hB⟩
        by_cases hln : l < n
        · obtain ⟨hck, u, hcu, hu⟩ := hc l hln
          have e1 : wr.cell? ⟨g, off + l * 2, none⟩ = some (.int .i64 (z l)) := (hB.cell (p := ⟨g, off + l * 2, none⟩) hlt).trans hck
          have e2 : wr.cell? ⟨g, off + l * 2 + 1, none⟩ = some u := (hB.cell (p := ⟨g, off + l * 2 + 1, none⟩) hlt).trans hcu
          have q := child1_any (z l) t u wr
          clear hlo hhi hB hck hcu
          go_wp2_with fail
          refine q.mono ?_
          rintro e w1 ⟨rfl, hB1⟩
          have HB1 : Hid (Below wr.heap.size wr w1) := hB1
          clear q hB1 e1 e2
          by_cases heq : z l = t
          · have hcm : cmpI (z l) t = 0 := by unfold cmpI; rw [heq]; simp
            go_wp2_with fail
            go_ret2
            exact ⟨HH.out.2.trans (HB1.out.mono HH.out.2.size), l, HH.out.1, by simp [hln, heq, cmpI]⟩
          · have hcm : ¬ cmpI (z l) t = 0 := by
              unfold cmpI
              split
              · decide
              · rw [if_pos (by omega)]; decide
            have hcm' : (cmpI (z l) t == 0) = false := by simpa using hcm
            go_wp2_with fail
            go_ret2
            exact ⟨HH.out.2.trans (HB1.out.mono HH.out.2.size), l, HH.out.1, by simp [heq]⟩
        · clear hc hlo hhi hB
          go_wp2_with fail
          go_ret2
          exact ⟨HH.out.2, l, HH.out.1, by simp [hln]⟩

set_option maxRecDepth 100000 in
theorem find_any (a : Option Addr) (n c : Nat) (z : Nat → Int) (t : Int) (hn : n ≤ 65536) (hnc : n ≤ c) (hz : ∀ i j, i < j → j < n → z i < z j) (w : World) (h : TimesAt w a n z) :
    Calls Try.prog 54 #[.slice a n c, .int .i64 t] w fun e w' => Below w.heap.size w w' ∧ ∃ i, Place n z t i ∧ e = .returned (.tuple #[.int .i64 (i : Nat), .bool (decide (i < n ∧ z i = t))]) := by
  have q := scanBack_any a n c z t 8 hn w h
  go_enter Try.func54, Try.ntmps54
  go_wp2_with fail
  refine q.mono ?_
  rintro e w0 ⟨rfl, i, hb, rfl⟩
  clear q
  by_cases h1 : 0 < i ∧ t ≤ z (i - 1)
  · obtain ⟨k, rfl⟩ : ∃ k, i = k + 1 := ⟨i - 1, by omega⟩
    obtain ⟨h0, h1⟩ := h1
    simp only [Nat.add_sub_cancel] at h1
    obtain ⟨hb1, hb2, hb3⟩ := hb
    rcases h with rfl | ⟨g, off, rfl, hlt, hc⟩
    · omega
    have hck := (hc k (by omega)).1
    have q := search_points (some ⟨g, off, none⟩) (k + 1) c z t (by omega) (fun i j h1 h2 => hz i j h1 (by omega)) w0 (Or.inr ⟨g, off, rfl, hlt, fun j hj => hc j (by omega)⟩)
    have HZ : Hid ((∀ i j, i < j → j < n → z i < z j) ∧ TimesAt w0 (some ⟨g, off, none⟩) n z) := ⟨hz, Or.inr ⟨g, off, rfl, hlt, hc⟩⟩
    clear hb2 hb3 hz hc
    have e1 : ((k : Int) + 1) ≤ (c : Int) := by omega
    have e0 : (0 : Int) ≤ ((k : Int) + 1) := by omega
    go_wp2_with fail
    refine q.mono ?_
    rintro e w1 ⟨hB1, i, hp, rfl⟩
    have hp' : Place n z t i := ⟨by have := hp.1; omega, hp.2.1, fun j h2 h3 => by
      by_cases hj : j < k + 1
      · exact hp.2.2 j h2 hj
      · have := HZ.out.1 k j (by omega) h3; omega⟩
    have hik : i ≤ k := by
      by_cases hik : i ≤ k
      · exact hik
      · have := hp.2.1 k (by omega); omega
    have HP : Hid (Place n z t i ∧ Below w0.heap.size w0 w1) := ⟨hp', hB1⟩
    rcases HZ.out.2 with h | ⟨g', off', hab, hlt', hc⟩
    · omega
    simp only [Option.some.injEq, Addr.mk.injEq, and_true] at hab
    obtain ⟨rfl, rfl⟩ := hab
    have hci : w1.cell? ⟨g, off + i * 2, none⟩ = some (.int .i64 (z i)) := (hB1.cell (p := ⟨g, off + i * 2, none⟩) hlt).trans (hc i (by omega)).1
    clear q hp hp' hB1 hc
    have hin : i < n := by omega
    by_cases heq : z i = t
    · have heq' : (z i == t) = true := by simpa using heq
      go_wp2_with fail
      go_quiet (fail)
      go_wp2_with fail
      go_ret2
      exact ⟨below_drewN HP.out.2 _, i, HP.out.1, by simp [hin, heq]⟩
    · have heq' : (z i == t) = false := by simpa using heq
      go_wp2_with fail
      go_quiet (fail)
      go_wp2_with fail
      go_ret2
      exact ⟨below_drewN HP.out.2 _, i, HP.out.1, by simp [heq]⟩
  · have hp' : Place n z t i := ⟨hb.1, fun j hj => by
        rcases hb.2.2 with h | h | h
        · omega
        · by_cases hji : j = i - 1
          · rw [hji]; exact h
          · have := hz j (i - 1) (by omega) (by have := hb.1; omega); omega
        · by_cases hji : j = i - 1
          · rw [hji]; omega
          · have := hz j (i - 1) (by omega) (by have := hb.1; omega); omega, hb.2.1⟩
    have HP : Hid (Place n z t i ∧ Below w0.heap.size w0 w0) := ⟨hp', Below.refl _ _⟩
    have hin' := hb.1
    rcases h with rfl | ⟨g, off, rfl, hlt, hc⟩
    · obtain rfl : i = 0 := by omega
      clear hp' hb hz
      go_wp2_with fail
      go_quiet (fail)
      go_wp2_with fail
      go_ret2
      exact ⟨below_drewN HP.out.2 _, 0, HP.out.1, by simp⟩
    by_cases hi0 : i = 0
    · subst hi0
      by_cases hin : 0 < n
      · have hci : w0.cell? ⟨g, off, none⟩ = some (.int .i64 (z 0)) := by simpa using (hc 0 hin).1
        clear hp' hb hz hc h1
        by_cases heq : z 0 = t
        · have heq' : (z 0 == t) = true := by simpa using heq
          go_wp2_with fail
          go_quiet (fail)
          go_wp2_with fail
          go_ret2
          exact ⟨below_drewN HP.out.2 _, 0, HP.out.1, by simp [hin, heq]⟩
        · have heq' : (z 0 == t) = false := by simpa using heq
          go_wp2_with fail
          go_quiet (fail)
          go_wp2_with fail
          go_ret2
          exact ⟨below_drewN HP.out.2 _, 0, HP.out.1, by simp [heq]⟩
      · clear hp' hb hz hc h1
        go_wp2_with fail
        go_quiet (fail)
        go_wp2_with fail
        go_ret2
        exact ⟨below_drewN HP.out.2 _, 0, HP.out.1, by simp [hin]⟩
    · obtain ⟨k, hik⟩ : ∃ k, i = k + 1 := ⟨i - 1, by omega⟩
      have hck := (hc k (by omega)).1
      have hzk : ¬ t ≤ z k := fun h => h1 ⟨by omega, by rw [hik]; simpa using h⟩
      have e1 : (i : Int) - 1 = (k : Int) := by omega
      have e0 : 0 < i := by omega
      have e2 : k < n := by omega
      have HI : Hid (i = k + 1) := hik
      have hzk' : z k < t := by omega
      clear hik
      by_cases hin : i < n
      · have hci := (hc i hin).1
        clear hp' hb hz hc h1
        by_cases heq : z i = t
        · have heq' : (z i == t) = true := by simpa using heq
          go_wp2_with fail
          go_quiet (fail)
          go_wp2_with fail
          go_ret2
          exact ⟨below_drewN HP.out.2 _, i, HP.out.1, by simp [hin, heq]⟩
        · have heq' : (z i == t) = false := by simpa using heq
          go_wp2_with fail
          go_quiet (fail)
          go_wp2_with fail
          go_ret2
          exact ⟨below_drewN HP.out.2 _, i, HP.out.1, by simp [heq]⟩
      · clear hp' hb hz hc h1
        go_wp2_with fail
        go_quiet (fail)
        go_wp2_with fail
        go_ret2
        exact ⟨below_drewN HP.out.2 _, i, HP.out.1, by simp [hin]⟩

end Go.Proofs.Qxb6616513a
