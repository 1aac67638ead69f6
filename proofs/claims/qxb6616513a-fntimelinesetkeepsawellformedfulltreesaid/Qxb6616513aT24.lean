import Derived.Test.Qxb6616513aT23
namespace Go.Proofs.Qxb6616513a

/-- Two ascending lists of the same members are one. -/
theorem asc_ext : ∀ (a b : List (Int × Nat)), a.Pairwise (fun x y => x.1 < y.1) → b.Pairwise (fun x y => x.1 < y.1) → (∀ x, x ∈ a ↔ x ∈ b) → a = b
  | [], [], _, _, _ => rfl
  | [], y :: b, _, _, h => by have := (h y).2 (by simp); simp at this
  | x :: a, [], _, _, h => by have := (h x).1 (by simp); simp at this
  | x :: a, y :: b, ha, hb, h => by
    obtain ⟨a1, a2⟩ := List.pairwise_cons.1 ha
    obtain ⟨b1, b2⟩ := List.pairwise_cons.1 hb
    have hxy : x = y := by
      rcases List.mem_cons.1 ((h x).1 (by simp)) with h1 | h1
      · exact h1
      · rcases List.mem_cons.1 ((h y).2 (by simp)) with h2 | h2
        · exact h2.symm
        · have := b1 x h1; have := a1 y h2; omega
    subst hxy
    congr 1
    refine asc_ext a b a2 b2 fun z => ⟨fun hz => ?_, fun hz => ?_⟩
    · rcases List.mem_cons.1 ((h z).1 (by simp [hz])) with h1 | h1
      · subst h1; have := a1 z hz; omega
      · exact h1
    · rcases List.mem_cons.1 ((h z).2 (by simp [hz])) with h1 | h1
      · subst h1; have := b1 z hz; omega
      · exact h1

theorem mem_up {ps : List (Int × Nat)} {p x : Int × Nat} (hs : ps.Pairwise (fun x y => x.1 < y.1)) : x ∈ up ps p ↔ x = p ∨ (x ∈ ps ∧ x.1 ≠ p.1) := by
  induction ps with
  | nil => simp [up]
  | cons q ps ih =>
    obtain ⟨h1, h2⟩ := List.pairwise_cons.1 hs
    rw [up]
    by_cases hq : q.1 < p.1
    · rw [if_pos hq, List.mem_cons, ih h2, List.mem_cons]
      constructor
      · rintro (rfl | rfl | ⟨h3, h4⟩)
        · exact Or.inr ⟨Or.inl rfl, by omega⟩
        · exact Or.inl rfl
        · exact Or.inr ⟨Or.inr h3, h4⟩
      · rintro (rfl | ⟨rfl | h3, h4⟩)
        · exact Or.inr (Or.inl rfl)
        · exact Or.inl rfl
        · exact Or.inr (Or.inr ⟨h3, h4⟩)
    · by_cases he : q.1 = p.1
      · rw [if_neg hq, if_pos he, List.mem_cons, List.mem_cons]
        constructor
        · rintro (rfl | h3)
          · exact Or.inl rfl
          · exact Or.inr ⟨Or.inr h3, by have := h1 x h3; omega⟩
        · rintro (rfl | ⟨rfl | h3, h4⟩)
          · exact Or.inl rfl
          · exact absurd he h4
          · exact Or.inr h3
      · rw [if_neg hq, if_neg he, List.mem_cons, List.mem_cons]
        constructor
        · rintro (rfl | rfl | h3)
          · exact Or.inl rfl
          · exact Or.inr ⟨Or.inl rfl, he⟩
          · exact Or.inr ⟨Or.inr h3, by have := h1 x h3; omega⟩
        · rintro (rfl | ⟨rfl | h3, h4⟩)
          · exact Or.inl rfl
          · exact Or.inr (Or.inl rfl)
          · exact Or.inr (Or.inr h3)

/-- The points of the script set in order. -/
def ups (z : Nat → Int) (v : Nat → Nat) : Nat → List (Int × Nat)
  | 0 => []
  | n + 1 => up (ups z v n) (z n, v n)

theorem ups_asc (z : Nat → Int) (v : Nat → Nat) (n : Nat) : Asc (times (ups z v n)) := by
  induction n with
  | zero => exact List.Pairwise.nil
  | succ n ih => exact up_asc _ ih

theorem ups_length (z : Nat → Int) (v : Nat → Nat) (n : Nat) : (ups z v n).length ≤ n := by
  induction n with
  | zero => exact Nat.le_refl _
  | succ n ih => have := up_length (ups z v n) (z n, v n); show (up (ups z v n) (z n, v n)).length ≤ n + 1; omega

theorem mem_ups (z : Nat → Int) (v : Nat → Nat) (n : Nat) (x : Int × Nat) : x ∈ ups z v n ↔ ∃ j, j < n ∧ x = (z j, v j) ∧ ∀ j', j < j' → j' < n → z j' ≠ z j := by
  induction n with
  | zero => simp [ups]
  | succ n ih =>
    rw [ups, mem_up ((asc_iff _).1 (ups_asc z v n)), ih]
    constructor
    · rintro (rfl | ⟨⟨j, hj, rfl, hl⟩, hne⟩)
      · exact ⟨n, by omega, rfl, fun j' h1 h2 => by omega⟩
      · refine ⟨j, by omega, rfl, fun j' h1 h2 => ?_⟩
        by_cases e : j' = n
        · subst e; exact fun h => hne h.symm
        · exact hl j' h1 (by omega)
    · rintro ⟨j, hj, rfl, hl⟩
      by_cases e : j = n
      · subst e; exact Or.inl rfl
      · exact Or.inr ⟨⟨j, by omega, rfl, fun j' h1 h2 => hl j' h1 (by omega)⟩, fun h => hl n (by omega) (by omega) h.symm⟩

theorem mem_lpt (z : Nat → Int) (v : Nat → Nat) : ∀ (l : List Nat), l.Pairwise (Lex z) → ∀ x, x ∈ lpt z v l ↔ ∃ j ∈ l, x = (z j, v j) ∧ ∀ j' ∈ l, j < j' → z j' ≠ z j
  | [], _, x => by simp [lpt]
  | [j], _, x => by simp [lpt]
  | j :: j' :: r, hs, x => by
    obtain ⟨h1, h2⟩ := List.pairwise_cons.1 hs
    have ih := mem_lpt z v (j' :: r) h2 x
    have hjj := h1 j' (by simp)
    have h3 := (List.pairwise_cons.1 h2).1
    rw [lpt_two]
    by_cases he : z j' = z j
    · rw [if_pos he, ih]
      have hlt : j < j' := by unfold Lex at hjj; omega
      constructor
      · rintro ⟨i, hi, rfl, hl⟩
        refine ⟨i, by simp only [List.mem_cons] at hi ⊢; exact Or.inr hi, rfl, fun k hk hik => ?_⟩
        rcases List.mem_cons.1 hk with rfl | hk'
        · have := h1 i hi
          unfold Lex at this
          omega
        · exact hl k hk' hik
      · rintro ⟨i, hi, rfl, hl⟩
        rcases List.mem_cons.1 hi with rfl | hi'
        · exact absurd he (hl j' (by simp) hlt)
        · exact ⟨i, hi', rfl, fun k hk hik => hl k (by simp only [List.mem_cons] at hk ⊢; exact Or.inr hk) hik⟩
    · rw [if_neg he, List.mem_cons, ih]
      have hlt : z j < z j' := by unfold Lex at hjj; omega
      have hall : ∀ k ∈ (j' :: r), z j < z k := fun k hk => by
        rcases List.mem_cons.1 hk with rfl | hk'
        · exact hlt
        · have := h3 k hk'; unfold Lex at this; omega
      constructor
      · rintro (rfl | ⟨i, hi, rfl, hl⟩)
        · refine ⟨j, by simp, rfl, fun k hk hik => ?_⟩
          rcases List.mem_cons.1 hk with rfl | hk'
          · omega
          · have := hall k hk'; omega
        · refine ⟨i, by simp only [List.mem_cons] at hi ⊢; exact Or.inr hi, rfl, fun k hk hik => ?_⟩
          rcases List.mem_cons.1 hk with rfl | hk'
          · have := hall i hi; omega
          · exact hl k hk' hik
      · rintro ⟨i, hi, rfl, hl⟩
        rcases List.mem_cons.1 hi with rfl | hi'
        · exact Or.inl rfl
        · exact Or.inr ⟨i, hi', rfl, fun k hk hik => hl k (by simp only [List.mem_cons] at hk ⊢; exact Or.inr hk) hik⟩

theorem lpt_asc (z : Nat → Int) (v : Nat → Nat) : ∀ (l : List Nat), l.Pairwise (Lex z) → (lpt z v l).Pairwise (fun x y => x.1 < y.1)
  | [], _ => List.Pairwise.nil
  | [j], _ => by simp [lpt]
  | j :: j' :: r, hs => by
    obtain ⟨h1, h2⟩ := List.pairwise_cons.1 hs
    have ih := lpt_asc z v (j' :: r) h2
    have hjj := h1 j' (by simp)
    have h3 := (List.pairwise_cons.1 h2).1
    rw [lpt_two]
    by_cases he : z j' = z j
    · rw [if_pos he]; exact ih
    · rw [if_neg he]
      have hlt : z j < z j' := by unfold Lex at hjj; omega
      refine List.pairwise_cons.2 ⟨fun x hx => ?_, ih⟩
      obtain ⟨i, hi, rfl, -⟩ := (mem_lpt z v _ h2 x).1 hx
      show z j < z i
      rcases List.mem_cons.1 hi with rfl | hi'
      · exact hlt
      · have := h3 i hi'; unfold Lex at this; omega

/-- The model's answer is what the tree holds. -/
theorem lpt_ups (z : Nat → Int) (v : Nat → Nat) (n : Nat) (l : List Nat) (hp : l.Perm (List.range n)) (hs : l.Pairwise (Lex z)) : lpt z v l = ups z v n := by
  refine asc_ext _ _ (lpt_asc z v l hs) ((asc_iff _).1 (ups_asc z v n)) fun x => ?_
  rw [mem_lpt z v l hs, mem_ups]
  have hm : ∀ j, j ∈ l ↔ j < n := fun j => by rw [hp.mem_iff, List.mem_range]
  constructor
  · rintro ⟨j, hj, rfl, hl⟩
    exact ⟨j, (hm j).1 hj, rfl, fun j' h1 h2 => hl j' ((hm j').2 h2) h1⟩
  · rintro ⟨j, hj, rfl, hl⟩
    exact ⟨j, (hm j).2 hj, rfl, fun j' h1 h2 => hl j' h2 ((hm j').1 h1)⟩

end Go.Proofs.Qxb6616513a
