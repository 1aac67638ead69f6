import Derived.Test.Qxb6616513aT28
namespace Go.Proofs.Qxb6616513a

/-- An inner root has two kids at least. -/
def two : (h : Nat) → T h → Prop
  | 0, _ => True
  | _ + 1, ks => 2 ≤ List.length ks

theorem nodeSet_len {h : Nat} {ks : List (Int × T h)} {i : Nat} {k : Int × T h} {p : Int × Nat} {r : T h × Option (T h)} {l : List (Int × T h)} (hn : nodeSet h ks i k p r = (l, none)) : ks.length ≤ l.length := by
  unfold nodeSet at hn
  split at hn
  · simp only [Prod.mk.injEq, and_true] at hn
    rw [← hn, List.length_set]
    exact Nat.le_refl _
  · split at hn
    · simp only [Prod.mk.injEq, and_true] at hn
      rw [← hn, ins_length, List.length_set]
      omega
    · cases hn

theorem setT_len {h : Nat} {ks l : List (Int × T h)} {p : Int × Nat} (hs : setT (h + 1) ks p = (l, none)) : ks.length ≤ l.length := by
  rw [setT_node] at hs
  split at hs
  · have e : ks = l := congrArg Prod.fst hs
    rw [e]; exact Nat.le_refl _
  · exact nodeSet_len hs

theorem putLast_len {h : Nat} {ks : List (Int × T h)} {q : List (Int × Nat)} : List.length (putLast (h + 1) ks q) = ks.length := by
  rw [putLast_node]
  split
  · rfl
  · exact List.length_set

theorem setRoot_two (h : Nat) (t : T h) (p : Int × Nat) (ht : two h t) : two (setRoot ⟨h, t⟩ p).1 (setRoot ⟨h, t⟩ p).2 := by
  unfold setRoot
  dsimp only
  cases hf : fastLeaf (lastT h t minI).1 (lastT h t minI).2 p with
  | some q =>
    dsimp only
    cases h with
    | zero => trivial
    | succ h =>
      show 2 ≤ List.length (putLast (h + 1) t q)
      have := putLast_len (ks := t) (q := q)
      rw [this]
      exact ht
  | none =>
    dsimp only
    obtain ⟨r, hr⟩ : ∃ r, r = setT h t p := ⟨_, rfl⟩
    rw [← hr]
    obtain ⟨l, os⟩ := r
    cases os with
    | none =>
      cases h with
      | zero => trivial
      | succ h =>
        have := setT_len (ks := t) (l := l) (p := p) hr.symm
        exact Nat.le_trans ht this
    | some s => show 2 ≤ 2; exact Nat.le_refl _

/-- Every leaf but the last is full. -/
def AscF (h : Nat) (t : T h) : Prop := ∃ init last, leaves h t = init ++ [last] ∧ (∀ l ∈ init, l.length = 128) ∧ last.length ≤ 128
/-- Every leaf but the first is full. -/
def DescF (h : Nat) (t : T h) : Prop := ∃ first rest, leaves h t = first :: rest ∧ first.length ≤ 128 ∧ ∀ l ∈ rest, l.length = 128

theorem AscF.step {h : Nat} {t : T h} {p : Int × Nat} (ha : AscF h t) (hw : WF h t) (hs : Asc (times (flat h t))) (hx : ∀ a ∈ flat h t, a.1 < p.1) : AscF (setRoot ⟨h, t⟩ p).1 (setRoot ⟨h, t⟩ p).2 := by
  obtain ⟨init, last, hl, h1, h2⟩ := ha
  have h3 := setRoot_late h t p hw hs hx init last hl
  by_cases hc : last.length < 128
  · rw [if_pos hc] at h3
    exact ⟨init, last ++ [p], h3, h1, by simp; omega⟩
  · rw [if_neg hc] at h3
    refine ⟨init ++ [last], [p], by rw [h3]; simp, fun l hl' => ?_, by simp⟩
    rcases List.mem_append.1 hl' with h' | h'
    · exact h1 l h'
    · simp at h'; rw [h']; omega

theorem DescF.step {h : Nat} {t : T h} {p : Int × Nat} (ha : DescF h t) (hw : WF h t) (hs : Asc (times (flat h t))) (hx : ∀ a ∈ flat h t, p.1 < a.1) : DescF (setRoot ⟨h, t⟩ p).1 (setRoot ⟨h, t⟩ p).2 := by
  obtain ⟨first, rest, hl, h1, h2⟩ := ha
  have h3 := setRoot_early h t p hw hs hx first rest hl
  by_cases hc : first.length < 128
  · rw [if_pos hc] at h3
    exact ⟨p :: first, rest, h3, by simp; omega, h2⟩
  · rw [if_neg hc] at h3
    refine ⟨[p], first :: rest, h3, by simp, fun l hl' => ?_⟩
    rcases List.mem_cons.1 hl' with h' | h'
    · rw [h']; omega
    · exact h2 l h'

/-- The first k times ascend (descend) strictly. -/
def UpTo (z : Nat → Int) (k : Nat) : Prop := ∀ j, j + 1 < k → z j < z (j + 1)
def DownTo (z : Nat → Int) (k : Nat) : Prop := ∀ j, j + 1 < k → z (j + 1) < z j

theorem UpTo.lt {z : Nat → Int} {k : Nat} (h : UpTo z k) : ∀ i j, i < j → j < k → z i < z j := fun i j hij => by
  induction j with
  | zero => omega
  | succ j ih =>
    intro hj
    have := h j hj
    by_cases e : i = j
    · subst e; exact this
    · have := ih (by omega) (by omega); omega
theorem DownTo.lt {z : Nat → Int} {k : Nat} (h : DownTo z k) : ∀ i j, i < j → j < k → z j < z i := fun i j hij => by
  induction j with
  | zero => omega
  | succ j ih =>
    intro hj
    have := h j hj
    by_cases e : i = j
    · subst e; exact this
    · have := ih (by omega) (by omega); omega

/-- What holds of the tree's shape behind k points. -/
structure Shape (z : Nat → Int) (k h : Nat) (t : T h) : Prop where
  two' : two h t
  asc : UpTo z k → AscF h t
  desc : DownTo z k → DescF h t

theorem shape0 (z : Nat → Int) : Shape z 0 0 ([] : List (Int × Nat)) := ⟨trivial, fun _ => ⟨[], [], rfl, by simp, by simp⟩, fun _ => ⟨[], [], rfl, by simp, by simp⟩⟩

theorem Shape.step {z : Nat → Int} {v : Nat → Nat} {k h : Nat} {t : T h} (S : Shape z k h t) (hw : WF h t) (hfl : flat h t = ups z v k) : Shape z (k + 1) (setRoot ⟨h, t⟩ (z k, v k)).1 (setRoot ⟨h, t⟩ (z k, v k)).2 := by
  have hs : Asc (times (flat h t)) := by rw [hfl]; exact ups_asc z v k
  refine ⟨setRoot_two h t _ S.two', fun hu => ?_, fun hd => ?_⟩
  · refine AscF.step (S.asc fun j hj => hu j (by omega)) hw hs fun a ha => ?_
    rw [hfl, mem_ups] at ha
    obtain ⟨j, hj, rfl, -⟩ := ha
    exact hu.lt j k hj (by omega)
  · refine DescF.step (S.desc fun j hj => hd j (by omega)) hw hs fun a ha => ?_
    rw [hfl, mem_ups] at ha
    obtain ⟨j, hj, rfl, -⟩ := ha
    exact hd.lt j k hj (by omega)

end Go.Proofs.Qxb6616513a
