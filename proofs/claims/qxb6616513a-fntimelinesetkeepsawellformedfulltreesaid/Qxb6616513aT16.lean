import Derived.Test.Qxb6616513aT15
namespace Go.Proofs.Qxb6616513a

/-- The point put among ascending points, in place of the one at its time. -/
def up : List (Int × Nat) → Int × Nat → List (Int × Nat)
  | [], p => [p]
  | q :: ps, p => if q.1 < p.1 then q :: up ps p else if q.1 = p.1 then p :: ps else p :: q :: ps

def times (ps : List (Int × Nat)) : List Int := ps.map (·.1)

theorem up_before (A ps : List (Int × Nat)) (p : Int × Nat) (h : ∀ a ∈ A, a.1 < p.1) : up (A ++ ps) p = A ++ up ps p := by
  induction A with
  | nil => rfl
  | cons a A ih =>
    show up (a :: (A ++ ps)) p = _
    rw [up, if_pos (h a (by simp)), ih (fun z hz => h z (by simp [hz]))]
    rfl

theorem up_after (ps C : List (Int × Nat)) (p : Int × Nat) (hne : ps ≠ [] ∨ True) (h : ∀ c ∈ C, p.1 < c.1) : up (ps ++ C) p = up ps p ++ C := by
  induction ps with
  | nil =>
    cases C with
    | nil => rfl
    | cons c C =>
      have hc := h c (by simp)
      show up (c :: C) p = [p] ++ (c :: C)
      rw [up, if_neg (by omega), if_neg (by omega)]
      rfl
  | cons a ps ih =>
    show up (a :: (ps ++ C)) p = up (a :: ps) p ++ C
    rw [up, up]
    by_cases h1 : a.1 < p.1
    · rw [if_pos h1, if_pos h1, ih (Or.inr trivial)]; rfl
    · by_cases h2 : a.1 = p.1
      · rw [if_neg h1, if_neg h1, if_pos h2, if_pos h2]; rfl
      · rw [if_neg h1, if_neg h1, if_neg h2, if_neg h2]; rfl

theorem up_mid (A K C : List (Int × Nat)) (p : Int × Nat) (hA : ∀ a ∈ A, a.1 < p.1) (hC : ∀ c ∈ C, p.1 < c.1) : up (A ++ K ++ C) p = A ++ up K p ++ C := by
  rw [List.append_assoc, up_before A _ p hA, up_after K C p (Or.inr trivial) hC, List.append_assoc]

theorem up_mem {ps : List (Int × Nat)} {p z : Int × Nat} (h : z ∈ up ps p) : z = p ∨ z ∈ ps := by
  induction ps with
  | nil => left; simpa [up] using h
  | cons a ps ih =>
    rw [up] at h
    split at h
    · rcases List.mem_cons.1 h with rfl | h'
      · right; simp
      · rcases ih h' with h'' | h''
        · exact Or.inl h''
        · right; simp [h'']
    · split at h
      · rcases List.mem_cons.1 h with rfl | h'
        · left; rfl
        · right; simp [h']
      · rcases List.mem_cons.1 h with rfl | h'
        · left; rfl
        · right; exact h'

theorem up_asc {ps : List (Int × Nat)} (p : Int × Nat) (h : Asc (times ps)) : Asc (times (up ps p)) := by
  induction ps with
  | nil => simp [up, times, Asc]
  | cons a ps ih =>
    have h' : (∀ b ∈ times ps, a.1 < b) ∧ Asc (times ps) := by simpa [times, Asc, List.pairwise_cons] using h
    rw [up]
    split
    · rename_i h1
      show ((a.1 :: times (up ps p)).Pairwise (· < ·))
      refine List.pairwise_cons.2 ⟨fun b hb => ?_, ih h'.2⟩
      obtain ⟨z, hz, rfl⟩ := List.mem_map.1 hb
      rcases up_mem hz with rfl | hz'
      · exact h1
      · exact h'.1 z.1 (List.mem_map.2 ⟨z, hz', rfl⟩)
    · split
      · rename_i h1 h2
        show ((p.1 :: times ps).Pairwise (· < ·))
        refine List.pairwise_cons.2 ⟨fun b hb => ?_, h'.2⟩
        have := h'.1 b hb; omega
      · rename_i h1 h2
        show ((p.1 :: a.1 :: times ps).Pairwise (· < ·))
        refine List.pairwise_cons.2 ⟨fun b hb => ?_, h⟩
        rcases List.mem_cons.1 hb with rfl | hb'
        · omega
        · have := h'.1 b hb'; omega

theorem up_ne (ps : List (Int × Nat)) (p : Int × Nat) : up ps p ≠ [] := by
  cases ps with
  | nil => simp [up]
  | cons a ps =>
    rw [up]
    split
    · simp
    · split <;> simp

theorem up_length (ps : List (Int × Nat)) (p : Int × Nat) : (up ps p).length ≤ ps.length + 1 := by
  induction ps with
  | nil => simp [up]
  | cons a ps ih =>
    rw [up]
    split
    · simp; omega
    · split <;> simp

theorem up_head (a : Int × Nat) (ps : List (Int × Nat)) (p : Int × Nat) : (up (a :: ps) p).head?.map (·.1) = some (min a.1 p.1) := by
  rw [up]
  split
  · rename_i h; simp [Int.min_def]; omega
  · split
    · rename_i h1 h2; simp [Int.min_def]; omega
    · rename_i h1 h2; simp [Int.min_def]; omega

/-- 'up' by the place. -/
theorem up_place (ps : List (Int × Nat)) (p : Int × Nat) : up ps p = if ps[place (ps.map (·.1)) p.1]?.map (·.1) = some p.1 then ps.set (place (ps.map (·.1)) p.1) p else ins (place (ps.map (·.1)) p.1) p ps := by
  induction ps with
  | nil => simp [up, place, ins]
  | cons a ps ih =>
    rw [up]
    by_cases h : a.1 < p.1
    · have hp : place ((a :: ps).map (·.1)) p.1 = place (ps.map (·.1)) p.1 + 1 := by
        unfold place
        rw [List.map_cons, List.takeWhile_cons_of_pos (by simpa using h)]
        rfl
      rw [if_pos h, hp, ih, List.getElem?_cons_succ]
      split
      · rw [List.set_cons_succ]
      · simp [ins]
    · have hp : place ((a :: ps).map (·.1)) p.1 = 0 := by
        unfold place
        rw [List.map_cons, List.takeWhile_cons_of_neg (by simpa using h)]
        rfl
      rw [if_neg h, hp]
      by_cases h2 : a.1 = p.1
      · rw [if_pos h2, if_pos (by simp [h2])]; rfl
      · rw [if_neg h2, if_neg (by simpa using h2)]; simp [ins]

/-- The shape of a tree. -/
def WF : (h : Nat) → T h → Prop
  | 0, ps => List.length ps ≤ 128
  | h + 1, ks => ks ≠ [] ∧ List.length ks ≤ 64 ∧ ∀ k ∈ (show List (Int × T h) from ks), WF h k.2 ∧ (flat h k.2).head?.map (·.1) = some k.1

theorem flat_ne_NE : ∀ (h : Nat) (t : T h), flat h t ≠ [] → NE h t
  | 0, _, hn => hn
  | h + 1, ks, hn => fun e => hn (by
      change ks = [] at e
      show (show List (Int × T h) from ks).flatMap _ = []
      rw [e]; rfl)

theorem wf_fst (h : Nat) (t : T h) (hw : WF h t) (hn : flat h t ≠ []) : (flat h t).head?.map (·.1) = some (fst h t) := by
  cases h with
  | zero =>
    change List (Int × Nat) at t
    cases t with
    | nil => exact absurd rfl hn
    | cons p ps => rfl
  | succ h =>
    change List (Int × T h) at t
    cases t with
    | nil => exact absurd rfl hn
    | cons k ks =>
      have hk := hw.2.2 k (by simp)
      show ((k :: ks).flatMap fun k => flat h k.2).head?.map (·.1) = some k.1
      rw [List.flatMap_cons, List.head?_append]
      cases hf : (flat h k.2).head? with
      | none => rw [hf] at hk; simp at hk
      | some q => rw [hf] at hk; simpa using hk.2

end Go.Proofs.Qxb6616513a
