import Derived.Test.Qxb6616513aT16
namespace Go.Proofs.Qxb6616513a

theorem asc_iff (ps : List (Int × Nat)) : Asc (times ps) ↔ ps.Pairwise (fun a b => a.1 < b.1) := by
  unfold Asc times
  exact List.pairwise_map

theorem flat_node (h : Nat) (ks : List (Int × T h)) : flat (h + 1) ks = ks.flatMap fun k => flat h k.2 := rfl

/-- What the kids of an ascending tree are to one another. -/
theorem kids_asc {h : Nat} {ks : List (Int × T h)} (hs : Asc (times (flat (h + 1) ks))) : (∀ k ∈ ks, Asc (times (flat h k.2))) ∧ ks.Pairwise (fun k k' => ∀ a ∈ flat h k.2, ∀ c ∈ flat h k'.2, a.1 < c.1) := by
  rw [asc_iff, flat_node, List.pairwise_flatMap] at hs
  exact ⟨fun k hk => (asc_iff _).2 (hs.1 k hk), hs.2⟩

theorem asc_kids {h : Nat} {ks : List (Int × T h)} (h1 : ∀ k ∈ ks, Asc (times (flat h k.2))) (h2 : ks.Pairwise (fun k k' => ∀ a ∈ flat h k.2, ∀ c ∈ flat h k'.2, a.1 < c.1)) : Asc (times (flat (h + 1) ks)) := by
  rw [asc_iff, flat_node, List.pairwise_flatMap]
  exact ⟨fun k hk => (asc_iff _).1 (h1 k hk), h2⟩

/-- The first is the earliest. -/
theorem head_le {ps : List (Int × Nat)} {f : Int} (hs : Asc (times ps)) (hf : ps.head?.map (·.1) = some f) : (∃ q ∈ ps, q.1 = f) ∧ ∀ a ∈ ps, f ≤ a.1 := by
  cases ps with
  | nil => simp at hf
  | cons q ps =>
    have hq : q.1 = f := by simpa using hf
    refine ⟨⟨q, by simp, hq⟩, fun a ha => ?_⟩
    rw [asc_iff] at hs
    rcases List.mem_cons.1 ha with rfl | ha'
    · omega
    · have := (List.pairwise_cons.1 hs).1 a ha'; omega

theorem firsts_asc {h : Nat} {ks : List (Int × T h)} (hw : WF (h + 1) ks) (hs : Asc (times (flat (h + 1) ks))) : Asc (ks.map (·.1)) := by
  obtain ⟨h1, h2⟩ := kids_asc hs
  unfold Asc
  rw [List.pairwise_map]
  refine h2.imp_of_mem fun {a b} ha hb hab => ?_
  obtain ⟨⟨qa, hqa, ea⟩, _⟩ := head_le (h1 a ha) (hw.2.2 a ha).2
  obtain ⟨⟨qb, hqb, eb⟩, _⟩ := head_le (h1 b hb) (hw.2.2 b hb).2
  have := hab qa hqa qb hqb
  omega

theorem wf_ok : ∀ (h : Nat) (t : T h), WF h t → Asc (times (flat h t)) → Ok h t
  | 0, _, hw, hs => ⟨hs, hw⟩
  | h + 1, ks, hw, hs => ⟨firsts_asc (ks := ks) hw hs, hw.1, hw.2.1, fun k hk => ⟨wf_ok h k.2 (hw.2.2 k hk).1 ((kids_asc (ks := ks) hs).1 k hk), flat_ne_NE h k.2 (fun e => by
      have := (hw.2.2 k hk).2
      rw [e] at this
      simp at this)⟩⟩

theorem full_lt (h : Nat) (t : T h) (x : Int) (hs : Asc (times (flat h t))) (hf : full h t x = true) : ∀ a ∈ flat h t, a.1 < x := by
  cases h with
  | zero =>
    change List (Int × Nat) at t
    intro a ha
    change a ∈ t at ha
    have hf' : (decide (t.length = 128) && (match t[127]? with | some p => decide (p.1 < x) | none => false)) = true := hf
    simp only [Bool.and_eq_true, decide_eq_true_eq] at hf'
    obtain ⟨hl, hp⟩ := hf'
    have h127 : t[127]? = some (t[127]'(by omega)) := List.getElem?_eq_getElem (by omega)
    rw [h127] at hp
    have hp' : (t[127]'(by omega)).1 < x := by simpa using hp
    obtain ⟨j, hj, rfl⟩ := List.getElem_of_mem ha
    have hs' : t.Pairwise (fun a b => a.1 < b.1) := (asc_iff t).1 hs
    by_cases e : j = 127
    · subst e; exact hp'
    · have := List.pairwise_iff_getElem.1 hs' j 127 hj (by omega) (by omega); omega
  | succ h => cases hf

/-- The kid that takes the point: what is ahead of it is earlier, what is behind it is later. -/
theorem kid_sep {h : Nat} {ks : List (Int × T h)} (hw : WF (h + 1) ks) (hs : Asc (times (flat (h + 1) ks))) (x : Int) :
    ∃ k, ks[kidAt h ks x]? = some k ∧ (∀ q ∈ ks.take (kidAt h ks x), ∀ a ∈ flat h q.2, a.1 < x) ∧ (∀ q ∈ ks.drop (kidAt h ks x + 1), ∀ c ∈ flat h q.2, x < c.1) := by
  obtain ⟨h1, h2⟩ := kids_asc hs
  have hz := firsts_asc hw hs
  have hne : ks ≠ [] := hw.1
  have hpos : 0 < ks.length := List.length_pos_iff.2 hne
  obtain ⟨t1, t2⟩ := takeWhile_facts (fun z => decide (z ≤ x)) (ks.map (·.1))
  have hle : ((ks.map (·.1)).takeWhile fun z => decide (z ≤ x)).length ≤ ks.length := by
    have := (List.takeWhile_prefix (l := ks.map (·.1)) (fun z => decide (z ≤ x))).length_le
    simpa using this
  obtain ⟨L, hL⟩ : ∃ L, L = ((ks.map (·.1)).takeWhile fun z => decide (z ≤ x)).length := ⟨_, rfl⟩
  have hci : childIdx (ks.map (·.1)) x = L - 1 := by unfold childIdx; rw [← hL]
  rw [← hL] at t1 t2 hle
  -- the kids below L start at x or before it, the others behind it
  have low : ∀ j (hj : j < L), (ks[j]'(by omega)).1 ≤ x := fun j hj => by
    obtain ⟨z, hz1, hz2⟩ := t1 j hj
    rw [List.getElem?_map, List.getElem?_eq_getElem (by omega)] at hz1
    simp only [Option.map_some, Option.some.injEq] at hz1
    rw [hz1]; simpa using hz2
  have high : ∀ j (hj : j < ks.length), L ≤ j → x < (ks[j]).1 := fun j hj hLj => by
    have hLl : L < ks.length := by omega
    have hf := t2 (ks[L]).1 (by rw [List.getElem?_map, List.getElem?_eq_getElem hLl]; rfl)
    have hxL : x < (ks[L]).1 := by simpa using hf
    by_cases e : j = L
    · subst e; exact hxL
    · have := asc_get hz L j (by omega) (by simpa using hj)
      rw [List.getElem?_map, List.getElem?_map, List.getElem?_eq_getElem hLl, List.getElem?_eq_getElem hj] at this
      simp only [Option.map_some, Option.getD_some] at this
      omega
  have kle : ∀ j (hj : j < ks.length), ∀ a ∈ flat h (ks[j]).2, (ks[j]).1 ≤ a.1 := fun j hj a ha => (head_le (h1 _ (List.getElem_mem hj)) (hw.2.2 _ (List.getElem_mem hj)).2).2 a ha
  have khd : ∀ j (hj : j < ks.length), ∃ q ∈ flat h (ks[j]).2, q.1 = (ks[j]).1 := fun j hj => (head_le (h1 _ (List.getElem_mem hj)) (hw.2.2 _ (List.getElem_mem hj)).2).1
  have kkk : ∀ j j' (hj : j < j') (hj' : j' < ks.length), ∀ a ∈ flat h (ks[j]'(by omega)).2, ∀ c ∈ flat h (ks[j']).2, a.1 < c.1 := fun j j' hj hj' => List.pairwise_iff_getElem.1 h2 j j' (by omega) hj' hj
  -- ahead of L - 1
  have ahead : ∀ j (hj : j < L - 1), ∀ a ∈ flat h (ks[j]'(by omega)).2, a.1 < x := fun j hj a ha => by
    obtain ⟨q, hq, e⟩ := khd (L - 1) (by omega)
    have := kkk j (L - 1) hj (by omega) a ha q hq
    have := low (L - 1) (by omega)
    omega
  have behind : ∀ j (hj : j < ks.length), L ≤ j → ∀ c ∈ flat h (ks[j]).2, x < c.1 := fun j hj hLj c hc => by
    have := high j hj hLj
    have := kle j hj c hc
    omega
  have takeM : ∀ i, ∀ q ∈ ks.take i, ∃ j, ∃ hj : j < ks.length, j < i ∧ q = ks[j] := fun i q hq => by
    obtain ⟨j, hj, rfl⟩ := List.getElem_of_mem hq
    rw [List.length_take] at hj
    exact ⟨j, by omega, by omega, by rw [List.getElem_take]⟩
  have dropM : ∀ i, ∀ q ∈ ks.drop i, ∃ j, ∃ hj : j < ks.length, i ≤ j ∧ q = ks[j] := fun i q hq => by
    obtain ⟨j, hj, rfl⟩ := List.getElem_of_mem hq
    rw [List.length_drop] at hj
    exact ⟨i + j, by omega, by omega, by rw [List.getElem_drop]⟩
  -- the two choices
  have hk0 : ks[L - 1]? = some (ks[L - 1]'(by omega)) := List.getElem?_eq_getElem (by omega)
  have plain : kidAt h ks x = L - 1 → ∃ k, ks[kidAt h ks x]? = some k ∧ (∀ q ∈ ks.take (kidAt h ks x), ∀ a ∈ flat h q.2, a.1 < x) ∧ (∀ q ∈ ks.drop (kidAt h ks x + 1), ∀ c ∈ flat h q.2, x < c.1) := fun e => by
    rw [e]
    refine ⟨_, hk0, fun q hq a ha => ?_, fun q hq c hc => ?_⟩
    · obtain ⟨j, hj, hji, rfl⟩ := takeM _ q hq
      exact ahead j hji a ha
    · obtain ⟨j, hj, hji, rfl⟩ := dropM _ q hq
      exact behind j hj (by omega) c hc
  have hkd : kidAt h ks x = (match ks[L - 1]?, ks[L - 1 + 1]? with
      | some k, some k' => if full h k.2 x = true ∧ nPts h k'.2 < 128 then L - 1 + 1 else L - 1
      | _, _ => L - 1) := by
    unfold kidAt
    rw [hci]
    rfl
  rw [hk0] at hkd
  cases hk1 : ks[L - 1 + 1]? with
  | none => rw [hk1] at hkd; exact plain hkd
  | some k' =>
    rw [hk1] at hkd
    dsimp only at hkd
    by_cases hfull : full h (ks[L - 1]'(by omega)).2 x = true ∧ nPts h k'.2 < 128
    · rw [if_pos hfull] at hkd
      rw [hkd]
      have hl1 := (List.getElem?_eq_some_iff.1 hk1).1
      refine ⟨k', hk1, fun q hq a ha => ?_, fun q hq c hc => ?_⟩
      · obtain ⟨j, hj, hji, rfl⟩ := takeM _ q hq
        by_cases e : j = L - 1
        · subst e
          exact full_lt h _ x (h1 _ (List.getElem_mem hj)) hfull.1 a ha
        · exact ahead j (by omega) a ha
      · obtain ⟨j, hj, hji, rfl⟩ := dropM _ q hq
        exact behind j hj (by omega) c hc
    · rw [if_neg hfull] at hkd
      exact plain hkd

theorem leafSet_spec (ps : List (Int × Nat)) (p : Int × Nat) (hl : ps.length ≤ 128) : (leafSet ps p).1 ++ (leafSet ps p).2.getD [] = up ps p ∧ (leafSet ps p).1.length ≤ 128 ∧ ((leafSet ps p).2.getD []).length ≤ 128 ∧ (leafSet ps p).1 ≠ [] := by
  rw [up_place]
  unfold leafSet
  dsimp only
  obtain ⟨i, hi⟩ : ∃ i, i = place (ps.map (·.1)) p.1 := ⟨_, rfl⟩
  have hil : i ≤ ps.length := by
    have := place_le (ps.map (·.1)) p.1
    rw [hi]; simpa using this
  rw [← hi]
  by_cases hf : ps[i]?.map (·.1) = some p.1
  · rw [if_pos hf, if_pos hf]
    refine ⟨by simp, by simpa using hl, by simp, fun e => ?_⟩
    have := congrArg List.length e
    simp at this
    subst this
    simp at hf
  · rw [if_neg hf, if_neg hf]
    split
    · exact ⟨by simp, by rw [ins_length]; omega, by simp, fun e => by have := congrArg List.length e; rw [ins_length] at this; simp at this⟩
    · rename_i h128
      split
      · rename_i e
        subst e
        refine ⟨by simp [ins], hl, by simp, fun e => by change ps = [] at e; rw [e] at h128; simp at h128⟩
      · split
        · rename_i e
          subst e
          exact ⟨by simp [ins], by simp, by simpa using hl, by simp⟩
        · rename_i h0 h1
          split
          · rename_i hh
            refine ⟨?_, by rw [ins_length, List.length_take]; omega, by simp; omega, fun e => by have := congrArg List.length e; rw [ins_length] at this; simp at this⟩
            simp only [ins, Option.getD_some, List.append_assoc]
            rw [List.take_take, show min i (ps.length / 2) = i by omega]
            congr 2
            have : (ps.take (ps.length / 2)).drop i ++ ps.drop (ps.length / 2) = ps.drop i := by
              conv => rhs; rw [← List.take_append_drop (ps.length / 2) ps]
              rw [List.drop_append_of_le_length (by simp; omega)]
            rw [this]
          · rename_i hh
            refine ⟨?_, by simp; omega, by simp only [Option.getD_some]; rw [ins_length, List.length_drop]; omega, fun e => by have := congrArg List.length e; simp only [List.length_take, List.length_nil] at this; omega⟩
            simp only [ins, Option.getD_some]
            rw [List.drop_drop, show ps.length / 2 + (i - ps.length / 2) = i by omega, ← List.append_assoc, ← List.append_assoc]
            congr 2
            conv => rhs; rw [← List.take_append_drop (ps.length / 2) ps]
            rw [List.take_append, List.take_take, List.length_take]
            congr 2 <;> omega

end Go.Proofs.Qxb6616513a
