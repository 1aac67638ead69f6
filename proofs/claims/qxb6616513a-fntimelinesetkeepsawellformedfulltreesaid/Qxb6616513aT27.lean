import Derived.Test.Qxb6616513aT24
namespace Go.Proofs.Qxb6616513a

/-- The leaves, left to right. -/
def leaves : (h : Nat) → T h → List (List (Int × Nat))
  | 0, ps => [ps]
  | h + 1, ks => (show List (Int × T h) from ks).flatMap fun k => leaves h k.2

def lo (h : Nat) : Option (T h) → List (List (Int × Nat))
  | none => []
  | some s => leaves h s

theorem leaves_node (h : Nat) (ks : List (Int × T h)) : leaves (h + 1) ks = ks.flatMap fun k => leaves h k.2 := rfl
theorem leaves_append (h : Nat) (a b : List (Int × T h)) : leaves (h + 1) (a ++ b : List (Int × T h)) = leaves (h + 1) a ++ leaves (h + 1) b := by
  rw [leaves_node, leaves_node, leaves_node, List.flatMap_append]
theorem leaves_cons (h : Nat) (k : Int × T h) (b : List (Int × T h)) : leaves (h + 1) (k :: b : List (Int × T h)) = leaves h k.2 ++ leaves (h + 1) b := by
  rw [leaves_node, leaves_node, List.flatMap_cons]
theorem leaves_nil (h : Nat) : leaves (h + 1) ([] : List (Int × T h)) = [] := rfl

/-- The leaves of an inner node that was set. -/
theorem nodeSet_leaves {h : Nat} {ks : List (Int × T h)} {i : Nat} {k : Int × T h} (hk : ks[i]? = some k) (p : Int × Nat) (r : T h × Option (T h)) :
    leaves (h + 1) (nodeSet h ks i k p r).1 ++ lo (h + 1) (nodeSet h ks i k p r).2 = leaves (h + 1) (ks.take i) ++ (leaves h r.1 ++ lo h r.2) ++ leaves (h + 1) (ks.drop (i + 1)) := by
  obtain ⟨e1, e2⟩ := list_at hk
  have hil := (List.getElem?_eq_some_iff.1 hk).1
  unfold nodeSet
  cases hr2 : r.2 with
  | none =>
    dsimp only
    show leaves (h + 1) (ks.set i (min k.1 p.1, r.1)) ++ [] = _
    rw [e2, leaves_append, leaves_cons]
    simp [lo]
  | some s =>
    dsimp only
    have hl2 : (ins (i + 1) (fst h s, s) (ks.set i (min k.1 p.1, r.1))) = ks.take i ++ (min k.1 p.1, r.1) :: (fst h s, s) :: ks.drop (i + 1) := by
      have ht : (ks.take i).length = i := by rw [List.length_take]; omega
      have := ins_at (ks.take i) (min k.1 p.1, r.1) (fst h s, s) (ks.drop (i + 1))
      rw [ht] at this
      rw [e2, this]
    obtain ⟨l2, hl2'⟩ : ∃ l2, l2 = ins (i + 1) (fst h s, s) (ks.set i (min k.1 p.1, r.1)) := ⟨_, rfl⟩
    rw [← hl2'] at hl2 ⊢
    have hfl : leaves (h + 1) l2 = leaves (h + 1) (ks.take i) ++ (leaves h r.1 ++ lo h (some s)) ++ leaves (h + 1) (ks.drop (i + 1)) := by
      rw [hl2, leaves_append, leaves_cons, leaves_cons]
      simp [lo]
    rw [← hfl]
    split
    · show leaves (h + 1) l2 ++ [] = _
      rw [List.append_nil]
    · show leaves (h + 1) (l2.take (l2.length / 2)) ++ leaves (h + 1) (l2.drop (l2.length / 2)) = _
      rw [← leaves_append, List.take_append_drop]

theorem place_all {ps : List (Int × Nat)} {x : Int} (h : ∀ a ∈ ps, a.1 < x) : place (ps.map (·.1)) x = ps.length := by
  induction ps with
  | nil => rfl
  | cons a ps ih =>
    unfold place at ih ⊢
    rw [List.map_cons, List.takeWhile_cons_of_pos (by simpa using h a (by simp))]
    simp only [List.length_cons]
    rw [ih fun b hb => h b (by simp [hb])]

theorem place_none {ps : List (Int × Nat)} {x : Int} (h : ∀ a ∈ ps, x < a.1) : place (ps.map (·.1)) x = 0 := by
  cases ps with
  | nil => rfl
  | cons a ps =>
    unfold place
    have := h a (by simp)
    rw [List.map_cons, List.takeWhile_cons_of_neg (by simp; omega)]
    rfl

/-- A point behind all of a leaf's. -/
theorem leaf_late {ps : List (Int × Nat)} {p : Int × Nat} (h : ∀ a ∈ ps, a.1 < p.1) : leafSet ps p = if ps.length < 128 then (ps ++ [p], none) else (ps, some [p]) := by
  unfold leafSet
  dsimp only
  rw [place_all h, List.getElem?_eq_none (Nat.le_refl _)]
  by_cases hl : ps.length < 128
  · rw [if_neg (by simp), if_pos hl, if_pos hl]
    simp [ins]
  · rw [if_neg (by simp), if_neg hl, if_pos rfl, if_neg hl]

/-- A point ahead of all of a leaf's. -/
theorem leaf_early {ps : List (Int × Nat)} {p : Int × Nat} (h : ∀ a ∈ ps, p.1 < a.1) : leafSet ps p = if ps.length < 128 then (p :: ps, none) else ([p], some ps) := by
  unfold leafSet
  dsimp only
  rw [place_none h]
  have hf : ¬ (ps[0]?.map (·.1)) = some p.1 := by
    cases ps with
    | nil => simp
    | cons a ps => have := h a (by simp); simp; omega
  rw [if_neg hf]
  by_cases hl : ps.length < 128
  · rw [if_pos hl, if_pos hl]
    simp [ins]
  · rw [if_neg hl, if_neg hl, if_neg (by omega), if_pos rfl]

theorem kidAt_late {h : Nat} {ks : List (Int × T h)} (hw : WF (h + 1) ks) (hs : Asc (times (flat (h + 1) ks))) {x : Int} (hx : ∀ a ∈ flat (h + 1) ks, a.1 < x) : kidAt h ks x = ks.length - 1 := by
  have hz := firsts_asc hw hs
  have hpos : 0 < ks.length := List.length_pos_iff.2 hw.1
  have hk : ks[ks.length - 1]? = some (ks[ks.length - 1]'(by omega)) := List.getElem?_eq_getElem (by omega)
  have hlast : ((ks.map (·.1))[(ks.map (·.1)).length - 1]?).getD 0 ≤ x := by
    rw [List.length_map, List.getElem?_map, hk]
    have hm : ks[ks.length - 1]'(by omega) ∈ ks := List.getElem_mem _
    obtain ⟨⟨q, hq, e⟩, _⟩ := head_le ((kids_asc hs).1 _ hm) (hw.2.2 _ hm).2
    have := hx q (by rw [flat_node]; exact List.mem_flatMap.2 ⟨_, hm, hq⟩)
    simp only [Option.map_some, Option.getD_some]
    omega
  have hci := childIdx_last hz x (by simpa using hpos) hlast
  rw [List.length_map] at hci
  unfold kidAt
  rw [hci]
  dsimp only
  rw [hk, List.getElem?_eq_none (show ks.length ≤ ks.length - 1 + 1 by omega)]

theorem kidAt_early {h : Nat} {ks : List (Int × T h)} (hw : WF (h + 1) ks) (hs : Asc (times (flat (h + 1) ks))) {x : Int} (hx : ∀ a ∈ flat (h + 1) ks, x < a.1) : kidAt h ks x = 0 := by
  obtain ⟨k, r, rfl⟩ := List.exists_cons_of_ne_nil hw.1
  have hm : k ∈ k :: r := by simp
  obtain ⟨⟨q, hq, e⟩, _⟩ := head_le ((kids_asc hs).1 _ hm) (hw.2.2 _ hm).2
  have hxq := hx q (by rw [flat_node]; exact List.mem_flatMap.2 ⟨_, hm, hq⟩)
  have hci : childIdx ((k :: r).map (·.1)) x = 0 := by
    unfold childIdx
    rw [List.map_cons, List.takeWhile_cons_of_neg (by simp; omega)]
    rfl
  have hnf : ¬ full h k.2 x = true := fun hf => by
    have := full_lt h k.2 x ((kids_asc hs).1 _ hm) hf q hq
    omega
  unfold kidAt
  rw [hci]
  dsimp only
  cases r with
  | nil => rfl
  | cons k' r =>
    show (if full h k.2 x = true ∧ nPts h k'.2 < 128 then 0 + 1 else 0) = 0
    rw [if_neg (fun h => hnf h.1)]

theorem setT_late : ∀ (h : Nat) (t : T h) (p : Int × Nat), WF h t → Asc (times (flat h t)) → (∀ a ∈ flat h t, a.1 < p.1) → ∀ init last, leaves h t = init ++ [last] → ¬ last.length < 128 → leaves h (setT h t p).1 ++ lo h (setT h t p).2 = leaves h t ++ [[p]]
  | 0, ps, p, _, _, hx, init, last, hl, hfull => by
    change List (Int × Nat) at ps
    have he : leafSet ps p = if List.length ps < 128 then (ps ++ [p], none) else (ps, some [p]) := leaf_late hx
    have hlast : last = ps := by
      have : ([ps] : List (List (Int × Nat))) = init ++ [last] := hl
      cases init with
      | nil => exact (List.cons.inj this).1.symm
      | cons a init =>
        have h2 := (List.cons.inj this).2
        simp at h2
    rw [hlast] at hfull
    rw [if_neg hfull] at he
    show leaves 0 (leafSet ps p).1 ++ lo 0 (leafSet ps p).2 = _
    rw [he]
    rfl
  | h + 1, ks, p, hw, hs, hx, init, last, hl, hfull => by
    change List (Int × T h) at ks
    have hpos : 0 < ks.length := List.length_pos_iff.2 hw.1
    have hka := kidAt_late hw hs hx
    obtain ⟨n, hn⟩ : ∃ n, ks.length = n + 1 := ⟨ks.length - 1, by omega⟩
    obtain ⟨k, hk⟩ : ∃ k, ks[n]? = some k := ⟨_, List.getElem?_eq_getElem (by omega)⟩
    rw [show ks.length - 1 = n by omega] at hka
    have hkm := List.mem_of_getElem? hk
    obtain ⟨e1, _⟩ := list_at hk
    rw [List.drop_of_length_le (by omega)] at e1
    have hset : setT (h + 1) ks p = nodeSet h ks n k p (setT h k.2 p) := by rw [setT_node, hka, hk]
    have hlk : leaves (h + 1) ks = leaves (h + 1) (ks.take n) ++ leaves h k.2 := by
      conv => lhs; rw [e1]
      rw [leaves_append, leaves_cons, leaves_nil, List.append_nil]
    have hne : leaves h k.2 ≠ [] := leaves_ne h k.2 (hw.2.2 k hkm).1
    obtain ⟨init', last', hl'⟩ : ∃ init' last', leaves h k.2 = init' ++ [last'] := ⟨_, _, (List.dropLast_concat_getLast hne).symm⟩
    have hlast : last' = last := by
      rw [hlk, hl', ← List.append_assoc] at hl
      have := (List.append_inj' hl rfl).2
      simpa using this
    rw [← hlast] at hfull
    have ih := setT_late h k.2 p (hw.2.2 k hkm).1 ((kids_asc hs).1 k hkm) (fun a ha => hx a (by rw [flat_node]; exact List.mem_flatMap.2 ⟨k, hkm, ha⟩)) init' last' hl' hfull
    rw [hset, nodeSet_leaves hk, ih, List.drop_of_length_le (by omega), leaves_nil, List.append_nil, hlk, List.append_assoc]
where
  leaves_ne : ∀ (h : Nat) (t : T h), WF h t → leaves h t ≠ []
    | 0, _, _ => by simp [leaves]
    | h + 1, ks, hw => fun e => by
      change List (Int × T h) at ks
      obtain ⟨k, r, rfl⟩ := List.exists_cons_of_ne_nil hw.1
      rw [leaves_cons] at e
      exact leaves_ne h k.2 (hw.2.2 k (by simp)).1 (List.append_eq_nil_iff.1 e).1

theorem setT_early : ∀ (h : Nat) (t : T h) (p : Int × Nat), WF h t → Asc (times (flat h t)) → (∀ a ∈ flat h t, p.1 < a.1) → ∀ first rest, leaves h t = first :: rest → leaves h (setT h t p).1 ++ lo h (setT h t p).2 = if first.length < 128 then (p :: first) :: rest else [p] :: first :: rest
  | 0, ps, p, _, _, hx, first, rest, hl => by
    change List (Int × Nat) at ps
    have he : leafSet ps p = if List.length ps < 128 then (p :: ps, none) else ([p], some ps) := leaf_early hx
    have hl' : ([ps] : List (List (Int × Nat))) = first :: rest := hl
    obtain ⟨h1', h2'⟩ := List.cons.inj hl'
    subst h1' h2'
    show leaves 0 (leafSet ps p).1 ++ lo 0 (leafSet ps p).2 = _
    rw [he]
    split
    · rfl
    · rfl
  | h + 1, ks, p, hw, hs, hx, first, rest, hl => by
    change List (Int × T h) at ks
    have hka := kidAt_early hw hs hx
    obtain ⟨k, r, rfl⟩ := List.exists_cons_of_ne_nil hw.1
    have hkm : k ∈ k :: r := by simp
    have hset : setT (h + 1) (k :: r) p = nodeSet h (k :: r) 0 k p (setT h k.2 p) := by rw [setT_node, hka]; rfl
    rw [leaves_cons] at hl
    have hne := setT_late.leaves_ne h k.2 (hw.2.2 k hkm).1
    obtain ⟨f', r', hf'⟩ := List.exists_cons_of_ne_nil hne
    rw [hf'] at hl
    simp only [List.cons_append, List.cons.injEq] at hl
    obtain ⟨rfl, rfl⟩ := hl
    have ih := setT_early h k.2 p (hw.2.2 k hkm).1 ((kids_asc hs).1 k hkm) (fun a ha => hx a (by rw [flat_node]; exact List.mem_flatMap.2 ⟨k, hkm, ha⟩)) f' r' hf'
    rw [hset, nodeSet_leaves (i := 0) (k := k) rfl, ih]
    simp only [List.take_zero, leaves_nil, List.nil_append, List.drop_succ_cons, List.drop_zero, Nat.zero_add]
    split <;> simp

end Go.Proofs.Qxb6616513a
