import Derived.Test.Qxb6616513aT27
namespace Go.Proofs.Qxb6616513a

theorem last_leaves : ∀ (h : Nat) (t : T h) (f : Int), WF h t → ∃ init, leaves h t = init ++ [(lastT h t f).1] ∧ ∀ q, leaves h (putLast h t q) = init ++ [q]
  | 0, _, _, _ => ⟨[], rfl, fun _ => rfl⟩
  | h + 1, ks, f, hw => by
    change List (Int × T h) at ks
    have hpos : 0 < ks.length := List.length_pos_iff.2 hw.1
    obtain ⟨n, hn⟩ : ∃ n, ks.length = n + 1 := ⟨ks.length - 1, by omega⟩
    obtain ⟨k, hk⟩ : ∃ k, ks[n]? = some k := ⟨_, List.getElem?_eq_getElem (by omega)⟩
    have hkm := List.mem_of_getElem? hk
    obtain ⟨e1, e2⟩ := list_at hk
    rw [List.drop_of_length_le (by omega)] at e1
    have hlast : lastT (h + 1) ks f = lastT h k.2 k.1 := by
      rw [lastT_node, show ks.length - 1 = n by omega, hk]
    obtain ⟨init, i1, i2⟩ := last_leaves h k.2 k.1 (hw.2.2 k hkm).1
    rw [hlast]
    refine ⟨leaves (h + 1) (ks.take n) ++ init, ?_, fun q => ?_⟩
    · conv => lhs; rw [e1]
      rw [leaves_append, leaves_cons, leaves_nil, List.append_nil, i1, List.append_assoc]
    · have hput : putLast (h + 1) ks q = ks.set n (k.1, putLast h k.2 q) := by
        rw [putLast_node, show ks.length - 1 = n by omega, hk]
      rw [hput, e2, List.drop_of_length_le (by omega), leaves_append, leaves_cons, leaves_nil, List.append_nil]
      show leaves (h + 1) (ks.take n) ++ leaves h (putLast h k.2 q) = _
      rw [i2, List.append_assoc]

/-- The leaves behind the slow road. -/
theorem slow_leaves (h : Nat) (t : T h) (p : Int × Nat) (hf : fastLeaf (lastT h t minI).1 (lastT h t minI).2 p = none) : leaves (setRoot ⟨h, t⟩ p).1 (setRoot ⟨h, t⟩ p).2 = leaves h (setT h t p).1 ++ lo h (setT h t p).2 := by
  unfold setRoot
  dsimp only
  rw [hf]
  dsimp only
  obtain ⟨r, hr⟩ : ∃ r, r = setT h t p := ⟨_, rfl⟩
  rw [← hr]
  clear hr
  obtain ⟨l, os⟩ := r
  cases os with
  | none => simp [lo]
  | some s =>
    show leaves (h + 1) ([(fst h l, l), (fst h s, s)] : List (Int × T h)) = _
    rw [leaves_cons, leaves_cons, leaves_nil, List.append_nil]
    rfl

theorem fast_early {ps : List (Int × Nat)} {f : Int} {p : Int × Nat} (h : ∀ a ∈ ps, p.1 < a.1) : fastLeaf ps f p = none := by
  unfold fastLeaf
  split
  · rfl
  · rename_i q hq
    have := h q (List.mem_of_getElem? hq)
    split
    · rw [if_neg (by omega), if_neg (by omega)]
    · rfl

theorem last_sub (h : Nat) (t : T h) (f : Int) (hw : WF h t) (hs : Asc (times (flat h t))) : ∀ a ∈ (lastT h t f).1, a ∈ flat h t := by
  cases h with
  | zero => exact fun a ha => ha
  | succ h =>
    change List (Int × T h) at t
    have hne := wf_flat_ne hw.1 hw.2.2
    obtain ⟨f0, hf0⟩ : ∃ f0, (flat (h + 1) t).head?.map (·.1) = some f0 := by
      obtain ⟨z, zs, hz⟩ := List.exists_cons_of_ne_nil hne
      exact ⟨z.1, by rw [hz]; rfl⟩
    have hsame : lastT (h + 1) t f = lastT (h + 1) t f0 := by
      rw [lastT_node, lastT_node]
      have hpos : 0 < t.length := List.length_pos_iff.2 hw.1
      rw [List.getElem?_eq_getElem (show t.length - 1 < t.length by omega)]
    rw [hsame]
    obtain ⟨A, a1, -⟩ := last_spec (h + 1) t f0 hw hs hf0
    intro a ha
    rw [a1]
    exact List.mem_append_right _ ha

theorem setRoot_early (h : Nat) (t : T h) (p : Int × Nat) (hw : WF h t) (hs : Asc (times (flat h t))) (hx : ∀ a ∈ flat h t, p.1 < a.1) (first : List (Int × Nat)) (rest : List (List (Int × Nat))) (hl : leaves h t = first :: rest) :
    leaves (setRoot ⟨h, t⟩ p).1 (setRoot ⟨h, t⟩ p).2 = if first.length < 128 then (p :: first) :: rest else [p] :: first :: rest := by
  rw [slow_leaves h t p (fast_early fun a ha => hx a (last_sub h t minI hw hs a ha))]
  exact setT_early h t p hw hs hx first rest hl

theorem fast_late {ps : List (Int × Nat)} {f : Int} {p : Int × Nat} (hne : ps ≠ []) (hf : f ≤ p.1) (h : ∀ a ∈ ps, a.1 < p.1) : fastLeaf ps f p = if ps.length < 128 then some (ps ++ [p]) else none := by
  have hpos : 0 < ps.length := List.length_pos_iff.2 hne
  unfold fastLeaf
  have hq : ps[ps.length - 1]? = some (ps[ps.length - 1]'(by omega)) := List.getElem?_eq_getElem (by omega)
  rw [hq]
  dsimp only
  have := h (ps[ps.length - 1]'(by omega)) (List.getElem_mem _)
  rw [if_pos hf, if_neg (by omega)]
  by_cases hl : ps.length < 128
  · rw [if_pos ⟨this, hl⟩, if_pos hl]
  · rw [if_neg (fun h => hl h.2), if_neg hl]

theorem setRoot_late (h : Nat) (t : T h) (p : Int × Nat) (hw : WF h t) (hs : Asc (times (flat h t))) (hx : ∀ a ∈ flat h t, a.1 < p.1) (init : List (List (Int × Nat))) (last : List (Int × Nat)) (hl : leaves h t = init ++ [last]) :
    leaves (setRoot ⟨h, t⟩ p).1 (setRoot ⟨h, t⟩ p).2 = if last.length < 128 then init ++ [last ++ [p]] else init ++ [last, [p]] := by
  obtain ⟨init', i1, i2⟩ := last_leaves h t minI hw
  have heq := hl.symm.trans i1
  obtain ⟨e1, e2⟩ := List.append_inj' heq rfl
  have e3 : last = (lastT h t minI).1 := by simpa using e2
  have hfull : ¬ last.length < 128 → leaves h (setT h t p).1 ++ lo h (setT h t p).2 = leaves h t ++ [[p]] := fun hf => setT_late h t p hw hs hx init last hl hf
  by_cases hfast : fastLeaf (lastT h t minI).1 (lastT h t minI).2 p = none
  · rw [slow_leaves h t p hfast]
    by_cases hl128 : last.length < 128
    · rw [if_pos hl128]
      cases h with
      | zero =>
        change List (Int × Nat) at t
        have hlt : last = t := e3
        have hi : init = [] := by
          have : ([t] : List (List (Int × Nat))) = init ++ [last] := hl
          cases init with
          | nil => rfl
          | cons a init => have h2 := (List.cons.inj this).2; simp at h2
        show leaves 0 (leafSet t p).1 ++ lo 0 (leafSet t p).2 = _
        rw [leaf_late (ps := t) hx, ← hlt, if_pos hl128, hi]
        rfl
      | succ h =>
        exfalso
        change List (Int × T h) at t
        have hne := wf_flat_ne hw.1 hw.2.2
        obtain ⟨f0, hf0⟩ : ∃ f0, (flat (h + 1) t).head?.map (·.1) = some f0 := by
          obtain ⟨z, zs, hz⟩ := List.exists_cons_of_ne_nil hne
          exact ⟨z.1, by rw [hz]; rfl⟩
        have hsame : lastT (h + 1) t minI = lastT (h + 1) t f0 := by
          rw [lastT_node, lastT_node]
          have hpos : 0 < t.length := List.length_pos_iff.2 hw.1
          rw [List.getElem?_eq_getElem (show t.length - 1 < t.length by omega)]
        obtain ⟨A, a1, a2, ⟨q, hq, hqf⟩, a4, a5, a6, a7⟩ := last_spec (h + 1) t f0 hw hs hf0
        rw [hsame] at hfast e3
        have hlate := fast_late (ps := (lastT (h + 1) t f0).1) (f := (lastT (h + 1) t f0).2) (p := p) (head_some_ne a6) (by have := hx q hq; omega) (fun a ha => hx a (by rw [a1]; exact List.mem_append_right _ ha))
        rw [hlate, ← e3, if_pos hl128] at hfast
        cases hfast
    · rw [if_neg hl128, hfull hl128, hl]
      simp
  · obtain ⟨q, hq⟩ := Option.ne_none_iff_exists'.1 hfast
    have hne : (lastT h t minI).1 ≠ [] := fun e => by rw [e] at hq; simp [fastLeaf] at hq
    have hle : (lastT h t minI).2 ≤ p.1 := by
      unfold fastLeaf at hq
      split at hq
      · cases hq
      · split at hq
        · assumption
        · cases hq
    have hlate := fast_late hne hle (fun a ha => hx a (last_sub h t minI hw hs a ha))
    rw [hlate, ← e3] at hq
    by_cases hl128 : last.length < 128
    · rw [if_pos hl128] at hq ⊢
      have hlv : leaves (setRoot ⟨h, t⟩ p).1 (setRoot ⟨h, t⟩ p).2 = leaves h (putLast h t (last ++ [p])) := by
        unfold setRoot
        dsimp only
        rw [hlate, ← e3, if_pos hl128]
      rw [hlv, i2, e1]
    · rw [if_neg hl128] at hq
      cases hq

end Go.Proofs.Qxb6616513a
