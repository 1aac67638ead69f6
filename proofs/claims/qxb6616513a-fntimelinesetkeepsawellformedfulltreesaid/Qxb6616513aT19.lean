import Derived.Test.Qxb6616513aT18
namespace Go.Proofs.Qxb6616513a

theorem last_spec : ∀ (h : Nat) (t : T h) (f : Int), WF h t → Asc (times (flat h t)) → (flat h t).head?.map (·.1) = some f →
    ∃ A, flat h t = A ++ (lastT h t f).1 ∧ (∀ a ∈ A, a.1 < (lastT h t f).2) ∧ (∃ q ∈ flat h t, q.1 = (lastT h t f).2) ∧ Asc (times (lastT h t f).1) ∧ (lastT h t f).1.length ≤ 128 ∧ (lastT h t f).1.head?.map (·.1) = some (lastT h t f).2 ∧
      ∀ q : List (Int × Nat), q.length ≤ 128 → q.head?.map (·.1) = some (lastT h t f).2 → flat h (putLast h t q) = A ++ q ∧ WF h (putLast h t q) ∧ (flat h (putLast h t q)).head?.map (·.1) = some f
  | 0, ps, f, hw, hs, hf => ⟨[], rfl, by simp, (head_le hs hf).1, hs, hw, hf, fun q h1 h2 => ⟨rfl, h1, h2⟩⟩
  | h + 1, ks, f, hw, hs, hf => by
    change List (Int × T h) at ks
    have hne : ks ≠ [] := hw.1
    have hpos : 0 < ks.length := List.length_pos_iff.2 hne
    obtain ⟨n, hn⟩ : ∃ n, ks.length = n + 1 := ⟨ks.length - 1, by omega⟩
    obtain ⟨k, hk⟩ : ∃ k, ks[n]? = some k := ⟨_, List.getElem?_eq_getElem (by omega)⟩
    have hkm := List.mem_of_getElem? hk
    obtain ⟨e1, e2⟩ := list_at hk
    rw [List.drop_of_length_le (by omega)] at e1
    have e2' : ∀ k', ks.set n k' = ks.take n ++ [k'] := fun k' => by rw [e2 k', List.drop_of_length_le (by omega)]
    have hlast : lastT (h + 1) ks f = lastT h k.2 k.1 := by
      rw [lastT_node, show ks.length - 1 = n by omega, hk]
    obtain ⟨h1, h2⟩ := kids_asc (ks := ks) hs
    obtain ⟨A, a1, a2, a3, a4, a5, a6, a7⟩ := last_spec h k.2 k.1 (hw.2.2 k hkm).1 (h1 k hkm) (hw.2.2 k hkm).2
    rw [hlast]
    have hfl : flat (h + 1) ks = flat (h + 1) (ks.take n) ++ flat h k.2 := by
      conv => lhs; rw [e1]
      rw [flat_append, flat_cons, flat_nil, List.append_nil]
    refine ⟨flat (h + 1) (ks.take n) ++ A, by rw [hfl, a1, List.append_assoc], fun a ha => ?_, ?_, a4, a5, a6, fun q q1 q2 => ?_⟩
    · rcases List.mem_append.1 ha with h' | h'
      · rw [flat_node] at h'
        obtain ⟨z, hz, haz⟩ := List.mem_flatMap.1 h'
        obtain ⟨c, hc, hcf⟩ := a3
        rw [e1, List.pairwise_append] at h2
        have := h2.2.2 z hz k (by simp) a haz c hc
        omega
      · exact a2 a h'
    · obtain ⟨c, hc, hcf⟩ := a3
      exact ⟨c, by rw [hfl]; exact List.mem_append_right _ hc, hcf⟩
    · obtain ⟨b1, b2, b3⟩ := a7 q q1 q2
      have hput : putLast (h + 1) ks q = ks.set n (k.1, putLast h k.2 q) := by
        rw [putLast_node, show ks.length - 1 = n by omega, hk]
      have hkids : ∀ z ∈ ks.set n (k.1, putLast h k.2 q), WF h z.2 ∧ (flat h z.2).head?.map (·.1) = some z.1 := fun z hz => by
        rcases List.mem_or_eq_of_mem_set hz with h' | h'
        · exact hw.2.2 z h'
        · rw [h']; exact ⟨b2, b3⟩
      have hne' : ks.set n (k.1, putLast h k.2 q) ≠ [] := fun e => by have := congrArg List.length e; simp at this; exact hne this
      have hwf : WF (h + 1) (ks.set n (k.1, putLast h k.2 q)) := ⟨hne', by simpa using hw.2.1, hkids⟩
      rw [hput]
      refine ⟨?_, hwf, ?_⟩
      · rw [e2', flat_append, flat_cons, flat_nil, List.append_nil]
        show flat (h + 1) (ks.take n) ++ flat h (putLast h k.2 q) = _
        rw [b1, List.append_assoc]
      · have hx := wf_fst (h + 1) _ hwf (wf_flat_ne hne' hkids)
        have hy := wf_fst (h + 1) ks hw (head_some_ne hf)
        rw [hf] at hy
        rw [hx, hy]
        congr 1
        cases ks with
        | nil => exact absurd rfl hne
        | cons z ks =>
          cases n with
          | zero =>
            simp at hk
            subst hk
            rfl
          | succ n => rfl

theorem setRoot_spec (h : Nat) (t : T h) (p : Int × Nat) (hw : WF h t) (hs : Asc (times (flat h t))) :
    WF (setRoot ⟨h, t⟩ p).1 (setRoot ⟨h, t⟩ p).2 ∧ flat (setRoot ⟨h, t⟩ p).1 (setRoot ⟨h, t⟩ p).2 = up (flat h t) p := by
  unfold setRoot
  dsimp only
  cases hf : fastLeaf (lastT h t minI).1 (lastT h t minI).2 p with
  | some q =>
    dsimp only
    cases h with
    | zero =>
      obtain ⟨-, f2, f3, -⟩ := fast_spec (ps := t) (f := minI) hs hw hf
      exact ⟨f3, f2⟩
    | succ h =>
      change List (Int × T h) at t
      have hne := wf_flat_ne hw.1 hw.2.2
      obtain ⟨f0, hf0⟩ : ∃ f0, (flat (h + 1) t).head?.map (·.1) = some f0 := by
        obtain ⟨z, zs, hz⟩ := List.exists_cons_of_ne_nil hne
        exact ⟨z.1, by rw [hz]; rfl⟩
      have hsame : lastT (h + 1) t minI = lastT (h + 1) t f0 := by
        rw [lastT_node, lastT_node]
        have hpos : 0 < t.length := List.length_pos_iff.2 hw.1
        rw [List.getElem?_eq_getElem (show t.length - 1 < t.length by omega)]
      rw [hsame] at hf
      obtain ⟨A, a1, a2, a3, a4, a5, a6, a7⟩ := last_spec (h + 1) t f0 hw hs hf0
      obtain ⟨f1, f2, f3, f4⟩ := fast_spec a4 a5 hf
      obtain ⟨b1, b2, -⟩ := a7 q f3 (by rw [f4]; exact a6)
      refine ⟨b2, ?_⟩
      rw [b1, a1, up_before A _ p (fun a ha => by have := a2 a ha; omega), f2]
  | none =>
    dsimp only
    obtain ⟨c1, c2, c3, c4⟩ := setT_spec h t p hw hs
    obtain ⟨r, hr⟩ : ∃ r, r = setT h t p := ⟨_, rfl⟩
    rw [← hr] at c1 c2 c3 c4 ⊢
    clear hr
    obtain ⟨l, os⟩ := r
    dsimp only at c1 c2 c3 c4
    cases os with
    | none => exact ⟨c1, by rw [← c3]; simp [fo]⟩
    | some s =>
      obtain ⟨d1, d2⟩ := c2 s rfl
      refine ⟨⟨List.cons_ne_nil _ _, by show 2 ≤ 64; omega, fun k hk => ?_⟩, ?_⟩
      · simp only [List.mem_cons, List.not_mem_nil, or_false] at hk
        rcases hk with rfl | rfl
        · exact ⟨c1, wf_fst h l c1 c4⟩
        · exact ⟨d1, wf_fst h s d1 d2⟩
      · show flat (h + 1) ([(fst h l, l), (fst h s, s)] : List (Int × T h)) = _
        rw [flat_cons, flat_cons, flat_nil, List.append_nil, ← c3]
        rfl

end Go.Proofs.Qxb6616513a
