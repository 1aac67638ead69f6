import Derived.Test.Qxb6616513aT17
namespace Go.Proofs.Qxb6616513a

def fo (h : Nat) : Option (T h) → List (Int × Nat)
  | none => []
  | some s => flat h s

theorem flat_append (h : Nat) (a b : List (Int × T h)) : flat (h + 1) (a ++ b : List (Int × T h)) = flat (h + 1) a ++ flat (h + 1) b := by
  rw [flat_node, flat_node, flat_node, List.flatMap_append]
theorem flat_cons (h : Nat) (k : Int × T h) (b : List (Int × T h)) : flat (h + 1) (k :: b : List (Int × T h)) = flat h k.2 ++ flat (h + 1) b := by
  rw [flat_node, flat_node, List.flatMap_cons]
theorem flat_nil (h : Nat) : flat (h + 1) ([] : List (Int × T h)) = [] := rfl

theorem head_some_ne {ps : List (Int × Nat)} {f : Int} (h : ps.head?.map (·.1) = some f) : ps ≠ [] := fun e => by rw [e] at h; simp at h

theorem wf_flat_ne {h : Nat} {ks : List (Int × T h)} (hne : ks ≠ []) (hk : ∀ k ∈ ks, WF h k.2 ∧ (flat h k.2).head?.map (·.1) = some k.1) : flat (h + 1) ks ≠ [] := by
  cases ks with
  | nil => exact absurd rfl hne
  | cons k ks =>
    rw [flat_cons]
    intro e
    exact head_some_ne (hk k (by simp)).2 (List.append_eq_nil_iff.1 e).1

theorem ins_at {α : Type} (A : List α) (x y : α) (C : List α) : ins (A.length + 1) y (A ++ x :: C) = A ++ x :: y :: C := by
  unfold ins
  rw [show A ++ x :: C = (A ++ [x]) ++ C by simp, List.take_left' (by simp), List.drop_left' (by simp)]
  simp

theorem setT_spec : ∀ (h : Nat) (t : T h) (p : Int × Nat), WF h t → Asc (times (flat h t)) →
    WF h (setT h t p).1 ∧ (∀ s, (setT h t p).2 = some s → WF h s ∧ flat h s ≠ []) ∧ flat h (setT h t p).1 ++ fo h (setT h t p).2 = up (flat h t) p ∧ flat h (setT h t p).1 ≠ []
  | 0, ps, p, hw, _ => by
    obtain ⟨a1, a2, a3, a4⟩ := leafSet_spec ps p hw
    refine ⟨a2, fun s hs => ?_, ?_, a4⟩
    · change (leafSet ps p).2 = some s at hs
      rw [hs] at a3
      exact ⟨a3, leafSet_ne (ps := ps) (p := p) (l := (leafSet ps p).1) (Prod.ext rfl hs)⟩
    · show (leafSet ps p).1 ++ fo 0 (leafSet ps p).2 = up ps p
      rw [← a1]
      cases (leafSet ps p).2 <;> rfl
  | h + 1, ks, p, hw, hs => by
    change List (Int × T h) at ks
    obtain ⟨k, hk, hA, hC⟩ := kid_sep (ks := ks) hw hs p.1
    obtain ⟨i, hi⟩ : ∃ i, i = kidAt h ks p.1 := ⟨_, rfl⟩
    have hset : setT (h + 1) ks p = nodeSet h ks i k p (setT h k.2 p) := by rw [setT_node, hk, hi]
    rw [← hi] at hk hA hC
    obtain ⟨e1, e2⟩ := list_at hk
    have hkm : k ∈ ks := List.mem_of_getElem? hk
    have hil := (List.getElem?_eq_some_iff.1 hk).1
    obtain ⟨b1, b2, b3, b4⟩ := setT_spec h k.2 p (hw.2.2 k hkm).1 ((kids_asc (ks := ks) hs).1 k hkm)
    have hkf := (hw.2.2 k hkm).2
    obtain ⟨r, hr⟩ : ∃ r, r = setT h k.2 p := ⟨_, rfl⟩
    rw [← hr] at b1 b2 b3 b4 hset
    have hup : up (flat (h + 1) ks) p = flat (h + 1) (ks.take i) ++ (flat h r.1 ++ fo h r.2) ++ flat (h + 1) (ks.drop (i + 1)) := by
      have e : flat (h + 1) ks = flat (h + 1) (ks.take i) ++ flat h k.2 ++ flat (h + 1) (ks.drop (i + 1)) := by
        conv => lhs; rw [e1]
        rw [flat_append, flat_cons, List.append_assoc]
      rw [e, up_mid _ _ _ p ?_ ?_, b3]
      · intro a ha
        rw [flat_node] at ha
        obtain ⟨q, hq, ha'⟩ := List.mem_flatMap.1 ha
        exact hA q hq a ha'
      · intro c hc
        rw [flat_node] at hc
        obtain ⟨q, hq, hc'⟩ := List.mem_flatMap.1 hc
        exact hC q hq c hc'
    have hhd : (flat h r.1).head?.map (·.1) = some (min k.1 p.1) := by
      obtain ⟨q, qs, hq⟩ := List.exists_cons_of_ne_nil (head_some_ne hkf)
      rw [hq] at b3 hkf
      have hh := up_head q qs p
      rw [← b3] at hh
      have hqk : q.1 = k.1 := by simpa using hkf
      obtain ⟨z, zs, hz⟩ := List.exists_cons_of_ne_nil b4
      rw [hz] at hh ⊢
      rw [hqk] at hh
      simpa using hh
    have hold : ∀ q ∈ ks.take i ++ ks.drop (i + 1), WF h q.2 ∧ (flat h q.2).head?.map (·.1) = some q.1 := fun q hq => by
      rcases List.mem_append.1 hq with h' | h'
      · exact hw.2.2 q (List.mem_of_mem_take h')
      · exact hw.2.2 q (List.mem_of_mem_drop h')
    rw [hset, hup]
    unfold nodeSet
    cases hr2 : r.2 with
    | none =>
      dsimp only
      rw [hr2] at hup
      have hkids : ∀ q ∈ ks.set i (min k.1 p.1, r.1), WF h q.2 ∧ (flat h q.2).head?.map (·.1) = some q.1 := fun q hq => by
        rw [e2] at hq
        rcases List.mem_append.1 hq with h' | h'
        · exact hold q (List.mem_append_left _ h')
        · rcases List.mem_cons.1 h' with rfl | h''
          · exact ⟨b1, hhd⟩
          · exact hold q (List.mem_append_right _ h'')
      have hne : ks.set i (min k.1 p.1, r.1) ≠ [] := fun e => by have := congrArg List.length e; simp at this; rw [this] at hil; simp at hil
      refine ⟨⟨hne, by simpa using hw.2.1, hkids⟩, fun s hs => (by cases hs), ?_, wf_flat_ne hne hkids⟩
      show flat (h + 1) (ks.set i (min k.1 p.1, r.1)) ++ [] = _
      rw [e2, flat_append, flat_cons]
      simp [fo]
    | some s =>
      dsimp only
      obtain ⟨ws, ns⟩ := b2 s hr2
      have hl2 : (ins (i + 1) (fst h s, s) (ks.set i (min k.1 p.1, r.1))) = ks.take i ++ (min k.1 p.1, r.1) :: (fst h s, s) :: ks.drop (i + 1) := by
        have ht : (ks.take i).length = i := by rw [List.length_take]; omega
        have := ins_at (ks.take i) (min k.1 p.1, r.1) (fst h s, s) (ks.drop (i + 1))
        rw [ht] at this
        rw [e2, this]
      obtain ⟨l2, hl2'⟩ : ∃ l2, l2 = ins (i + 1) (fst h s, s) (ks.set i (min k.1 p.1, r.1)) := ⟨_, rfl⟩
      rw [← hl2'] at hl2 ⊢
      have hlen : l2.length = ks.length + 1 := by rw [hl2', ins_length, List.length_set]
      have hkids : ∀ q ∈ l2, WF h q.2 ∧ (flat h q.2).head?.map (·.1) = some q.1 := fun q hq => by
        rw [hl2] at hq
        rcases List.mem_append.1 hq with h' | h'
        · exact hold q (List.mem_append_left _ h')
        · rcases List.mem_cons.1 h' with rfl | h''
          · exact ⟨b1, hhd⟩
          · rcases List.mem_cons.1 h'' with rfl | h3
            · exact ⟨ws, wf_fst h s ws ns⟩
            · exact hold q (List.mem_append_right _ h3)
      have hfl : flat (h + 1) l2 = flat (h + 1) (ks.take i) ++ (flat h r.1 ++ fo h (some s)) ++ flat (h + 1) (ks.drop (i + 1)) := by
        rw [hl2, flat_append, flat_cons, flat_cons]
        simp [fo]
      rw [← hfl]
      have hks : ks.length ≤ 64 := hw.2.1
      split
      · rename_i h64
        have hne : l2 ≠ [] := fun e => by rw [e] at hlen; simp at hlen
        refine ⟨⟨hne, h64, hkids⟩, fun s hs => (by cases hs), ?_, wf_flat_ne hne hkids⟩
        show flat (h + 1) l2 ++ [] = _
        rw [List.append_nil]
      · rename_i h64
        have hT : l2.take (l2.length / 2) ≠ [] := fun e => by have := congrArg List.length e; simp only [List.length_take, List.length_nil] at this; omega
        have hD : l2.drop (l2.length / 2) ≠ [] := fun e => by have := congrArg List.length e; simp only [List.length_drop, List.length_nil] at this; omega
        have kT : ∀ q ∈ l2.take (l2.length / 2), WF h q.2 ∧ (flat h q.2).head?.map (·.1) = some q.1 := fun q hq => hkids q (List.mem_of_mem_take hq)
        have kD : ∀ q ∈ l2.drop (l2.length / 2), WF h q.2 ∧ (flat h q.2).head?.map (·.1) = some q.1 := fun q hq => hkids q (List.mem_of_mem_drop hq)
        refine ⟨⟨hT, by rw [List.length_take]; omega, kT⟩, fun s' hs' => ?_, ?_, wf_flat_ne hT kT⟩
        · have e : s' = l2.drop (l2.length / 2) := (Option.some.inj hs').symm
          rw [e]
          exact ⟨⟨hD, by rw [List.length_drop]; omega, kD⟩, wf_flat_ne hD kD⟩
        · show flat (h + 1) (l2.take (l2.length / 2)) ++ flat (h + 1) (l2.drop (l2.length / 2)) = _
          rw [← flat_append, List.take_append_drop]

theorem up_last_set {ps : List (Int × Nat)} {p q : Int × Nat} {n : Nat} (hs : Asc (times ps)) (hn : ps.length = n + 1) (hq : ps[n]? = some q) (hx : p.1 = q.1) : up ps p = ps.set n p := by
  have hsp : ps = ps.take n ++ [q] := by
    conv => lhs; rw [(list_at hq).1]
    rw [List.drop_of_length_le (by omega)]
  have hlt : ∀ a ∈ ps.take n, a.1 < p.1 := fun a ha => by
    rw [hsp, asc_iff, List.pairwise_append] at hs
    have := hs.2.2 a ha q (by simp)
    omega
  have e : up ps p = ps.take n ++ up [q] p := by
    conv => lhs; rw [hsp]
    exact up_before _ _ p hlt
  rw [e, (list_at hq).2 p, List.drop_of_length_le (by omega), up, if_neg (by omega), if_pos hx.symm]

theorem up_last_app {ps : List (Int × Nat)} {p q : Int × Nat} {n : Nat} (hs : Asc (times ps)) (hn : ps.length = n + 1) (hq : ps[n]? = some q) (hx : q.1 < p.1) : up ps p = ps ++ [p] := by
  have hsp : ps = ps.take n ++ [q] := by
    conv => lhs; rw [(list_at hq).1]
    rw [List.drop_of_length_le (by omega)]
  have hlt : ∀ a ∈ ps, a.1 < p.1 := fun a ha => by
    rw [hsp] at ha
    rcases List.mem_append.1 ha with h' | h'
    · rw [hsp, asc_iff, List.pairwise_append] at hs
      have := hs.2.2 a h' q (by simp)
      omega
    · simp at h'; rw [h']; exact hx
  have := up_before ps [] p hlt
  rw [List.append_nil] at this
  rw [this]; rfl

theorem fast_spec {ps q : List (Int × Nat)} {f : Int} {p : Int × Nat} (hs : Asc (times ps)) (hl : ps.length ≤ 128) (hf : fastLeaf ps f p = some q) : f ≤ p.1 ∧ q = up ps p ∧ q.length ≤ 128 ∧ q.head?.map (·.1) = ps.head?.map (·.1) := by
  unfold fastLeaf at hf
  split at hf
  · cases hf
  · rename_i z hz
    have hlt := (List.getElem?_eq_some_iff.1 hz).1
    obtain ⟨n, hn⟩ : ∃ n, ps.length = n + 1 := ⟨ps.length - 1, by omega⟩
    rw [show ps.length - 1 = n by omega] at hz hf
    split at hf
    · rename_i hfx
      split at hf
      · rename_i hx
        simp only [Option.some.injEq] at hf
        subst hf
        refine ⟨hfx, (up_last_set hs hn hz hx).symm, by simpa using hl, ?_⟩
        cases n with
        | zero =>
          obtain ⟨a, ha⟩ := List.length_eq_one_iff.1 hn
          subst ha
          simp at hz
          subst hz
          simpa using hx
        | succ n =>
          cases ps with
          | nil => simp at hn
          | cons a ps => rfl
      · split at hf
        · rename_i hx
          simp only [Option.some.injEq] at hf
          subst hf
          refine ⟨hfx, (up_last_app hs hn hz hx.1).symm, by simp; omega, ?_⟩
          cases ps with
          | nil => simp at hn
          | cons a ps => rfl
        · cases hf
    · cases hf

end Go.Proofs.Qxb6616513a
