import Derived.Test.Qxb6616513aT11
namespace Go.Proofs.Qxb6616513a
open Go.RowKit

attribute [local go_sem] run_store_f

def minI : Int := -9223372036854775808

/-- The last leaf and the first time above it, of the plain tree. -/
def lastT : (h : Nat) → T h → Int → List (Int × Nat) × Int
  | 0, t, f => (t, f)
  | h + 1, ks, f => match (show List (Int × T h) from ks)[(show List (Int × T h) from ks).length - 1]? with
    | none => ([], f)
    | some k => lastT h k.2 k.1

theorem lastT_node (h : Nat) (ks : List (Int × T h)) (f : Int) : lastT (h + 1) ks f = (match ks[ks.length - 1]? with | none => ([], f) | some k => lastT h k.2 k.1) := by rfl

theorem lastT_er : ∀ (h : Nat) (t : HT h) (f : Int), lastT h (er h t) f = (er 0 (lastH h t f).1, (lastH h t f).2)
  | 0, _, _ => rfl
  | h + 1, (b, v, ks), f => by
    rw [er_succ]
    have hp := lastT_node h (ks.map fun k => (k.1, er h k.2)) f
    rw [List.length_map, List.getElem?_map] at hp
    have hp' : lastT (h + 1) (ks.map fun k => (k.1, er h k.2)) f = _ := hp
    rw [hp']
    cases hk : ks[ks.length - 1]? with
    | none =>
      have e : lastH (h + 1) (b, v, ks) f = (((0, Value.slice none 0 0, []) : HT 0), f) := by
        show (match ks[ks.length - 1]? with | none => (((0, Value.slice none 0 0, []) : HT 0), f) | some k => lastH h k.2 k.1) = _
        rw [hk]
      rw [e]; rfl
    | some k =>
      rw [lastH_node h b v ks f hk]
      exact lastT_er h k.2 k.1

/-- What 'set' does to the last leaf with no walk. -/
def fastLeaf (ps : List (Int × Nat)) (f : Int) (p : Int × Nat) : Option (List (Int × Nat)) :=
  match ps[ps.length - 1]? with
  | none => none
  | some q => if f ≤ p.1 then (if p.1 = q.1 then some (ps.set (ps.length - 1) p) else if q.1 < p.1 ∧ ps.length < 128 then some (ps ++ [p]) else none) else none

/-- timeline.set, on the plain tree. -/
def setRoot (r : (h : Nat) × T h) (p : Int × Nat) : (h : Nat) × T h :=
  match fastLeaf (lastT r.1 r.2 minI).1 (lastT r.1 r.2 minI).2 p with
  | some q => ⟨r.1, putLast r.1 r.2 q⟩
  | none => match setT r.1 r.2 p with
    | (l, none) => ⟨r.1, l⟩
    | (l, some s) => ⟨r.1 + 1, [(fst r.1 l, l), (fst r.1 s, s)]⟩

/-- What timeline.set leaves. -/
def RootPost (h : Nat) (t : HT h) (p : Int × Nat) (w w' : World) : Prop :=
  ∃ (h' : Nat) (t' : HT h'), blk h' t' = blk h t ∧ At w' h' t' ∧ setRoot ⟨h, er h t⟩ p = ⟨h', er h' t'⟩ ∧ (foot h' t').Nodup ∧ Keeps (foot h t) w w' ∧ ∀ z ∈ foot h' t', z ∈ foot h t ∨ w.heap.size ≤ z

/-- The node at another block. -/
def reblk : (h : Nat) → HT h → Nat → HT h
  | 0, t, nb => (nb, t.2)
  | _ + 1, t, nb => (nb, t.2)

theorem reblk_er (h : Nat) (t : HT h) (nb : Nat) : er h (reblk h t nb) = er h t := by cases h <;> rfl
theorem reblk_blk (h : Nat) (t : HT h) (nb : Nat) : blk h (reblk h t nb) = nb := by cases h <;> rfl
theorem reblk_foot (h : Nat) (t : HT h) (nb : Nat) : foot h (reblk h t nb) = nb :: (foot h t).tail := by cases h <;> rfl
theorem foot_cons (h : Nat) (t : HT h) : foot h t = blk h t :: (foot h t).tail := by cases h <;> rfl

theorem reblk_at {W W' : World} {c : Array Value} {ty1 ty2 : TypeId} : ∀ (h : Nat) (t : HT h) (nb : Nat), At W h t → W.heap[blk h t]? = some (.cells c ty1 (0, 0)) → W'.heap[nb]? = some (.cells c ty2 (0, 0)) → (∀ z ∈ (foot h t).tail, W'.heap[z]? = W.heap[z]?) → At W' h (reblk h t nb)
  | 0, (b, v, ps), nb, ⟨⟨ty, h1⟩, h2⟩, ho, hn, hs => by
    have e := h1.symm.trans ho
    simp only [Option.some.injEq, Obj.cells.injEq, and_true] at e
    exact ⟨⟨ty2, by rw [← e.1] at hn; exact hn⟩, ownsRow_same h2 fun z hz => hs z (by change v.ownBlock = some z at hz; simp [foot, hz])⟩
  | h + 1, (b, v, ks), nb, ⟨⟨ty, h1⟩, h2, h3⟩, ho, hn, hs => by
    have e := h1.symm.trans ho
    simp only [Option.some.injEq, Obj.cells.injEq, and_true] at e
    exact ⟨⟨ty2, by rw [← e.1] at hn; exact hn⟩, ownsRow_same h2 fun z hz => hs z (by change v.ownBlock = some z at hz; simp [foot, hz]), fun k hk => At.same h k.2 (h3 k hk) fun z hz => hs z (by
      rw [foot_succ]
      exact List.mem_append_right _ (mem_kidsFoot.2 ⟨k, hk, hz⟩))⟩

/-- A node's two cells. -/
theorem node_pair {W : World} : ∀ (h : Nat) (t : HT h), At W h t → ∃ (a0 a1 : Option Addr) (n0 c0 n1 c1 : Nat) (ty : TypeId), W.heap[blk h t]? = some (.cells #[.slice a0 n0 c0, .slice a1 n1 c1] ty (0, 0))
  | 0, (b, v, ps), ha => by
    obtain ⟨⟨ty, hb⟩, hr⟩ := ha
    obtain ⟨a, c, hv, -⟩ := row_times (f := fun k : Int × Nat => k.1) (fun _ => rfl) (fun _ => rfl) hr
    change v = .slice a ps.length c at hv
    subst hv
    exact ⟨a, none, _, c, 0, 0, ty, hb⟩
  | h + 1, (b, v, ks), ha => by
    obtain ⟨⟨ty, hb⟩, hr, -⟩ := ha
    obtain ⟨a, c, hv, -⟩ := row_times (f := fun k : Int × HT h => k.1) (fun _ => rfl) (fun _ => rfl) hr
    change v = .slice a ks.length c at hv
    subst hv
    exact ⟨none, a, 0, 0, _, c, ty, hb⟩

theorem leafSet_neL {ps : List (Int × Nat)} {p : Int × Nat} {l r : List (Int × Nat)} (h : leafSet ps p = (l, some r)) : l ≠ [] := by
  unfold leafSet at h
  dsimp only at h
  split at h
  · simp at h
  split at h
  · simp at h
  rename_i hl
  split at h
  · simp only [Prod.mk.injEq, Option.some.injEq] at h
    rw [← h.1]; intro e; rw [e] at hl; simp at hl
  split at h
  · simp only [Prod.mk.injEq, Option.some.injEq] at h
    rw [← h.1]; simp
  split at h
  · simp only [Prod.mk.injEq, Option.some.injEq] at h
    rw [← h.1]
    intro e
    have := congrArg List.length e
    rw [ins_length] at this
    simp at this
  · simp only [Prod.mk.injEq, Option.some.injEq] at h
    rw [← h.1]
    intro e
    have := congrArg List.length e
    simp only [List.length_take, List.length_nil] at this
    omega

theorem nodeSet_neL {h : Nat} {l : List (Int × T h)} {i : Nat} {k : Int × T h} {p : Int × Nat} {r : T h × Option (T h)} {a b : List (Int × T h)} (hn : nodeSet h l i k p r = (a, some b)) : a ≠ [] := by
  unfold nodeSet at hn
  split at hn
  · cases hn
  · split at hn
    · cases hn
    · rename_i hgt
      simp only [Prod.mk.injEq, Option.some.injEq] at hn
      rw [← hn.1]
      intro e
      have := congrArg List.length e
      simp only [List.length_take, List.length_nil] at this
      omega

theorem setT_neL_list (h : Nat) (t : List (Int × T h)) (p : Int × Nat) (l r : List (Int × T h)) (hs : setT (h + 1) t p = (l, some r)) : l ≠ [] := by
  rw [setT_node] at hs
  split at hs
  · cases hs
  · exact nodeSet_neL hs

theorem setT_neL (h : Nat) (t : T h) (p : Int × Nat) (l r : T h) (hs : setT h t p = (l, some r)) : NE h l := by
  cases h with
  | zero => exact leafSet_neL hs
  | succ h => exact setT_neL_list h t p l r hs

/-- The fast road: the last leaf lf has become lf'. -/
theorem root_fast {h : Nat} {t : HT h} {x : Int} {y : Nat} {w W W' : World} {q : List (Int × Nat)} (hk : Keeps [] w W) (ha : At W h t) (hok : Ok h (er h t)) (hnd : (foot h t).Nodup)
    (hf : fastLeaf (er 0 (lastH h t minI).1) (lastH h t minI).2 (x, y) = some q) {v' : Value} (hat : At W' 0 (blk 0 (lastH h t minI).1, v', q)) (hkp : Keeps (foot 0 (lastH h t minI).1) W W') (hnd' : (foot 0 (blk 0 (lastH h t minI).1, v', q)).Nodup)
    (hin : ∀ z ∈ foot 0 (blk 0 (lastH h t minI).1, v', q), z ∈ foot 0 (lastH h t minI).1 ∨ W.heap.size ≤ z) : RootPost h t (x, y) w W' := by
  obtain ⟨t', b1, b2, b3, b4, b5⟩ := last_put h t minI W W' (blk 0 (lastH h t minI).1, v', q) ha hok hnd rfl hat hkp hnd' hin
  have hm := (last_at h t minI W ha hok).2.1
  refine ⟨h, t', b1, b2, ?_, b4, (hk.mono (by simp)).trans (hkp.mono hm) (fun z hz => Or.inl hz), fun z hz => ?_⟩
  · unfold setRoot
    dsimp only
    rw [lastT_er]
    dsimp only
    rw [hf, b3]
    rfl
  · rcases b5 z hz with h' | h'
    · exact Or.inl h'
    · exact Or.inr (Nat.le_trans hk.size h')

/-- The state of timeline.set behind the look at the last leaf. -/
structure RMid (h : Nat) (t : HT h) (x : Int) (y : Nat) (w W : World) (pb : Nat) : Prop where
  keeps : Keeps [] w W
  at' : At W h t
  ok : Ok h (er h t)
  nd : (foot h t).Nodup
  lt : ∀ z ∈ foot h t, z < w.heap.size
  pbc : W.heap[pb]? = some (.cells #[.int .i64 x, .float .f64 y] 63 (0, 0))
  fresh : w.heap.size ≤ pb

theorem RMid.same {h : Nat} {t : HT h} {x : Int} {y : Nat} {w W W' : World} {pb : Nat} (M : RMid h t x y w W pb) (s : SameH W W') : RMid h t x y w W' pb :=
  ⟨s.keeps M.keeps, s.at M.at', M.ok, M.nd, M.lt, by rw [s.heap]; exact M.pbc, M.fresh⟩

/-- The root is set, and not split. -/
theorem root_slow {h : Nat} {t t' : HT h} {x : Int} {y : Nat} {w W W' : World} {pb : Nat} (M : RMid h t x y w W pb) (hf : fastLeaf (er 0 (lastH h t minI).1) (lastH h t minI).2 (x, y) = none)
    (hb : blk h t' = blk h t) (hat : At W' h t') (hs : setT h (er h t) (x, y) = (er h t', none)) (hkp : Keeps (foot h t) W W') (hnd : (foot h t').Nodup) (hin : ∀ z ∈ foot h t', z ∈ foot h t ∨ W.heap.size ≤ z) : RootPost h t (x, y) w W' := by
  refine ⟨h, t', hb, hat, ?_, hnd, (M.keeps.mono (by simp)).trans hkp (fun z hz => Or.inl hz), fun z hz => ?_⟩
  · unfold setRoot
    dsimp only
    rw [lastT_er]
    dsimp only
    rw [hf, hs]
  · rcases hin z hz with h' | h'
    · exact Or.inl h'
    · exact Or.inr (Nat.le_trans M.keeps.size h')

/-- The root is split: a new root over the two halves. -/
theorem root_split {h : Nat} {t t' s : HT h} {x : Int} {y : Nat} {w W W' wf : World} {pb : Nat} (M : RMid h t x y w W pb) (hf : fastLeaf (er 0 (lastH h t minI).1) (lastH h t minI).2 (x, y) = none)
    (hb : blk h t' = blk h t) (hat : At W' h t') (hss : At W' h s) (hs : setT h (er h t) (x, y) = (er h t', some (er h s))) (hkp : Keeps (foot h t) W W') (hnd : (foot h t' ++ foot h s).Nodup) (hin : ∀ z ∈ foot h t' ++ foot h s, z ∈ foot h t ∨ W.heap.size ≤ z)
    {nb r : Nat} {ty ty1 ty2 : TypeId} {c : Array Value} (hno : W'.heap[blk h t]? = some (.cells c ty1 (0, 0))) (hnb : wf.heap[nb]? = some (.cells c ty2 (0, 0))) (hr : wf.heap[r]? = some (.cells #[.int .i64 (fst h (er h t')), .pointer (some ⟨nb, 0, none⟩), .int .i64 (fst h (er h s)), .pointer (some ⟨blk h s, 0, none⟩)] 84 (0, 0)))
    (hb0 : wf.heap[blk h t]? = some (.cells #[.slice none 0 0, .slice (some ⟨r, 0, none⟩) 2 2] ty (0, 0))) (hn1 : W'.heap.size ≤ nb) (hn2 : W'.heap.size ≤ r) (hn3 : nb ≠ r) (hkf : Keeps [blk h t] W' wf) : RootPost h t (x, y) w wf := by
  have hbm : blk h t ∈ foot h t := blk_mem h t
  have h1 := At.lt h t' hat
  have h2 := At.lt h s hss
  obtain ⟨n1, n2, n3⟩ := List.nodup_append.1 hnd
  have hfc := foot_cons h t'
  rw [hb] at hfc
  rw [hfc] at n1
  have hbt : blk h t < W'.heap.size := h1 _ (by rw [hfc]; simp)
  have htl : ∀ z ∈ (foot h t').tail, z ∈ foot h t' := fun z hz => by rw [hfc]; exact List.mem_cons_of_mem _ hz
  have htb : ∀ z ∈ (foot h t').tail, z ≠ blk h t := fun z hz e => (List.nodup_cons.1 n1).1 (e ▸ hz)
  have hsb : ∀ z ∈ foot h s, z ≠ blk h t := fun z hz e => n3 (blk h t) (by rw [hfc]; simp) z hz e.symm
  have aL : At wf h (reblk h t' nb) := reblk_at h t' nb hat (by rw [hb]; exact hno) hnb fun z hz => hkf.block z (h1 z (htl z hz)) (by simpa using htb z hz)
  have aS : At wf h s := hkf.at hss fun z hz => by simpa using hsb z hz
  have hsz := M.keeps.size
  have hsz2 := hkp.size
  refine ⟨h + 1, (blk h t, .slice (some ⟨r, 0, none⟩) 2 2, [(fst h (er h t'), reblk h t' nb), (fst h (er h s), s)]), rfl, ⟨⟨ty, hb0⟩, ?_, ?_⟩, ?_, ?_, ?_, ?_⟩
  · refine ⟨rfl, .inr ⟨r, 2, _, rfl, Nat.zero_le _, hr, Nat.le_refl _, by unfold maxLen; omega, rfl, ?_⟩⟩
    show _ = [Value.int .i64 (fst h (er h t')), .pointer (some ⟨blk h (reblk h t' nb), 0, none⟩), .int .i64 (fst h (er h s)), .pointer (some ⟨blk h s, 0, none⟩)]
    rw [reblk_blk]
    rfl
  · intro k hk
    change k ∈ [(fst h (er h t'), reblk h t' nb), (fst h (er h s), s)] at hk
    simp only [List.mem_cons, List.not_mem_nil, or_false] at hk
    rcases hk with rfl | rfl
    · exact aL
    · exact aS
  · unfold setRoot
    dsimp only
    rw [lastT_er]
    dsimp only
    rw [hf, hs]
    rw [er_succ]
    simp only [List.map_cons, List.map_nil, reblk_er]
  · rw [foot_succ]
    simp only [kidsFoot, List.flatMap_cons, List.flatMap_nil, List.append_nil, Value.ownBlock, Option.toList_some, reblk_foot, List.cons_append, List.nil_append]
    refine List.nodup_cons.2 ⟨?_, List.nodup_cons.2 ⟨?_, List.nodup_cons.2 ⟨?_, ?_⟩⟩⟩
    · simp only [List.mem_cons, List.mem_append, not_or]
      exact ⟨by omega, by omega, fun hz => htb _ hz rfl, fun hz => hsb _ hz rfl⟩
    · simp only [List.mem_cons, List.mem_append, not_or]
      exact ⟨fun e => hn3 e.symm, fun hz => by have := h1 _ (htl _ hz); omega, fun hz => by have := h2 _ hz; omega⟩
    · simp only [List.mem_append, not_or]
      exact ⟨fun hz => by have := h1 _ (htl _ hz); omega, fun hz => by have := h2 _ hz; omega⟩
    · exact List.nodup_append.2 ⟨(List.nodup_cons.1 n1).2, n2, fun z hz z' hz' e => n3 z (htl z hz) z' hz' e⟩
  · have k1 := (M.keeps.mono (F' := foot h t) (by simp)).trans hkp (fun z hz => Or.inl hz)
    exact k1.trans hkf (fun z hz => by simp at hz; subst hz; exact Or.inl hbm)
  · intro z hz
    rw [foot_succ] at hz
    simp only [kidsFoot, List.flatMap_cons, List.flatMap_nil, List.append_nil, Value.ownBlock, Option.toList_some, reblk_foot, List.cons_append, List.nil_append, List.mem_cons, List.mem_append] at hz
    have old : ∀ z ∈ foot h t' ++ foot h s, z ∈ foot h t ∨ w.heap.size ≤ z := fun z hz => by
      rcases hin z hz with h' | h'
      · exact Or.inl h'
      · exact Or.inr (Nat.le_trans hsz h')
    rcases hz with rfl | rfl | rfl | hz | hz
    · exact Or.inl hbm
    · right; omega
    · right; omega
    · exact old z (List.mem_append_left _ (htl z hz))
    · exact old z (List.mem_append_right _ hz)

end Go.Proofs.Qxb6616513a
