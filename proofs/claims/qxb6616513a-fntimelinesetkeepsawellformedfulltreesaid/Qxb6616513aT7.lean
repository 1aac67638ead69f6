import Derived.Test.Qxb6616513aT6
namespace Go.Proofs.Qxb6616513a
open Go.RowKit

/-- The blocks of the kids. -/
def kidsFoot (h : Nat) (ks : List (Int × HT h)) : List Nat := ks.flatMap fun k => foot h k.2
theorem kidsFoot_append (h : Nat) (a b : List (Int × HT h)) : kidsFoot h (a ++ b) = kidsFoot h a ++ kidsFoot h b := by simp [kidsFoot]
theorem kidsFoot_cons (h : Nat) (k : Int × HT h) (b : List (Int × HT h)) : kidsFoot h (k :: b) = foot h k.2 ++ kidsFoot h b := by simp [kidsFoot]
theorem foot_succ (h b : Nat) (v : Value) (ks : List (Int × HT h)) : foot (h + 1) (b, v, ks) = b :: (v.ownBlock.toList ++ kidsFoot h ks) := rfl
theorem mem_kidsFoot {h : Nat} {ks : List (Int × HT h)} {z : Nat} : z ∈ kidsFoot h ks ↔ ∃ k ∈ ks, z ∈ foot h k.2 := by simp [kidsFoot]

theorem nodup_swap {A K K' C : List Nat} {N : Nat} (h : (A ++ (K ++ C)).Nodup) (hK : K'.Nodup) (hin : ∀ z ∈ K', z ∈ K ∨ N ≤ z) (hlt : ∀ z ∈ A ++ C, z < N) : (A ++ (K' ++ C)).Nodup := by
  obtain ⟨a1, a2, a3⟩ := List.nodup_append.1 h
  obtain ⟨b1, b2, b3⟩ := List.nodup_append.1 a2
  refine List.nodup_append.2 ⟨a1, List.nodup_append.2 ⟨hK, b2, fun z hz z' hz' e => ?_⟩, fun z hz z' hz' e => ?_⟩
  · subst e
    rcases hin z hz with h' | h'
    · exact b3 z h' z hz' rfl
    · have := hlt z (List.mem_append_right _ hz'); omega
  · subst e
    rcases List.mem_append.1 hz' with h' | h'
    · rcases hin z h' with h'' | h''
      · exact a3 z hz z (List.mem_append_left _ h'') rfl
      · have := hlt z (List.mem_append_left _ hz); omega
    · exact a3 z hz z (List.mem_append_right _ h') rfl

/-- What stands while a 'set' is under way at an inner node; F0: the blocks at its beginning. -/
structure Mid2 (h : Nat) (F0 : List Nat) (w W : World) (b : Nat) (v : Value) (ks : List (Int × HT h)) (pb : Nat) (x : Int) (y : Nat) : Prop where
  keeps : Keeps F0 w W
  at' : At W (h + 1) (b, v, ks)
  nd : (foot (h + 1) (b, v, ks)).Nodup
  mem : ∀ k ∈ foot (h + 1) (b, v, ks), k ∈ F0 ∨ w.heap.size ≤ k
  pbc : W.heap[pb]? = some (.cells #[.int .i64 x, .float .f64 y] 63 (0, 0))
  pbn : pb ∉ foot (h + 1) (b, v, ks)
  fresh : w.heap.size ≤ pb
  pb0 : pb ∉ F0

theorem Mid2.same {h : Nat} {F0 : List Nat} {w W W' : World} {b : Nat} {v : Value} {ks : List (Int × HT h)} {pb : Nat} {x : Int} {y : Nat} (M : Mid2 h F0 w W b v ks pb x y) (s : SameH W W') : Mid2 h F0 w W' b v ks pb x y :=
  ⟨s.keeps M.keeps, s.at M.at', M.nd, M.mem, by rw [s.heap]; exact M.pbc, M.pbn, M.fresh, M.pb0⟩

theorem Mid2.below {h : Nat} {F0 : List Nat} {w W W' : World} {b : Nat} {v : Value} {ks : List (Int × HT h)} {pb : Nat} {x : Int} {y : Nat} (M : Mid2 h F0 w W b v ks pb x y) (hB : Below W.heap.size W W') : Mid2 h F0 w W' b v ks pb x y :=
  ⟨M.keeps.trans (Below.keeps hB []) (by simp), (Below.keeps hB []).at M.at' (by simp), M.nd, M.mem, (hB.block pb (Array.getElem?_eq_some_iff.1 M.pbc).1).trans M.pbc, M.pbn, M.fresh, M.pb0⟩

theorem node_frozen {w : World} {h b : Nat} {v : Value} {ks : List (Int × HT h)} (ha : At w (h + 1) (b, v, ks)) (j : Nat) : w.frozen? ⟨b, j, none⟩ = false := by
  obtain ⟨⟨ty, hb⟩, _⟩ := ha
  change w.heap[b]? = _ at hb
  simp [World.frozen?, hb]

theorem list_at {α : Type} {ks : List α} {i : Nat} {k : α} (hk : ks[i]? = some k) : ks = ks.take i ++ k :: ks.drop (i + 1) ∧ ∀ k', ks.set i k' = ks.take i ++ k' :: ks.drop (i + 1) := by
  have hl := (List.getElem?_eq_some_iff.1 hk).1
  have he := (List.getElem?_eq_some_iff.1 hk).2
  refine ⟨?_, fun k' => ?_⟩
  · rw [← he]
    simp
  · rw [List.set_eq_take_append_cons_drop, if_pos hl]

theorem set_self {α : Type} {l : List α} {i : Nat} {a : α} (h : l[i]? = some a) : l.set i a = l := by
  obtain ⟨hl, rfl⟩ := List.getElem?_eq_some_iff.1 h
  exact List.set_getElem_self hl

/-- The kid's first time is written. -/
theorem Mid2.first {h : Nat} {F0 : List Nat} {w W W' : World} {b g cap : Nat} {ks : List (Int × HT h)} {pb : Nat} {x : Int} {y : Nat} (M : Mid2 h F0 w W b (.slice (some ⟨g, 0, none⟩) ks.length cap) ks pb x y) {i : Nat} {k : Int × HT h} (hk : ks[i]? = some k) (m : Int)
    (hS : SameH (W.setCell ⟨g, i * 2, none⟩ (.int .i64 m)) W') : Mid2 h F0 w W' b (.slice (some ⟨g, 0, none⟩) (ks.set i (m, k.2)).length cap) (ks.set i (m, k.2)) pb x y := by
  obtain ⟨e1, e2⟩ := list_at hk
  have hf : foot (h + 1) (b, .slice (some ⟨g, 0, none⟩) (ks.set i (m, k.2)).length cap, ks.set i (m, k.2)) = foot (h + 1) (b, .slice (some ⟨g, 0, none⟩) ks.length cap, ks) := by
    rw [foot_succ, foot_succ, e2]
    conv => rhs; rw [e1]
    simp only [kidsFoot_append, kidsFoot_cons]
    rfl
  obtain ⟨⟨ty, hb⟩, hr, hkk⟩ := M.at'
  change W.heap[b]? = _ at hb
  change W.ownsRow 0 84 2 (.slice (some ⟨g, 0, none⟩) ks.length cap) ks.length (encK h ks) at hr
  change ∀ k ∈ ks, At W h k.2 at hkk
  have hgm : g ∈ foot (h + 1) (b, .slice (some ⟨g, 0, none⟩) ks.length cap, ks) := by simp [foot, Value.ownBlock]
  have hbg : b ≠ g := by
    intro e
    have := M.nd
    rw [foot_succ] at this
    exact (List.nodup_cons.1 this).1 (by simp [Value.ownBlock, e])
  have hkg : ∀ q ∈ ks, ∀ z ∈ foot h q.2, z ≠ g := by
    intro q hq z hz e
    subst e
    have := M.nd
    rw [foot_succ] at this
    have h2 := (List.nodup_append.1 (List.nodup_cons.1 this).2).2.2
    exact h2 z (by simp [Value.ownBlock]) z (mem_kidsFoot.2 ⟨q, hq, hz⟩) rfl
  have kk : ∀ q ∈ ks, At (W.setCell ⟨g, i * 2, none⟩ (.int .i64 m)) h q.2 := fun q hq => At.same h q.2 (hkk q hq) fun z hz => Below.heap_setCell W _ _ z (hkg q hq z hz)
  refine Mid2.same ?_ hS
  refine ⟨M.keeps.trans (setCell_keeps W _ _ [g] (by simp)) (fun z hz => by simp at hz; subst hz; exact M.mem z hgm), ⟨⟨ty, ?_⟩, ?_, ?_⟩, by rw [hf]; exact M.nd, by rw [hf]; exact M.mem, ?_, by rw [hf]; exact M.pbn, M.fresh, M.pb0⟩
  · show _ = some (Obj.cells #[.slice none 0 0, .slice (some ⟨g, 0, none⟩) (ks.set i (m, k.2)).length cap] ty (0, 0))
    rw [List.length_set]
    exact (Below.heap_setCell W _ _ b hbg).trans hb
  · show (W.setCell ⟨g, i * 2, none⟩ (.int .i64 m)).ownsRow 0 84 2 (.slice (some ⟨g, 0, none⟩) (ks.set i (m, k.2)).length cap) (ks.set i (m, k.2)).length (encK h (ks.set i (m, k.2)))
    rw [List.length_set]
    have h1 := (hr.stored (i * 2) (.int .i64 m)).1
    unfold encK at h1 ⊢
    rw [pairs_set0 (fun k : Int × HT h => .int .i64 k.1) (fun k : Int × HT h => .pointer (some ⟨blk h k.2, 0, none⟩)) ks i k (m, k.2) hk rfl] at h1
    exact h1
  · intro q hq
    rcases List.mem_or_eq_of_mem_set hq with h' | h'
    · exact kk q h'
    · rw [h']; exact kk k (List.mem_of_getElem? hk)
  · exact (Below.heap_setCell W _ _ pb (fun e => M.pbn (by rw [e]; exact hgm))).trans M.pbc

/-- Behind the kid's own 'set': the kid is t'; what is split off it is s. -/
theorem Mid2.kid {h : Nat} {F0 : List Nat} {w W W' : World} {b : Nat} {v : Value} {ks : List (Int × HT h)} {pb : Nat} {x : Int} {y : Nat} (M : Mid2 h F0 w W b v ks pb x y) {i : Nat} {k : Int × HT h} (hk : ks[i]? = some k) {t' : HT h} {F' : List Nat}
    (hb : blk h t' = blk h k.2) (hat : At W' h t') (hkp : Keeps (foot h k.2) W W') (hnd : (foot h t' ++ F').Nodup) (hin : ∀ z ∈ foot h t' ++ F', z ∈ foot h k.2 ∨ W.heap.size ≤ z) :
    Mid2 h F0 w W' b v (ks.set i (k.1, t')) pb x y ∧ (foot (h + 1) (b, v, ks.set i (k.1, t')) ++ F').Nodup ∧ (∀ z ∈ F', z ∈ F0 ∨ w.heap.size ≤ z) ∧ pb ∉ F' := by
  obtain ⟨e1, e2⟩ := list_at hk
  have hkm : ∀ z ∈ foot h k.2, z ∈ foot (h + 1) (b, v, ks) := fun z hz => by
    rw [foot_succ]
    exact List.mem_cons_of_mem _ (List.mem_append_right _ (mem_kidsFoot.2 ⟨k, List.mem_of_getElem? hk, hz⟩))
  have hpl : pb < W.heap.size := (Array.getElem?_eq_some_iff.1 M.pbc).1
  have hWs := M.keeps.size
  have hA : foot (h + 1) (b, v, ks) = (b :: (v.ownBlock.toList ++ kidsFoot h (ks.take i))) ++ (foot h k.2 ++ kidsFoot h (ks.drop (i + 1))) := by
    rw [foot_succ]
    conv => lhs; rw [e1]
    simp [kidsFoot_append, kidsFoot_cons]
  have hA' : foot (h + 1) (b, v, ks.set i (k.1, t')) = (b :: (v.ownBlock.toList ++ kidsFoot h (ks.take i))) ++ (foot h t' ++ kidsFoot h (ks.drop (i + 1))) := by
    rw [foot_succ, e2]
    simp [kidsFoot_append, kidsFoot_cons]
  have hnd0 := M.nd
  rw [hA] at hnd0
  have hltA : ∀ z ∈ (b :: (v.ownBlock.toList ++ kidsFoot h (ks.take i))) ++ kidsFoot h (ks.drop (i + 1)), z < W.heap.size := fun z hz => by
    refine At.lt (h + 1) _ M.at' z ?_
    rw [hA]
    rcases List.mem_append.1 hz with h' | h'
    · exact List.mem_append_left _ h'
    · exact List.mem_append_right _ (List.mem_append_right _ h')
  have hdis : ∀ z ∈ (b :: (v.ownBlock.toList ++ kidsFoot h (ks.take i))) ++ kidsFoot h (ks.drop (i + 1)), z ∉ foot h k.2 := fun z hz hz' => by
    obtain ⟨_, a2, a3⟩ := List.nodup_append.1 hnd0
    rcases List.mem_append.1 hz with h' | h'
    · exact a3 z h' z (List.mem_append_left _ hz') rfl
    · exact (List.nodup_append.1 a2).2.2 z hz' z h' rfl
  have hsw := nodup_swap hnd0 hnd hin hltA
  have hperm : (foot (h + 1) (b, v, ks.set i (k.1, t')) ++ F').Nodup := by
    rw [hA']
    refine (List.Perm.nodup_iff ?_).1 hsw
    rw [List.append_assoc, List.append_assoc, List.append_assoc]
    exact List.Perm.append_left _ (List.Perm.append_left _ List.perm_append_comm)
  obtain ⟨⟨ty, hbk⟩, hr, hkk⟩ := M.at'
  change W.heap[b]? = _ at hbk
  change W.ownsRow 0 84 2 v ks.length (encK h ks) at hr
  change ∀ k ∈ ks, At W h k.2 at hkk
  have hbd : b ∉ foot h k.2 := hdis b (by simp)
  have hvd : ∀ g, v.ownBlock = some g → g ∉ foot h k.2 := fun g hg => hdis g (by simp [hg])
  refine ⟨⟨M.keeps.trans hkp (fun z hz => M.mem z (hkm z hz)), ⟨⟨ty, ?_⟩, ?_, ?_⟩, (List.nodup_append.1 hperm).1, ?_, ?_, ?_, M.fresh, M.pb0⟩, hperm, ?_, ?_⟩
  · exact (hkp.block b (Array.getElem?_eq_some_iff.1 hbk).1 hbd).trans hbk
  · show W'.ownsRow 0 84 2 v (ks.set i (k.1, t')).length (encK h (ks.set i (k.1, t')))
    rw [List.length_set]
    have henc : encK h (ks.set i (k.1, t')) = encK h ks := by
      unfold encK
      rw [← pairs_set0 (fun k : Int × HT h => .int .i64 k.1) (fun k : Int × HT h => .pointer (some ⟨blk h k.2, 0, none⟩)) ks i k (k.1, t') hk (by dsimp only; rw [hb])]
      refine set_self ?_
      rw [pairs_get0, hk]; rfl
    rw [henc]
    exact ownsRow_same hr fun g hg => hkp.block g (hr.lt g hg).2 (hvd g hg)
  · intro q hq
    change q ∈ ks.set i (k.1, t') at hq
    rw [e2] at hq
    rcases List.mem_append.1 hq with h' | h'
    · exact hkp.at (hkk q (List.mem_of_mem_take h')) fun z hz => hdis z (List.mem_append_left _ (List.mem_cons_of_mem _ (List.mem_append_right _ (mem_kidsFoot.2 ⟨q, h', hz⟩))))
    · rcases List.mem_cons.1 h' with rfl | h''
      · exact hat
      · exact hkp.at (hkk q (List.mem_of_mem_drop h'')) fun z hz => hdis z (List.mem_append_right _ (mem_kidsFoot.2 ⟨q, h'', hz⟩))
  · intro z hz
    rw [hA'] at hz
    rcases List.mem_append.1 hz with h' | h'
    · exact M.mem z (by rw [hA]; exact List.mem_append_left _ h')
    · rcases List.mem_append.1 h' with h'' | h''
      · rcases hin z (List.mem_append_left _ h'') with h3 | h3
        · exact M.mem z (hkm z h3)
        · exact Or.inr (Nat.le_trans hWs h3)
      · exact M.mem z (by rw [hA]; exact List.mem_append_right _ (List.mem_append_right _ h''))
  · exact (hkp.block pb hpl (fun hm => M.pbn (hkm pb hm))).trans M.pbc
  · intro hm
    rw [hA'] at hm
    rcases List.mem_append.1 hm with h' | h'
    · exact M.pbn (by rw [hA]; exact List.mem_append_left _ h')
    · rcases List.mem_append.1 h' with h'' | h''
      · rcases hin pb (List.mem_append_left _ h'') with h3 | h3
        · exact M.pbn (hkm pb h3)
        · omega
      · exact M.pbn (by rw [hA]; exact List.mem_append_right _ (List.mem_append_right _ h''))
  · intro z hz
    rcases hin z (List.mem_append_right _ hz) with h3 | h3
    · exact M.mem z (hkm z h3)
    · exact Or.inr (Nat.le_trans hWs h3)
  · intro hm
    rcases hin pb (List.mem_append_right _ hm) with h3 | h3
    · exact M.pbn (hkm pb h3)
    · omega

end Go.Proofs.Qxb6616513a
