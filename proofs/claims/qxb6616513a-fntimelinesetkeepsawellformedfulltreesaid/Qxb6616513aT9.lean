import Derived.Test.Qxb6616513aT8
import Derived.Deep.CutRange
namespace Go.Proofs.Qxb6616513a
open Go.RowKit

attribute [local go_sem] run_store_f

theorem SetPost.alloc {h : Nat} {t : HT h} {p : Int × Nat} {w : World} {o : Obj} {e : Ending} {w' : World} (hs : SetPost h t p (w.alloc o) e w') : SetPost h t p w e w' := by
  obtain ⟨t', os, a1, a2, a3, a4, a5, a6, a7, a8⟩ := hs
  refine ⟨t', os, a1, a2, a3, a4, a5, (alloc_keeps w o _).trans a6 (fun z hz => Or.inl hz), a7, fun z hz => ?_⟩
  rcases a8 z hz with h' | h'
  · exact Or.inl h'
  · right; simp at h'; omega

set_option maxRecDepth 100000 in
theorem set_leaf (t : HT 0) (x : Int) (y : Nat) (w : World) (ha : At w 0 t) (hok : Ok 0 (er 0 t)) (hnd : (foot 0 t).Nodup) :
    Calls Try.prog 43 #[.pointer (some ⟨blk 0 t, 0, none⟩), .agg #[.int .i64 x, .float .f64 y]] w (SetPost 0 t (x, y) w) := by
  obtain ⟨b, v, ps⟩ := t
  have ha0 : At (w.alloc (.cells #[.int .i64 x, .float .f64 y] 63)) 0 (b, v, ps) := (alloc_keeps w _ []).at ha (by simp)
  obtain ⟨c0, c1, -, -⟩ := leaf_cells ha0
  have q := setInLeaf_any b v ps x y (w.alloc (.cells #[.int .i64 x, .float .f64 y] 63)) ha0 hok hnd
  show Calls Try.prog 43 #[.pointer (some ⟨b, 0, none⟩), .agg #[.int .i64 x, .float .f64 y]] w (SetPost 0 (b, v, ps) (x, y) w)
  clear ha0 ha
  go_enter Try.func43, Try.ntmps43
  go_wp2_with fail
  refine q.mono ?_
  rintro e w' hs
  obtain ⟨v', rfl⟩ : ∃ v', e = .returned v' := by
    obtain ⟨t', os, _, _, _, a4, _⟩ := hs
    exact ⟨_, a4⟩
  have HS : Hid (SetPost 0 (b, v, ps) (x, y) w (.returned v') w') := hs.alloc
  clear hs q
  go_wp2_with fail
  go_ret
  exact HS.out

/-- How many points a node holds itself: its first cell. -/
theorem pts_cell {w : World} (h : Nat) (t : HT h) (ha : At w h t) : ∃ a c, w.cell? ⟨blk h t, 0, none⟩ = some (.slice a (nPts h (er h t)) c) := by
  cases h with
  | zero =>
    obtain ⟨b, v, ps⟩ := t
    obtain ⟨c0, _, _, hv⟩ := leaf_cells ha
    rcases hv with ⟨rfl, rfl⟩ | ⟨g, cap, rfl, _⟩
    · exact ⟨none, 0, c0⟩
    · exact ⟨_, _, c0⟩
  | succ h =>
    obtain ⟨b, v, ks⟩ := t
    obtain ⟨c0, _⟩ := node_cells ha
    exact ⟨none, 0, c0⟩

theorem childIdx_lt {zs : List Int} {t : Int} (h : zs ≠ []) : childIdx zs t < zs.length := by
  have h1 : (zs.takeWhile fun z => decide (z ≤ t)).length ≤ zs.length := (List.takeWhile_prefix _).length_le
  have h2 : 0 < zs.length := List.length_pos_iff.2 h
  unfold childIdx
  omega

theorem map_fst {h : Nat} (ks : List (Int × HT h)) : (ks.map fun k => (k.1, er h k.2)).map (·.1) = ks.map (·.1) := by
  rw [List.map_map]; rfl

/-- The kid that takes the point, told of the tree in memory. -/
def kidM (h : Nat) (ks : List (Int × HT h)) (x : Int) : Nat := kidAt h (ks.map fun k => (k.1, er h k.2)) x

theorem kidM_eq {h : Nat} {ks : List (Int × HT h)} {x : Int} {i : Nat} (hi : childIdx (ks.map (·.1)) x = i) :
    (¬ i + 1 < ks.length → kidM h ks x = i) ∧ ∀ k k', ks[i]? = some k → ks[i + 1]? = some k' → kidM h ks x = if full h (er h k.2) x = true ∧ nPts h (er h k'.2) < 128 then i + 1 else i := by
  unfold kidM kidAt
  rw [map_fst, hi]
  dsimp only
  refine ⟨fun hn => ?_, fun k k' hk hk' => ?_⟩
  · rw [List.getElem?_eq_none (l := ks.map fun k => (k.1, er h k.2)) (i := i + 1) (by simpa using hn)]
    split <;> simp_all
  · rw [List.getElem?_map, List.getElem?_map, hk, hk']
    rfl

theorem er_succ (h b : Nat) (v : Value) (ks : List (Int × HT h)) : er (h + 1) (b, v, ks) = ks.map fun k => (k.1, er h k.2) := rfl

/-- An inner node, its kid having been set. -/
def nodeSet (h : Nat) (l : List (Int × T h)) (i : Nat) (k : Int × T h) (p : Int × Nat) (r : T h × Option (T h)) : List (Int × T h) × Option (List (Int × T h)) :=
  match r.2 with
  | none => (l.set i (min k.1 p.1, r.1), none)
  | some s => if (ins (i + 1) (fst h s, s) (l.set i (min k.1 p.1, r.1))).length ≤ 64 then (ins (i + 1) (fst h s, s) (l.set i (min k.1 p.1, r.1)), none)
    else ((ins (i + 1) (fst h s, s) (l.set i (min k.1 p.1, r.1))).take ((ins (i + 1) (fst h s, s) (l.set i (min k.1 p.1, r.1))).length / 2), some ((ins (i + 1) (fst h s, s) (l.set i (min k.1 p.1, r.1))).drop ((ins (i + 1) (fst h s, s) (l.set i (min k.1 p.1, r.1))).length / 2)))

theorem setT_node (h : Nat) (l : List (Int × T h)) (p : Int × Nat) : setT (h + 1) l p = (match l[kidAt h l p.1]? with | none => ((l, none) : List (Int × T h) × Option (List (Int × T h))) | some k => nodeSet h l (kidAt h l p.1) k p (setT h k.2 p)) := by
  rfl

theorem setT_succ (h b : Nat) (v : Value) (ks : List (Int × HT h)) (p : Int × Nat) (k : Int × HT h) (hk : ks[kidM h ks p.1]? = some k) :
    setT (h + 1) (er (h + 1) (b, v, ks)) p = nodeSet h (ks.map fun k => (k.1, er h k.2)) (kidM h ks p.1) (k.1, er h k.2) p (setT h (er h k.2) p) := by
  have hk' : (ks.map fun k => (k.1, er h k.2))[kidAt h (ks.map fun k => (k.1, er h k.2)) p.1]? = some (k.1, er h k.2) := by
    rw [List.getElem?_map]; unfold kidM at hk; rw [hk]; rfl
  have := setT_node h (ks.map fun k => (k.1, er h k.2)) p
  rw [hk'] at this
  exact this

theorem map_set_er {h : Nat} (ks : List (Int × HT h)) (i : Nat) (m : Int) (t' : HT h) : (ks.map fun k => (k.1, er h k.2)).set i (m, er h t') = (ks.set i (m, t')).map fun k => (k.1, er h k.2) := by
  rw [List.map_set]
theorem map_ins_er {h : Nat} (ks : List (Int × HT h)) (i : Nat) (f : Int) (s : HT h) : ins i (f, er h s) (ks.map fun k => (k.1, er h k.2)) = (ins i (f, s) ks).map fun k => (k.1, er h k.2) := by
  simp [ins, List.map_take, List.map_drop]

theorem setT_none {h b : Nat} {v v' : Value} {ks : List (Int × HT h)} {x : Int} {y i : Nat} {k : Int × HT h} {t' : HT h} (hi : kidM h ks x = i) (hk : ks[i]? = some k) (hs : setT h (er h k.2) (x, y) = (er h t', none)) :
    setT (h + 1) (er (h + 1) (b, v, ks)) (x, y) = (er (h + 1) (b, v', ks.set i (min k.1 x, t')), none) := by
  rw [setT_succ h b v ks (x, y) k (by rw [hi]; exact hk), hs, hi]
  unfold nodeSet
  dsimp only
  rw [map_set_er]
  rfl

theorem setT_room {h b : Nat} {v v' : Value} {ks : List (Int × HT h)} {x : Int} {y i : Nat} {k : Int × HT h} {t' s : HT h} (hi : kidM h ks x = i) (hk : ks[i]? = some k) (hs : setT h (er h k.2) (x, y) = (er h t', some (er h s))) (hl : ks.length + 1 ≤ 64) :
    setT (h + 1) (er (h + 1) (b, v, ks)) (x, y) = (er (h + 1) (b, v', ins (i + 1) (fst h (er h s), s) (ks.set i (min k.1 x, t'))), none) := by
  rw [setT_succ h b v ks (x, y) k (by rw [hi]; exact hk), hs, hi]
  unfold nodeSet
  dsimp only
  rw [map_set_er, map_ins_er, if_pos (by simp [ins_length]; omega)]
  rfl

theorem setT_full {h b s2 : Nat} {v v' v2 : Value} {ks : List (Int × HT h)} {x : Int} {y i : Nat} {k : Int × HT h} {t' s : HT h} (hi : kidM h ks x = i) (hk : ks[i]? = some k) (hs : setT h (er h k.2) (x, y) = (er h t', some (er h s))) (hl : ks.length = 64) :
    setT (h + 1) (er (h + 1) (b, v, ks)) (x, y) = (er (h + 1) (b, v', (ins (i + 1) (fst h (er h s), s) (ks.set i (min k.1 x, t'))).take 32), some (er (h + 1) (s2, v2, (ins (i + 1) (fst h (er h s), s) (ks.set i (min k.1 x, t'))).drop 32))) := by
  rw [setT_succ h b v ks (x, y) k (by rw [hi]; exact hk), hs, hi]
  unfold nodeSet
  dsimp only
  have h65 : (ins (i + 1) (fst h (er h s), s) (ks.set i (min k.1 x, t'))).length = 65 := by rw [ins_length, List.length_set, hl]
  rw [map_set_er, map_ins_er, if_neg (by rw [List.length_map, h65]; omega), List.length_map, h65, er_succ, er_succ, List.map_take, List.map_drop]
  rfl

end Go.Proofs.Qxb6616513a
