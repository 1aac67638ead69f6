import Derived.Test.Qxb6616513aT4
import Derived.Deep.RegionHeld3
namespace Go.Proofs.Qxb6616513a
open Go.RowKit

theorem run_store_f {P : Program} {w : World} {a : Addr} {m : Mode} (k : FloatKind) (b : Nat) : (store a (.float k b) m).run P w = stored P w a (.float k b) m := run_store P w a _ m rfl
attribute [local go_sem] run_store_f

theorem below_of_drew {B : Nat} {w w' : World} (h : Below B w.drew w') : Below B w w' := ⟨h.os, h.tape, h.output, h.size, h.block⟩

/-- Two worlds that differ in the draws alone. -/
structure SameH (w w' : World) : Prop where
  os : w'.os = w.os
  tape : w'.tape = w.tape
  output : w'.output = w.output
  heap : w'.heap = w.heap
theorem SameH.at {w w' : World} (s : SameH w w') {h : Nat} {t : HT h} (ha : At w h t) : At w' h t := At.same h t ha fun b _ => by rw [s.heap]
theorem SameH.keeps {F : List Nat} {w0 w w' : World} (s : SameH w w') (h : Keeps F w0 w) : Keeps F w0 w' := ⟨s.os.trans h.os, s.tape.trans h.tape, s.output.trans h.output, by rw [s.heap]; exact h.size, fun k hk hn => by rw [s.heap]; exact h.block k hk hn⟩
theorem SameH.row {w w' : World} (s : SameH w w') {base : Nat} {e : TypeId} {size : Nat} {v : Value} {n : Nat} {xs : List Value} (h : w.ownsRow base e size v n xs) : w'.ownsRow base e size v n xs := ownsRow_same h fun b _ => by rw [s.heap]

def footO (h : Nat) : Option (HT h) → List Nat
  | none => []
  | some s => foot h s

/-- What a 'set' under the node at t leaves. -/
def SetPost (h : Nat) (t : HT h) (p : Int × Nat) (w : World) (e : Ending) (w' : World) : Prop :=
  ∃ (t' : HT h) (os : Option (HT h)), blk h t' = blk h t ∧ At w' h t' ∧ setT h (er h t) p = (er h t', os.map (er h)) ∧ e = .returned (.pointer (os.map fun s => ⟨blk h s, 0, none⟩)) ∧ (∀ s, os = some s → At w' h s) ∧
    Keeps (foot h t) w w' ∧ (foot h t' ++ footO h os).Nodup ∧ ∀ b ∈ foot h t' ++ footO h os, b ∈ foot h t ∨ w.heap.size ≤ b

/-- What stands behind 'find'. -/
structure Mid (w w8 : World) (b : Nat) (v : Value) (ps : List (Int × Nat)) (pb : Nat) (x : Int) (y : Nat) : Prop where
  keeps : Keeps [] w w8
  at' : At w8 0 (b, v, ps)
  pbc : w8.heap[pb]? = some (.cells #[.int .i64 x, .float .f64 y] 63 (0, 0))
  fresh : w.heap.size ≤ pb
  lt : ∀ k ∈ foot 0 (b, v, ps), k < w.heap.size
  nd : (foot 0 (b, v, ps)).Nodup

theorem cells_set0 {w : World} {b : Nat} {v k u : Value} {ty : TypeId} (h : w.heap[b]? = some (.cells #[v, k] ty (0, 0))) : (w.setCell ⟨b, 0, none⟩ u).heap[b]? = some (.cells #[u, k] ty (0, 0)) := by
  rw [heap_setCell_same w b 0 _ ty u h]; rfl
theorem cells_set1 {w : World} {b : Nat} {v k u : Value} {ty : TypeId} (h : w.heap[b]? = some (.cells #[v, k] ty (0, 0))) : (w.setCell ⟨b, 1, none⟩ u).heap[b]? = some (.cells #[v, u] ty (0, 0)) := by
  rw [heap_setCell_same w b 1 _ ty u h]; rfl

theorem foot0_nd {b : Nat} {v : Value} {ps : List (Int × Nat)} (h : v.ownBlock ≠ some b) : (foot 0 (b, v, ps)).Nodup := by
  simp only [foot]
  cases hv : v.ownBlock with
  | none => simp
  | some g =>
    have : b ≠ g := fun e => h (by rw [hv, e])
    simpa using this
theorem nd_foot0 {b : Nat} {v : Value} {ps : List (Int × Nat)} (h : (foot 0 (b, v, ps)).Nodup) : v.ownBlock ≠ some b := by
  intro e
  simp [foot, e] at h

/-- The value of a point that is there already is put in its place. -/
theorem leafA {w w8 wf : World} {b g cap pb i : Nat} {ps : List (Int × Nat)} {x : Int} {y : Nat} (M : Mid w w8 b (.slice (some ⟨g, 0, none⟩) ps.length cap) ps pb x y) (hi : place (ps.map (·.1)) x = i) (hf : ps[i]?.map (·.1) = some x)
    (hS : SameH (w8.setCell ⟨g, i * 2 + 1, none⟩ (.float .f64 y)) wf) : SetPost 0 (b, .slice (some ⟨g, 0, none⟩) ps.length cap, ps) (x, y) w (.returned (.pointer none)) wf := by
  obtain ⟨⟨ty, hb⟩, hr⟩ := M.at'
  change w8.heap[b]? = _ at hb
  change w8.ownsRow 0 63 2 _ ps.length (encP ps) at hr
  have hne : b ≠ g := fun e => nd_foot0 M.nd (by rw [e]; rfl)
  obtain ⟨q, hq⟩ : ∃ q, ps[i]? = some q := by
    cases h : ps[i]? with
    | none => rw [h] at hf; simp at hf
    | some q => exact ⟨q, rfl⟩
  have hq1 : q.1 = x := by rw [hq] at hf; simpa using hf
  refine ⟨(b, .slice (some ⟨g, 0, none⟩) ps.length cap, ps.set i (x, y)), none, rfl, hS.at ⟨⟨ty, ?_⟩, ?_⟩, ?_, rfl, ?_, hS.keeps ?_, ?_, ?_⟩
  · exact (Below.heap_setCell w8 _ _ b hne).trans hb
  · have h1 := (hr.stored (i * 2 + 1) (.float .f64 y)).1
    unfold encP at h1
    rw [pairs_set1 (fun p : Int × Nat => .int .i64 p.1) (fun p : Int × Nat => .float .f64 p.2) ps i q (x, y) hq (by rw [hq1])] at h1
    show (w8.setCell ⟨g, i * 2 + 1, none⟩ (.float .f64 y)).ownsRow 0 63 2 (.slice (some ⟨g, 0, none⟩) ps.length cap) (ps.set i (x, y)).length (encP (ps.set i (x, y)))
    rw [List.length_set]
    exact h1
  · show leafSet ps (x, y) = _
    unfold leafSet
    simp only [hi]
    rw [if_pos hf]
    rfl
  · intro s h; cases h
  · exact (M.keeps.mono (by simp)).trans (setCell_keeps w8 _ _ _ (by simp [foot, Value.ownBlock])) (fun z hz => Or.inl hz)
  · simpa [footO, foot] using M.nd
  · intro z hz; left; simpa [footO, foot] using hz

theorem row_slice {w : World} {base : Nat} {e : TypeId} {size : Nat} {v : Value} {n : Nat} {xs : List Value} (h : w.ownsRow base e size v n xs) (hn : 0 < n) : ∃ g cap, v = .slice (some ⟨g, 0, none⟩) n cap ∧ n ≤ cap ∧ base ≤ g := by
  rcases h.2 with ⟨_, h0⟩ | ⟨g, cap, cur, rfl, hb, hg, hnc, _⟩
  · omega
  · exact ⟨g, cap, rfl, hnc, hb⟩

/-- A row that came by way of slices.Insert is laid into the leaf. -/
theorem leaf_laid {w8 w9 w10 : World} {b : Nat} {v v' : Value} {ps ps' : List (Int × Nat)} {news : List Value} {i : Nat} {o : Obj} (ha : At w8 0 (b, v, ps)) (hne : v.ownBlock ≠ some b) (h9 : w9 = w8.alloc o)
    (hrow : w10.ownsRow 0 63 2 v' (ps.length + 1) ((encP ps).take (i * 2) ++ news ++ (encP ps).drop (i * 2))) (hnews : (encP ps).take (i * 2) ++ news ++ (encP ps).drop (i * 2) = encP ps') (hl : ps'.length = ps.length + 1)
    (hg : w9.grownBy w10 v.ownBlock) (hm : Moved w9 v v') : At (w10.setCell ⟨b, 0, none⟩ v') 0 (b, v', ps') ∧ Keeps (foot 0 (b, v, ps)) w8 (w10.setCell ⟨b, 0, none⟩ v') ∧ (foot 0 (b, v', ps')).Nodup ∧ ∀ k ∈ foot 0 (b, v', ps'), k ∈ foot 0 (b, v, ps) ∨ w8.heap.size ≤ k := by
  obtain ⟨⟨ty, hb⟩, hr⟩ := ha
  change w8.heap[b]? = some (.cells #[v, .slice none 0 0] ty (0, 0)) at hb
  have hbl : b < w8.heap.size := (Array.getElem?_eq_some_iff.1 hb).1
  have hs9 : w9.heap.size = w8.heap.size + 1 := by rw [h9]; simp
  have hb9 : w9.heap[b]? = some (.cells #[v, .slice none 0 0] ty (0, 0)) := by rw [h9]; exact (Below.heap_alloc w8 _ b hbl).trans hb
  have hb10 : w10.heap[b]? = some (.cells #[v, .slice none 0 0] ty (0, 0)) := (hg.block b (by omega) (fun e => hne e.symm)).trans hb9
  have hv' : v'.ownBlock ≠ some b := by
    rcases hm with h | ⟨g, hge, h⟩
    · rw [h]; exact hne
    · rw [h]; intro e; have := Option.some.inj e; omega
  refine ⟨⟨⟨ty, cells_set0 hb10⟩, ?_⟩, ?_, foot0_nd hv', ?_⟩
  · show (w10.setCell ⟨b, 0, none⟩ v').ownsRow 0 63 2 v' ps'.length (encP ps')
    rw [hl, ← hnews]
    exact ownsRow_same hrow fun k hk => Below.heap_setCell w10 _ _ k (fun e => hv' (by rw [hk, e]))
  · have k1 : Keeps (foot 0 (b, v, ps)) w8 w9 := by rw [h9]; exact alloc_keeps w8 _ _
    exact (k1.trans (grown_keeps hg _ (fun k hk => by simp [foot, hk])) (fun z hz => Or.inl hz)).trans (setCell_keeps w10 _ _ _ (by simp [foot])) (fun z hz => Or.inl hz)
  · intro k hk
    simp only [foot, List.mem_cons, Option.mem_toList] at hk
    rcases hk with rfl | hk
    · left; simp [foot]
    · rcases hm with h | ⟨g, hge, h⟩
      · left; rw [h] at hk; simp [foot, hk]
      · right
        rw [h] at hk
        have := Option.some.inj hk
        omega

/-- A point is put in; the leaf has room. -/
theorem leafB {w w8 w10 wf : World} {b pb i : Nat} {v v' : Value} {ps : List (Int × Nat)} {x : Int} {y : Nat} (M : Mid w w8 b v ps pb x y) (hi : place (ps.map (·.1)) x = i) (hf : ¬ ps[i]?.map (·.1) = some x) (hl : ps.length < 128)
    (hI : InsPost (w8.alloc (.cells #[.int .i64 x, .float .f64 y] 63)) 63 v ps.length i (encP ps) [.int .i64 x, .float .f64 y] (.returned v') w10)
    (hS : SameH (w10.setCell ⟨b, 0, none⟩ v') wf) : SetPost 0 (b, v, ps) (x, y) w (.returned (.pointer none)) wf := by
  obtain ⟨v'', hv, hrow, hg, hm⟩ := hI
  obtain rfl : v' = v'' := by simpa using hv
  obtain ⟨a1, a2, a3, a4⟩ := leaf_laid (ps' := ins i (x, y) ps) M.at' (nd_foot0 M.nd) rfl hrow (pairs_ins _ _ i (x, y) ps).symm (ins_length _ _ _) hg hm
  refine ⟨(b, v', ins i (x, y) ps), none, rfl, hS.at a1, ?_, rfl, ?_, hS.keeps ((M.keeps.mono (by simp)).trans a2 (fun z hz => Or.inl hz)), ?_, ?_⟩
  · show leafSet ps (x, y) = _
    unfold leafSet
    simp only [hi]
    rw [if_neg hf, if_pos hl]
    rfl
  · intro s h; cases h
  · simpa [footO] using a3
  · intro z hz
    rcases a4 z (by simpa [footO] using hz) with h | h
    · exact Or.inl h
    · exact Or.inr (Nat.le_trans M.keeps.size h)

/-- Two leaves in the place of one. -/
theorem leafTwo {w wf : World} {b s : Nat} {v vL vR : Value} {ps psL psR : List (Int × Nat)} {x : Int} {y : Nat} (hL : At wf 0 (b, vL, psL)) (hR : At wf 0 (s, vR, psR)) (hset : leafSet ps (x, y) = (psL, some psR))
    (hk : Keeps (foot 0 (b, v, ps)) w wf) (hnd : (foot 0 (b, vL, psL) ++ foot 0 (s, vR, psR)).Nodup) (hin : ∀ k ∈ foot 0 (b, vL, psL) ++ foot 0 (s, vR, psR), k ∈ foot 0 (b, v, ps) ∨ w.heap.size ≤ k) :
    SetPost 0 (b, v, ps) (x, y) w (.returned (.pointer (some ⟨s, 0, none⟩))) wf :=
  ⟨(b, vL, psL), some (s, vR, psR), rfl, hL, hset, rfl, fun s' h => by cases h; exact hR, hk, hnd, hin⟩

/-- Four blocks, apart. -/
theorem two_nd {b s : Nat} {vL vR : Value} {psL psR : List (Int × Nat)} (h1 : vL.ownBlock ≠ some b) (h2 : vR.ownBlock ≠ some s) (h3 : b ≠ s) (h4 : vR.ownBlock ≠ some b) (h5 : vL.ownBlock ≠ some s) (h6 : vL.ownBlock = none ∨ vL.ownBlock ≠ vR.ownBlock) :
    (foot 0 (b, vL, psL) ++ foot 0 (s, vR, psR)).Nodup := by
  simp only [foot]
  cases hl : vL.ownBlock with
  | none =>
    cases hr : vR.ownBlock with
    | none => simpa using h3
    | some r =>
      rw [hr] at h2 h4
      have a1 : s ≠ r := fun e => h2 (by rw [e])
      have a2 : b ≠ r := fun e => h4 (by rw [e])
      simp [h3, a1, a2]
  | some l =>
    rw [hl] at h1 h5 h6
    have a3 : b ≠ l := fun e => h1 (by rw [e])
    have a4 : l ≠ s := fun e => h5 (by rw [e])
    cases hr : vR.ownBlock with
    | none => simp [h3, a3, a4]
    | some r =>
      rw [hr] at h2 h4 h6
      have a1 : s ≠ r := fun e => h2 (by rw [e])
      have a2 : b ≠ r := fun e => h4 (by rw [e])
      have a5 : l ≠ r := fun e => by
        rcases h6 with h | h
        · cases h
        · exact h (by rw [e])
      simp [h3, a1, a2, a3, a4, a5]

/-- The point starts a leaf of its own, behind a full one. -/
theorem leafC {w w8 wf : World} {b pb s r : Nat} {v : Value} {ps : List (Int × Nat)} {x : Int} {y : Nat} {ty : TypeId} {cur : Array Value} {cap : Nat} (M : Mid w w8 b v ps pb x y) (hi : place (ps.map (·.1)) x = ps.length) (hf : ¬ ps[ps.length]?.map (·.1) = some x) (hl : ps.length = 128)
    (hB : Below w8.heap.size w8 wf) (hs : wf.heap[s]? = some (.cells #[.slice (some ⟨r, 0, none⟩) 1 cap, .slice none 0 0] ty (0, 0))) (hr : wf.heap[r]? = some (.cells cur 63 (0, 0))) (hcap : 1 ≤ cap) (hcm : cap ≤ maxLen) (hcs : cur.size = cap * 2) (htk : cur.toList.take 2 = [.int .i64 x, .float .f64 y])
    (h1 : w8.heap.size ≤ s) (h2 : w8.heap.size ≤ r) (h3 : s ≠ r) : SetPost 0 (b, v, ps) (x, y) w (.returned (.pointer (some ⟨s, 0, none⟩))) wf := by
  have hlt := M.lt
  have hsz := M.keeps.size
  have hbl : b < w.heap.size := hlt b (by simp [foot])
  have hvl : ∀ k, v.ownBlock = some k → k < w.heap.size := fun k hk => hlt k (by simp [foot, hk])
  refine leafTwo (vL := v) (psL := ps) (vR := .slice (some ⟨r, 0, none⟩) 1 cap) (psR := [(x, y)]) ((Below.keeps hB []).at M.at' (by simp)) ⟨⟨ty, hs⟩, rfl, .inr ⟨r, cap, cur, rfl, Nat.zero_le _, hr, hcap, hcm, hcs, htk⟩⟩ ?_ ?_ ?_ ?_
  · unfold leafSet
    simp only [hi]
    rw [if_neg hf, if_neg (by omega), if_pos trivial]
  · exact ((M.keeps.mono (by simp)).trans (Below.keeps hB []) (by simp))
  · refine two_nd (nd_foot0 M.nd) ?_ (by omega) ?_ ?_ ?_
    · intro e; exact h3 (Option.some.inj e).symm
    · intro e; have := Option.some.inj e; simp at this; omega
    · intro e; have := hvl s e; omega
    · cases hv : v.ownBlock with
      | none => exact Or.inl rfl
      | some k => right; intro e; have h7 := hvl k hv; have h8 : k = r := Option.some.inj e; omega
  · intro k hk
    simp only [List.mem_append] at hk
    rcases hk with hk | hk
    · exact Or.inl hk
    · right
      simp [foot, Value.ownBlock] at hk
      omega

/-- The point starts a leaf of its own, ahead of a full one. -/
theorem leafD {w w8 wf : World} {b pb g cap : Nat} {ps : List (Int × Nat)} {x : Int} {y : Nat} (M : Mid w w8 b (.slice (some ⟨g, 0, none⟩) ps.length cap) ps pb x y) (hi : place (ps.map (·.1)) x = 0) (hf : ¬ ps[0]?.map (·.1) = some x) (hl : ps.length = 128)
    (hS : SameH (((w8.setCell ⟨b, 0, none⟩ (.slice (some ⟨w8.heap.size + 1, 0, none⟩) 1 1)).alloc (.cells #[.slice (some ⟨g, 0, none⟩) ps.length cap, .slice none 0 0] 58)).alloc (.cells #[.int .i64 x, .float .f64 y] 63)) wf) :
    SetPost 0 (b, .slice (some ⟨g, 0, none⟩) ps.length cap, ps) (x, y) w (.returned (.pointer (some ⟨w8.heap.size, 0, none⟩))) wf := by
  have hlt := M.lt
  have hsz := M.keeps.size
  have hbl : b < w.heap.size := hlt b (by simp [foot])
  have hgl : g < w.heap.size := hlt g (by simp [foot, Value.ownBlock])
  have hbg : b ≠ g := fun e => nd_foot0 M.nd (by rw [e]; rfl)
  obtain ⟨⟨ty, hb⟩, hr⟩ := M.at'
  change w8.heap[b]? = _ at hb
  have s1 : (w8.setCell ⟨b, 0, none⟩ (.slice (some ⟨w8.heap.size + 1, 0, none⟩) 1 1)).heap.size = w8.heap.size := by simp
  obtain ⟨W1, hW1⟩ : ∃ W1, W1 = w8.setCell ⟨b, 0, none⟩ (.slice (some ⟨w8.heap.size + 1, 0, none⟩) 1 1) := ⟨_, rfl⟩
  have hb1 : W1.heap[b]? = some (.cells #[.slice (some ⟨w8.heap.size + 1, 0, none⟩) 1 1, .slice none 0 0] ty (0, 0)) := by rw [hW1]; exact cells_set0 hb
  have hr1 : W1.ownsRow 0 63 2 (.slice (some ⟨g, 0, none⟩) ps.length cap) ps.length (encP ps) := by
    rw [hW1]
    exact ownsRow_same hr fun k hk => Below.heap_setCell w8 _ _ k (fun e => by
      have h1 : g = k := Option.some.inj hk
      have h2 : k = b := e
      omega)
  have hk1 : Keeps (foot 0 (b, .slice (some ⟨g, 0, none⟩) ps.length cap, ps)) w8 W1 := by rw [hW1]; exact setCell_keeps w8 _ _ _ (by simp [foot])
  rw [← hW1] at hS s1
  obtain ⟨W2, hW2⟩ : ∃ W2, W2 = W1.alloc (.cells #[.slice (some ⟨g, 0, none⟩) ps.length cap, .slice none 0 0] 58) := ⟨_, rfl⟩
  have s2 : W2.heap.size = w8.heap.size + 1 := by rw [hW2]; simp [s1]
  have hB2 : Below W1.heap.size W1 W2 := by rw [hW2]; exact (Below.refl _ _).alloc (Nat.le_refl _) _
  have hs2 : W2.heap[w8.heap.size]? = some (.cells #[.slice (some ⟨g, 0, none⟩) ps.length cap, .slice none 0 0] 58 (0, 0)) := by rw [hW2, ← s1]; exact heap_alloc_new W1 _
  rw [← hW2] at hS
  have hB3 : Below W2.heap.size W2 (W2.alloc (.cells #[.int .i64 x, .float .f64 y] 63)) := (Below.refl _ _).alloc (Nat.le_refl _) _
  have hr3 : (W2.alloc (.cells #[.int .i64 x, .float .f64 y] 63)).heap[w8.heap.size + 1]? = some (.cells #[.int .i64 x, .float .f64 y] 63 (0, 0)) := by rw [← s2]; exact heap_alloc_new W2 _
  refine leafTwo (vL := .slice (some ⟨w8.heap.size + 1, 0, none⟩) 1 1) (psL := [(x, y)]) (vR := .slice (some ⟨g, 0, none⟩) ps.length cap) (psR := ps) (hS.at ⟨⟨ty, ?_⟩, ?_⟩) (hS.at ⟨⟨58, ?_⟩, ?_⟩) ?_ (hS.keeps ?_) ?_ ?_
  · exact (hB3.block b (by omega)).trans ((hB2.block b (by omega)).trans hb1)
  · exact ⟨rfl, .inr ⟨_, 1, _, rfl, Nat.zero_le _, hr3, Nat.le_refl _, by unfold maxLen; omega, rfl, rfl⟩⟩
  · exact (hB3.block _ (by omega)).trans hs2
  · refine ownsRow_same hr1 fun k hk => ?_
    have h1 : g = k := Option.some.inj hk
    exact (hB3.block k (by omega)).trans (hB2.block k (by omega))
  · unfold leafSet
    simp only [hi]
    rw [if_neg hf, if_neg (by omega), if_neg (by omega), if_pos trivial]
  · exact (((M.keeps.mono (by simp)).trans hk1 (fun z hz => Or.inl hz)).trans (Below.keeps hB2 []) (by simp)).trans (Below.keeps hB3 []) (by simp)
  · refine two_nd ?_ ?_ (by omega) ?_ ?_ (Or.inr ?_)
    · intro e; have := Option.some.inj e; simp at this; omega
    · intro e; have := Option.some.inj e; simp at this; omega
    · intro e; exact hbg (Option.some.inj e).symm
    · intro e; have := Option.some.inj e; simp at this
    · intro e; have := Option.some.inj e; simp at this; omega
  · intro k hk
    simp [foot, Value.ownBlock] at hk
    rcases hk with rfl | rfl | rfl | rfl
    · left; simp [foot]
    · right; omega
    · right; omega
    · left; simp [foot, Value.ownBlock]

/-- An append as one step of a region that draws, its run being known. -/
theorem step_append_runI {P : Program} {ops : Array Oper} {o : Oper} {a : Act} {w : World} {K : Act → World → Prop} {Q : Exit → Act → World → Prop} {E : Prop}
    (hg : o.guard = none) (d x : Operand) (dT sT : TypeId) (hop : o.op = Op.call { callee := Callee.builtin Builtin.append, args := #[d, x], argTypes := #[dT, sT] })
    (v u : Value) (hd : a.eval d = v) (hx : a.eval x = u) {v' : Value} {w' : World} (hr : (Builtin.append_ #[dT, sT] o.type #[v, u]).run P w = .ok v' w') (hK : K (a.put o.dst v') w') :
    if Region.wanted o (yielded ops a.tmps) = true then Oper.wp P o a w K Q else E := by
  have hw : Region.wanted o (yielded ops a.tmps) = true := by simp [Region.wanted, hg]
  rw [if_pos hw]
  unfold Oper.wp
  simp [execOp, hop, resolve, invoke, builtin, hd, hx, hr, Result.andThen]
  exact hK

/-- A leaf parted in two, the point not put in yet. -/
structure Spl (w w11 : World) (b s : Nat) (v vL vR : Value) (ps psL psR : List (Int × Nat)) (pb : Nat) (x : Int) (y : Nat) : Prop where
  atL : At w11 0 (b, vL, psL)
  atR : At w11 0 (s, vR, psR)
  keeps : Keeps (foot 0 (b, v, ps)) w w11
  nd : (foot 0 (b, vL, psL) ++ foot 0 (s, vR, psR)).Nodup
  mem : ∀ k ∈ foot 0 (b, vL, psL) ++ foot 0 (s, vR, psR), k ∈ foot 0 (b, v, ps) ∨ w.heap.size ≤ k
  pbc : w11.heap[pb]? = some (.cells #[.int .i64 x, .float .f64 y] 63 (0, 0))
  pbn : pb ∉ foot 0 (b, vL, psL) ++ foot 0 (s, vR, psR)

theorem leaf_frozen {w : World} {b : Nat} {v : Value} {ps : List (Int × Nat)} (ha : At w 0 (b, v, ps)) : w.frozen? ⟨b, 0, none⟩ = false := by
  obtain ⟨⟨ty, hb⟩, _⟩ := ha
  change w.heap[b]? = _ at hb
  simp [World.frozen?, hb]

theorem leafE1 {w w11 w13 wf : World} {b s i pb : Nat} {v vL vR v' : Value} {ps psL psR : List (Int × Nat)} {x : Int} {y : Nat} (S : Spl w w11 b s v vL vR ps psL psR pb x y) (hset : leafSet ps (x, y) = (ins i (x, y) psL, some psR))
    (hI : InsPost (w11.alloc (.cells #[.int .i64 x, .float .f64 y] 63)) 63 vL psL.length i (encP psL) [.int .i64 x, .float .f64 y] (.returned v') w13) (hS : SameH (w13.setCell ⟨b, 0, none⟩ v') wf) :
    SetPost 0 (b, v, ps) (x, y) w (.returned (.pointer (some ⟨s, 0, none⟩))) wf := by
  obtain ⟨v'', hv, hrow, hg, hm⟩ := hI
  obtain rfl : v' = v'' := by simpa using hv
  obtain ⟨n1, n2, n3⟩ := List.nodup_append.1 S.nd
  obtain ⟨a1, a2, a3, a4⟩ := leaf_laid (ps' := ins i (x, y) psL) S.atL (nd_foot0 n1) rfl hrow (pairs_ins _ _ i (x, y) psL).symm (ins_length _ _ _) hg hm
  refine leafTwo (vL := v') (psL := ins i (x, y) psL) (vR := vR) (psR := psR) (hS.at a1) (hS.at (a2.at S.atR fun k hk h => n3 k h k hk rfl)) hset (hS.keeps (S.keeps.trans a2 fun k hk => S.mem k (List.mem_append_left _ hk))) ?_ ?_
  · refine List.nodup_append.2 ⟨a3, n2, fun k hk k' hk' e => ?_⟩
    subst e
    rcases a4 k hk with h | h
    · exact n3 k h k hk' rfl
    · have := At.lt 0 _ S.atR k hk'; omega
  · intro k hk
    rcases List.mem_append.1 hk with h | h
    · rcases a4 k h with h' | h'
      · exact S.mem k (List.mem_append_left _ h')
      · exact Or.inr (Nat.le_trans S.keeps.size h')
    · exact S.mem k (List.mem_append_right _ h)

theorem leafE2 {w w11 w13 wf : World} {b s i pb : Nat} {v vL vR v' : Value} {ps psL psR : List (Int × Nat)} {x : Int} {y : Nat} (S : Spl w w11 b s v vL vR ps psL psR pb x y) (hset : leafSet ps (x, y) = (psL, some (ins i (x, y) psR)))
    (hI : InsPost (w11.alloc (.cells #[.int .i64 x, .float .f64 y] 63)) 63 vR psR.length i (encP psR) [.int .i64 x, .float .f64 y] (.returned v') w13) (hS : SameH (w13.setCell ⟨s, 0, none⟩ v') wf) :
    SetPost 0 (b, v, ps) (x, y) w (.returned (.pointer (some ⟨s, 0, none⟩))) wf := by
  obtain ⟨v'', hv, hrow, hg, hm⟩ := hI
  obtain rfl : v' = v'' := by simpa using hv
  obtain ⟨n1, n2, n3⟩ := List.nodup_append.1 S.nd
  obtain ⟨a1, a2, a3, a4⟩ := leaf_laid (ps' := ins i (x, y) psR) S.atR (nd_foot0 n2) rfl hrow (pairs_ins _ _ i (x, y) psR).symm (ins_length _ _ _) hg hm
  refine leafTwo (vL := vL) (psL := psL) (vR := v') (psR := ins i (x, y) psR) (hS.at (a2.at S.atL fun k hk h => n3 k hk k h rfl)) (hS.at a1) hset (hS.keeps (S.keeps.trans a2 fun k hk => S.mem k (List.mem_append_right _ hk))) ?_ ?_
  · refine List.nodup_append.2 ⟨n1, a3, fun k hk k' hk' e => ?_⟩
    subst e
    rcases a4 k hk' with h | h
    · exact n3 k hk k h rfl
    · have := At.lt 0 _ S.atL k hk; omega
  · intro k hk
    rcases List.mem_append.1 hk with h | h
    · exact S.mem k (List.mem_append_left _ h)
    · rcases a4 k h with h' | h'
      · exact S.mem k (List.mem_append_right _ h')
      · exact Or.inr (Nat.le_trans S.keeps.size h')

/-- Behind Clone, the new node and the cut of the old one. -/
theorem split_leaf {w w8 w9 wf : World} {b pb g cap : Nat} {v1 : Value} {ps : List (Int × Nat)} {x : Int} {y : Nat} (M : Mid w w8 b (.slice (some ⟨g, 0, none⟩) ps.length cap) ps pb x y) (hl : ps.length = 128)
    (hr1 : w9.ownsRow w8.heap.size 63 2 v1 64 (encP (ps.drop 64))) (hB : Below w8.heap.size w8 w9)
    (hS : SameH ((w9.setCell ⟨b, 0, none⟩ (.slice (some ⟨g, 0, none⟩) 64 cap)).alloc (.cells #[v1, .slice none 0 0] 58)) wf) :
    Spl w wf b w9.heap.size (.slice (some ⟨g, 0, none⟩) ps.length cap) (.slice (some ⟨g, 0, none⟩) 64 cap) v1 ps (ps.take 64) (ps.drop 64) pb x y := by
  have hlt := M.lt
  have hsz := M.keeps.size
  have hbl : b < w.heap.size := hlt b (by simp [foot])
  have hgl : g < w.heap.size := hlt g (by simp [foot, Value.ownBlock])
  have hbg : b ≠ g := fun e => nd_foot0 M.nd (by rw [e]; rfl)
  have hpl : pb < w8.heap.size := (Array.getElem?_eq_some_iff.1 M.pbc).1
  have hpf := M.fresh
  obtain ⟨⟨ty, hb⟩, hr⟩ := M.at'
  change w8.heap[b]? = some (.cells #[.slice (some ⟨g, 0, none⟩) ps.length cap, .slice none 0 0] ty (0, 0)) at hb
  change w8.ownsRow 0 63 2 (.slice (some ⟨g, 0, none⟩) ps.length cap) ps.length (encP ps) at hr
  obtain ⟨r, c1, rfl, hc1, hr0⟩ := row_slice hr1 (by omega)
  have hrl : r < w9.heap.size := (hr1.lt r rfl).2
  have hb9 := (hB.block b (by omega)).trans hb
  have hp9 := (hB.block pb hpl).trans M.pbc
  obtain ⟨W1, hW1⟩ : ∃ W1, W1 = w9.setCell ⟨b, 0, none⟩ (.slice (some ⟨g, 0, none⟩) 64 cap) := ⟨_, rfl⟩
  rw [← hW1] at hS
  have s1 : W1.heap.size = w9.heap.size := by rw [hW1]; simp
  have o1 : ∀ k, k ≠ b → W1.heap[k]? = w9.heap[k]? := fun k hk => by rw [hW1]; exact Below.heap_setCell w9 _ _ k hk
  have hb1 : W1.heap[b]? = some (.cells #[.slice (some ⟨g, 0, none⟩) 64 cap, .slice none 0 0] ty (0, 0)) := by rw [hW1]; exact cells_set0 hb9
  have hB2 : Below W1.heap.size W1 (W1.alloc (.cells #[.slice (some ⟨r, 0, none⟩) 64 c1, .slice none 0 0] 58)) := (Below.refl _ _).alloc (Nat.le_refl _) _
  have hs : (W1.alloc (.cells #[.slice (some ⟨r, 0, none⟩) 64 c1, .slice none 0 0] 58)).heap[w9.heap.size]? = some (.cells #[.slice (some ⟨r, 0, none⟩) 64 c1, .slice none 0 0] 58 (0, 0)) := by rw [← s1]; exact heap_alloc_new W1 _
  have h89 := hB.size
  have hrow : w8.ownsRow 0 63 2 (.slice (some ⟨g, 0, none⟩) 64 cap) 64 (encP (ps.take 64)) := by
    rcases hr.2 with ⟨h, _⟩ | ⟨g', cap', cur, h, _, hg, hnc, hcm, hcs, htake⟩
    · cases h
    · simp only [Value.slice.injEq, Option.some.injEq, Addr.mk.injEq, and_true, true_and] at h
      obtain ⟨rfl, rfl⟩ := h
      refine ⟨by unfold encP; rw [pairs_length, List.length_take]; omega, .inr ⟨g, cap, cur, rfl, Nat.zero_le _, hg, by omega, hcm, hcs, ?_⟩⟩
      unfold encP at htake ⊢
      rw [← pairs_take, ← htake, List.take_take]
      congr 1; omega
  refine ⟨hS.at ⟨⟨ty, (hB2.block b (by omega)).trans hb1⟩, ?_⟩, hS.at ⟨⟨58, hs⟩, ?_⟩, hS.keeps ?_, ?_, ?_, ?_, ?_⟩
  · show World.ownsRow _ 0 63 2 (.slice (some ⟨g, 0, none⟩) 64 cap) (ps.take 64).length (encP (ps.take 64))
    rw [show (ps.take 64).length = 64 by rw [List.length_take]; omega]
    refine ownsRow_same hrow fun k hk => ?_
    have h1 : g = k := Option.some.inj hk
    exact (hB2.block k (by omega)).trans ((o1 k (by omega)).trans (hB.block k (by omega)))
  · show World.ownsRow _ 0 63 2 (.slice (some ⟨r, 0, none⟩) 64 c1) (ps.drop 64).length (encP (ps.drop 64))
    rw [show (ps.drop 64).length = 64 by rw [List.length_drop]; omega]
    have hr1' : w9.ownsRow 0 63 2 (.slice (some ⟨r, 0, none⟩) 64 c1) 64 (encP (ps.drop 64)) := by
      refine ⟨hr1.1, ?_⟩
      rcases hr1.2 with h | ⟨g', cap', cur, h, _, rest⟩
      · exact Or.inl h
      · exact Or.inr ⟨g', cap', cur, h, Nat.zero_le _, rest⟩
    refine ownsRow_same hr1' fun k hk => ?_
    have h1 : r = k := Option.some.inj hk
    exact (hB2.block k (by omega)).trans (o1 k (by omega))
  · have k1 : Keeps (foot 0 (b, .slice (some ⟨g, 0, none⟩) ps.length cap, ps)) w9 W1 := by rw [hW1]; exact setCell_keeps w9 _ _ _ (by simp [foot])
    exact (((M.keeps.mono (by simp)).trans (Below.keeps hB []) (by simp)).trans k1 (fun z hz => Or.inl hz)).trans (Below.keeps hB2 []) (by simp)
  · refine two_nd ?_ ?_ (by omega) ?_ ?_ (Or.inr ?_)
    · intro e; exact hbg (Option.some.inj e).symm
    · intro e; have := Option.some.inj e; simp at this; omega
    · intro e; have := Option.some.inj e; simp at this; omega
    · intro e; have := Option.some.inj e; simp at this; omega
    · intro e; have := Option.some.inj e; simp at this; omega
  · intro k hk
    simp [foot, Value.ownBlock] at hk
    rcases hk with rfl | rfl | rfl | rfl
    · left; simp [foot]
    · left; simp [foot, Value.ownBlock]
    · right; omega
    · right; omega
  · rw [hS.heap]
    exact (hB2.block pb (by omega)).trans ((o1 pb (by omega)).trans hp9)
  · simp [foot, Value.ownBlock]
    omega

theorem leafC' {w w8 W2 wf : World} {b pb r : Nat} {v : Value} {ps : List (Int × Nat)} {x : Int} {y : Nat} {ROW row : Array Value} (M : Mid w w8 b v ps pb x y) (hi : place (ps.map (·.1)) x = ps.length) (hf : ¬ ps[ps.length]?.map (·.1) = some x) (hl : ps.length = 128)
    (h2 : Below w8.heap.size w8 W2) (hsz : W2.heap.size = w8.heap.size + 2) (hr : W2.heap[r]? = some (.cells ROW 63 (0, 0))) (hrge : w8.heap.size ≤ r) (hrs : row.size = 64) (hrt : row.toList.take 2 = [.int .i64 x, .float .f64 y])
    (hS : SameH ((W2.setRow r row).alloc (.cells #[.slice (some ⟨r, 0, none⟩) 1 32, .slice none 0 0] 58)) wf) : SetPost 0 (b, v, ps) (x, y) w (.returned (.pointer (some ⟨w8.heap.size + 2, 0, none⟩))) wf := by
  have hrl : r < W2.heap.size := (Array.getElem?_eq_some_iff.1 hr).1
  have s3 : (W2.setRow r row).heap.size = w8.heap.size + 2 := by simp [World.setRow, hsz]
  have hB3 : Below w8.heap.size w8 (W2.setRow r row) := h2.trans ⟨rfl, rfl, rfl, by simp [World.setRow], fun k hk => setRow_other W2 r k _ (by omega)⟩
  have hB4 : Below w8.heap.size w8 ((W2.setRow r row).alloc (.cells #[.slice (some ⟨r, 0, none⟩) 1 32, .slice none 0 0] 58)) := hB3.alloc (by omega) _
  refine leafC (s := w8.heap.size + 2) (r := r) (ty := 58) (cur := row) (cap := 32) M hi hf hl ⟨hS.os.trans hB4.os, hS.tape.trans hB4.tape, hS.output.trans hB4.output, by rw [hS.heap]; exact hB4.size, fun k hk => by rw [hS.heap]; exact hB4.block k hk⟩ ?_ ?_ (by omega) (by unfold maxLen; omega) hrs hrt (by omega) hrge (by omega)
  · rw [hS.heap, ← s3]; exact heap_alloc_new _ _
  · rw [hS.heap, Below.heap_alloc _ _ r (by omega)]; exact setRow_heap W2 r ROW row _ _ hr

end Go.Proofs.Qxb6616513a
