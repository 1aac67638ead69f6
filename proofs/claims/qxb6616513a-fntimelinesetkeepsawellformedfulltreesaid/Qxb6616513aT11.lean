import Derived.Test.Qxb6616513aT10
import Derived.Deep.LoopGhost
namespace Go.Proofs.Qxb6616513a
open Go.RowKit

/-- A kid is another, at the same block. -/
theorem kid_put {h : Nat} {W W' : World} {b : Nat} {v : Value} {ks : List (Int × HT h)} (ha : At W (h + 1) (b, v, ks)) (hnd0 : (foot (h + 1) (b, v, ks)).Nodup) {i : Nat} {k : Int × HT h} (hk : ks[i]? = some k) {t' : HT h}
    (hb : blk h t' = blk h k.2) (hat : At W' h t') (hkp : Keeps (foot h k.2) W W') (hnd : (foot h t').Nodup) (hin : ∀ z ∈ foot h t', z ∈ foot h k.2 ∨ W.heap.size ≤ z) :
    At W' (h + 1) (b, v, ks.set i (k.1, t')) ∧ (foot (h + 1) (b, v, ks.set i (k.1, t'))).Nodup ∧ (∀ z ∈ foot (h + 1) (b, v, ks.set i (k.1, t')), z ∈ foot (h + 1) (b, v, ks) ∨ W.heap.size ≤ z) ∧ (∀ z ∈ foot h k.2, z ∈ foot (h + 1) (b, v, ks)) := by
  obtain ⟨e1, e2⟩ := list_at hk
  have hkm : ∀ z ∈ foot h k.2, z ∈ foot (h + 1) (b, v, ks) := fun z hz => by
    rw [foot_succ]
    exact List.mem_cons_of_mem _ (List.mem_append_right _ (mem_kidsFoot.2 ⟨k, List.mem_of_getElem? hk, hz⟩))
  have hA : foot (h + 1) (b, v, ks) = (b :: (v.ownBlock.toList ++ kidsFoot h (ks.take i))) ++ (foot h k.2 ++ kidsFoot h (ks.drop (i + 1))) := by
    rw [foot_succ]
    conv => lhs; rw [e1]
    simp [kidsFoot_append, kidsFoot_cons]
  have hA' : foot (h + 1) (b, v, ks.set i (k.1, t')) = (b :: (v.ownBlock.toList ++ kidsFoot h (ks.take i))) ++ (foot h t' ++ kidsFoot h (ks.drop (i + 1))) := by
    rw [foot_succ, e2]
    simp [kidsFoot_append, kidsFoot_cons]
  rw [hA] at hnd0
  have hltA : ∀ z ∈ (b :: (v.ownBlock.toList ++ kidsFoot h (ks.take i))) ++ kidsFoot h (ks.drop (i + 1)), z < W.heap.size := fun z hz => by
    refine At.lt (h + 1) _ ha z ?_
    rw [hA]
    rcases List.mem_append.1 hz with h' | h'
    · exact List.mem_append_left _ h'
    · exact List.mem_append_right _ (List.mem_append_right _ h')
  have hdis : ∀ z ∈ (b :: (v.ownBlock.toList ++ kidsFoot h (ks.take i))) ++ kidsFoot h (ks.drop (i + 1)), z ∉ foot h k.2 := fun z hz hz' => by
    obtain ⟨_, a2, a3⟩ := List.nodup_append.1 hnd0
    rcases List.mem_append.1 hz with h' | h'
    · exact a3 z h' z (List.mem_append_left _ hz') rfl
    · exact (List.nodup_append.1 a2).2.2 z hz' z h' rfl
  have hsw := nodup_swap hnd0 hnd hin hltA
  obtain ⟨⟨ty, hbk⟩, hr, hkk⟩ := ha
  change W.heap[b]? = _ at hbk
  change W.ownsRow 0 84 2 v ks.length (encK h ks) at hr
  change ∀ k ∈ ks, At W h k.2 at hkk
  have hbd : b ∉ foot h k.2 := hdis b (by simp)
  have hvd : ∀ g, v.ownBlock = some g → g ∉ foot h k.2 := fun g hg => hdis g (by simp [hg])
  refine ⟨⟨⟨ty, (hkp.block b (Array.getElem?_eq_some_iff.1 hbk).1 hbd).trans hbk⟩, ?_, ?_⟩, by rw [hA']; exact hsw, ?_, hkm⟩
  · show W'.ownsRow 0 84 2 v (ks.set i (k.1, t')).length (encK h (ks.set i (k.1, t')))
    rw [List.length_set]
    have henc : encK h (ks.set i (k.1, t')) = encK h ks := by
      unfold encK
      rw [← pairs_set0 (fun k : Int × HT h => .int .i64 k.1) (fun k : Int × HT h => .pointer (some ⟨blk h k.2, 0, none⟩)) ks i k (k.1, t') hk (by dsimp only; rw [hb])]
      refine set_self ?_
      rw [pairs_get0, hk]; rfl
    rw [henc]
    exact ownsRow_same hr fun g hg => hkp.block g (hr.lt g hg).2 (hvd g hg)
  · intro q hq
    change q ∈ ks.set i (k.1, t') at hq
    rw [e2] at hq
    rcases List.mem_append.1 hq with h' | h'
    · exact hkp.at (hkk q (List.mem_of_mem_take h')) fun z hz => hdis z (List.mem_append_left _ (List.mem_cons_of_mem _ (List.mem_append_right _ (mem_kidsFoot.2 ⟨q, h', hz⟩))))
    · rcases List.mem_cons.1 h' with rfl | h''
      · exact hat
      · exact hkp.at (hkk q (List.mem_of_mem_drop h'')) fun z hz => hdis z (List.mem_append_right _ (mem_kidsFoot.2 ⟨q, h'', hz⟩))
  · intro z hz
    rw [hA'] at hz
    rcases List.mem_append.1 hz with h' | h'
    · exact Or.inl (by rw [hA]; exact List.mem_append_left _ h')
    · rcases List.mem_append.1 h' with h'' | h''
      · rcases hin z h'' with h3 | h3
        · exact Or.inl (hkm z h3)
        · exact Or.inr h3
      · exact Or.inl (by rw [hA]; exact List.mem_append_right _ (List.mem_append_right _ h''))

/-- The last leaf, and the first time of the kid above it. -/
def lastH : (h : Nat) → HT h → Int → HT 0 × Int
  | 0, t, f => (t, f)
  | h + 1, t, f => match t.2.2[t.2.2.length - 1]? with
    | none => ((0, .slice none 0 0, []), f)
    | some k => lastH h k.2 k.1

theorem lastH_node (h b : Nat) (v : Value) (ks : List (Int × HT h)) (f : Int) {k : Int × HT h} (hk : ks[ks.length - 1]? = some k) : lastH (h + 1) (b, v, ks) f = lastH h k.2 k.1 := by
  show (match ks[ks.length - 1]? with | none => (((0, Value.slice none 0 0, []) : HT 0), f) | some k => lastH h k.2 k.1) = _
  rw [hk]

/-- The last leaf is another. -/
def putLast : (h : Nat) → T h → List (Int × Nat) → T h
  | 0, _, q => q
  | h + 1, ks, q => match (show List (Int × T h) from ks)[(show List (Int × T h) from ks).length - 1]? with
    | none => ks
    | some k => (show List (Int × T h) from ks).set ((show List (Int × T h) from ks).length - 1) (k.1, putLast h k.2 q)

theorem putLast_node (h : Nat) (ks : List (Int × T h)) (q : List (Int × Nat)) : putLast (h + 1) ks q = (match ks[ks.length - 1]? with | none => ks | some k => ks.set (ks.length - 1) (k.1, putLast h k.2 q)) := by rfl

theorem last_kid {h b : Nat} {v : Value} {ks : List (Int × HT h)} (hok : Ok (h + 1) (er (h + 1) (b, v, ks))) : ∃ k, ks[ks.length - 1]? = some k ∧ Ok h (er h k.2) ∧ NE h (er h k.2) ∧ 0 < ks.length := by
  obtain ⟨-, hne, -, hall⟩ := hok
  have hne' : ks ≠ [] := fun e => hne (by rw [er_succ, e]; rfl)
  have hpos : 0 < ks.length := List.length_pos_iff.2 hne'
  obtain ⟨k, hk⟩ : ∃ k, ks[ks.length - 1]? = some k := ⟨_, List.getElem?_eq_getElem (by omega)⟩
  have := hall (k.1, er h k.2) (List.mem_map.2 ⟨k, List.mem_of_getElem? hk, rfl⟩)
  exact ⟨k, hk, this.1, this.2, hpos⟩

theorem last_at : ∀ (h : Nat) (t : HT h) (f : Int) (W : World), At W h t → Ok h (er h t) → At W 0 (lastH h t f).1 ∧ (∀ z ∈ foot 0 (lastH h t f).1, z ∈ foot h t) ∧ Ok 0 (er 0 (lastH h t f).1) ∧ ((foot h t).Nodup → (foot 0 (lastH h t f).1).Nodup)
  | 0, _, _, _, ha, hok => ⟨ha, fun _ hz => hz, hok, fun h => h⟩
  | h + 1, (b, v, ks), f, W, ha, hok => by
    obtain ⟨k, hk, ok1, ok2, _⟩ := last_kid hok
    have e : lastH (h + 1) (b, v, ks) f = lastH h k.2 k.1 := lastH_node h b v ks f hk
    rw [e]
    have hak : At W h k.2 := ha.2.2 k (List.mem_of_getElem? hk)
    obtain ⟨a1, a2, a3, a4⟩ := last_at h k.2 k.1 W hak ok1
    refine ⟨a1, fun z hz => ?_, a3, fun hnd => a4 ?_⟩
    · rw [foot_succ]
      exact List.mem_cons_of_mem _ (List.mem_append_right _ (mem_kidsFoot.2 ⟨k, List.mem_of_getElem? hk, a2 z hz⟩))
    · rw [foot_succ] at hnd
      have h2 := (List.nodup_append.1 (List.nodup_cons.1 hnd).2).2.1
      rw [(list_at hk).1, kidsFoot_append, kidsFoot_cons] at h2
      exact (List.nodup_append.1 (List.nodup_append.1 h2).2.1).1

theorem last_put : ∀ (h : Nat) (t : HT h) (f : Int) (W W' : World) (lf' : HT 0), At W h t → Ok h (er h t) → (foot h t).Nodup → blk 0 lf' = blk 0 (lastH h t f).1 → At W' 0 lf' → Keeps (foot 0 (lastH h t f).1) W W' → (foot 0 lf').Nodup →
    (∀ z ∈ foot 0 lf', z ∈ foot 0 (lastH h t f).1 ∨ W.heap.size ≤ z) → ∃ t' : HT h, blk h t' = blk h t ∧ At W' h t' ∧ er h t' = putLast h (er h t) (er 0 lf') ∧ (foot h t').Nodup ∧ (∀ z ∈ foot h t', z ∈ foot h t ∨ W.heap.size ≤ z)
  | 0, _, _, _, _, lf', _, _, _, hb, ha', _, hnd', hin => ⟨lf', hb, ha', rfl, hnd', hin⟩
  | h + 1, (b, v, ks), f, W, W', lf', ha, hok, hnd, hb, ha', hkp, hnd', hin => by
    obtain ⟨k, hk, ok1, ok2, hpos⟩ := last_kid hok
    have e : lastH (h + 1) (b, v, ks) f = lastH h k.2 k.1 := lastH_node h b v ks f hk
    rw [e] at hb hkp hin
    have hak : At W h k.2 := ha.2.2 k (List.mem_of_getElem? hk)
    have hndk : (foot h k.2).Nodup := by
      rw [foot_succ] at hnd
      have h2 := (List.nodup_append.1 (List.nodup_cons.1 hnd).2).2.1
      rw [(list_at hk).1, kidsFoot_append, kidsFoot_cons] at h2
      exact (List.nodup_append.1 (List.nodup_append.1 h2).2.1).1
    obtain ⟨t', b1, b2, b3, b4, b5⟩ := last_put h k.2 k.1 W W' lf' hak ok1 hndk hb ha' hkp hnd' hin
    have hm := (last_at h k.2 k.1 W hak ok1).2.1
    obtain ⟨c1, c2, c3, -⟩ := kid_put ha hnd hk b1 b2 (hkp.mono hm) b4 b5
    refine ⟨(b, v, ks.set (ks.length - 1) (k.1, t')), rfl, c1, ?_, c2, c3⟩
    rw [er_succ, er_succ]
    have hp := putLast_node h (ks.map fun k => (k.1, er h k.2)) (er 0 lf')
    rw [List.length_map, List.getElem?_map, hk] at hp
    have hp' : putLast (h + 1) (ks.map fun k => (k.1, er h k.2)) (er 0 lf') = (ks.map fun k => (k.1, er h k.2)).set (ks.length - 1) (k.1, putLast h (er h k.2) (er 0 lf')) := hp
    rw [hp', ← b3, map_set_er]

set_option maxHeartbeats 1000000 in
set_option maxRecDepth 100000 in
/-- timeline.lastLeaf. -/
theorem lastLeaf_any (h : Nat) (t : HT h) (w : World) (ha : At w h t) (hok : Ok h (er h t)) :
    Calls Try.prog 42 #[.pointer (some ⟨blk h t, 0, none⟩)] w fun e w' => e = .returned (.tuple #[.pointer (some ⟨blk 0 (lastH h t (-9223372036854775808)).1, 0, none⟩), .int .i64 (lastH h t (-9223372036854775808)).2]) ∧ Below w.heap.size w w' := by
  obtain ⟨b0, hb0⟩ : ∃ b0, b0 = blk h t := ⟨_, rfl⟩
  obtain ⟨L, hL⟩ : ∃ L, L = lastH h t (-9223372036854775808) := ⟨_, rfl⟩
  rw [← hb0, ← hL]
  have HS : Hid (b0 = blk h t ∧ L = lastH h t (-9223372036854775808) ∧ At w h t ∧ Ok h (er h t)) := ⟨hb0, hL, ha, hok⟩
  clear hb0 hL ha hok
  go_enter Try.func42, Try.ntmps42
  go_wp2_with fail
  go_loopg [2, 3] h (fun k p f wr => ∃ (t' : HT k) (fi : Int), p = .pointer (some ⟨blk k t', 0, none⟩) ∧ f = .int .i64 fi ∧ At wr k t' ∧ Ok k (er k t') ∧ lastH k t' fi = L ∧ Below w.heap.size w wr ∧ ∀ z ∈ foot k t', z < w.heap.size)
  case atStart => exact ⟨t, _, by rw [← HS.out.1], rfl, HS.out.2.2.1, HS.out.2.2.2, HS.out.2.1.symm, Below.refl _ _, At.lt h t HS.out.2.2.1⟩
  case round =>
    obtain ⟨t', fi, rfl, rfl, ha, hok, hlast, hB, hlt⟩ := hrel
    cases gk with
    | zero =>
      obtain ⟨b, v, ps⟩ := t'
      obtain ⟨c0, c1, -, -⟩ := leaf_cells ha
      have HE : Hid (L = ((b, v, ps), fi) ∧ Below w.heap.size w wr) := ⟨hlast.symm, hB⟩
      have hbb : blk 0 (b, v, ps) = b := rfl
      clear ha hok hlast hB hlt
      go_wp2_with fail
      go_ret2
      exact ⟨by rw [HE.out.1]; rfl, HE.out.2⟩
    | succ k =>
      obtain ⟨b, v, ks⟩ := t'
      obtain ⟨q, hq, ok1, ok2, hpos⟩ := last_kid hok
      obtain ⟨c0, c1, hr, hkk, hv⟩ := node_cells ha
      rcases hv with ⟨_, h0⟩ | ⟨g, cap, rfl, hnc, hgl, hc⟩
      · rw [h0] at hpos; simp at hpos
      obtain ⟨k0, k1⟩ := hc _ q hq
      have hak := hkk q (List.mem_of_getElem? hq)
      obtain ⟨n, hn⟩ : ∃ n, ks.length = n + 1 := ⟨ks.length - 1, by omega⟩
      have hlen : (ks.length : Nat) ≤ 64 := by
        have : (ks.map fun k' => (k'.1, er k k'.2)).length ≤ 64 := hok.2.2.1
        simpa using this
      have HE : Hid (lastH k q.2 q.1 = L ∧ Below w.heap.size w wr ∧ At wr k q.2 ∧ Ok k (er k q.2) ∧ ∀ z ∈ foot k q.2, z < w.heap.size) := by
        refine ⟨?_, hB, hak, ok1, fun z hz => hlt z ?_⟩
        · rw [← hlast]
          exact (lastH_node k b _ ks fi hq).symm
        · rw [foot_succ]
          exact List.mem_cons_of_mem _ (List.mem_append_right _ (mem_kidsFoot.2 ⟨q, List.mem_of_getElem? hq, hz⟩))
      rw [show ks.length - 1 = n by omega] at k0 k1
      obtain ⟨bq, hbq⟩ : ∃ bq, bq = blk k q.2 := ⟨_, rfl⟩
      rw [← hbq] at k1
      have HQ : Hid (bq = blk k q.2) := hbq
      have hbb : blk (k + 1) (b, .slice (some ⟨g, 0, none⟩) ks.length cap, ks) = b := rfl
      have c1' : wr.cell? ⟨b, 1, none⟩ = some (.slice (some ⟨g, 0, none⟩) (n + 1) cap) := by rw [← hn]; exact c1
      rw [hn] at hlen hnc
      have hn1 : ((n : Int) + 1) - 1 = (n : Int) := by omega
      have m1 : b ≠ wr.heap.size := (World.new_ne wr ⟨b, 1, none⟩ c1').symm
      have m2 : g ≠ wr.heap.size := by omega
      have x0 : (wr.alloc (.cells #[.int .i64 0, .pointer none] 84)).cell? ⟨b, 1, none⟩ = some (.slice (some ⟨g, 0, none⟩) (n + 1) cap) := Lib.cell?_alloc_some _ c1'
      have x1 : (wr.alloc (.cells #[.int .i64 0, .pointer none] 84)).cell? ⟨g, n * 2, none⟩ = some (.int .i64 q.1) := Lib.cell?_alloc_some _ k0
      have x2 : (wr.alloc (.cells #[.int .i64 0, .pointer none] 84)).cell? ⟨g, n * 2 + 1, none⟩ = some (.pointer (some ⟨bq, 0, none⟩)) := Lib.cell?_alloc_some _ k1
      have hwn : IntKind.i64.wrap (n : Int) = (n : Int) := by rw [IntKind.wrap_i64]; omega
      have hb0 : (0 : Int) ≤ (n : Int) := by omega
      have hb1 : (n : Int) < (n : Int) + 1 := by omega
      clear ha hok hlast hB hlt hc hr hkk hq ok1 ok2 hpos hak hbq c1 hn
      go_wp2_with fail
      go_region
      all_goals
        go_wp2_with fail
        go_quiet (fail)
        go_wp2_with fail
        go_roundg k
        case measure => omega
        case rel =>
          have hB' : Below wr.heap.size wr (wr.alloc (.cells #[.int .i64 q.1, .pointer (some ⟨bq, 0, none⟩)] 84)) := (Below.refl _ _).alloc (Nat.le_refl _) _
          have h5 := HE.out
          refine ⟨q.2, q.1, by rw [HQ.out], rfl, ?_, h5.2.2.2.1, h5.1, ?_, h5.2.2.2.2⟩
          · exact At.same k q.2 h5.2.2.1 fun z hz => hB'.block z (At.lt k q.2 h5.2.2.1 z hz)
          · exact h5.2.1.trans ⟨rfl, rfl, rfl, hB'.size, fun z hz => hB'.block z (Nat.lt_of_lt_of_le hz h5.2.1.size)⟩

end Go.Proofs.Qxb6616513a
