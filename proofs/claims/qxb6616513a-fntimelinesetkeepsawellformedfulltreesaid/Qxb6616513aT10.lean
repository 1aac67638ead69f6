import Derived.Test.Qxb6616513aT9
namespace Go.Proofs.Qxb6616513a
open Go.RowKit

attribute [local go_sem] run_store_f

/-- The walk's own contract of 'set' at one height. -/
def SetOk (h : Nat) : Prop := ∀ (t : HT h) (x : Int) (y : Nat) (w : World), At w h t → Ok h (er h t) → (foot h t).Nodup →
    Calls Try.prog 43 #[.pointer (some ⟨blk h t, 0, none⟩), .agg #[.int .i64 x, .float .f64 y]] w (SetPost h t (x, y) w)

theorem Mid2.cells {h : Nat} {F0 : List Nat} {w W : World} {b : Nat} {v : Value} {ks : List (Int × HT h)} {pb : Nat} {x : Int} {y : Nat} (M : Mid2 h F0 w W b v ks pb x y) :
    W.cell? ⟨b, 0, none⟩ = some (.slice none 0 0) ∧ W.cell? ⟨b, 1, none⟩ = some v ∧ W.cell? ⟨pb, 0, none⟩ = some (.int .i64 x) ∧ W.cell? ⟨pb, 1, none⟩ = some (.float .f64 y) ∧ W.frozen? ⟨b, 1, none⟩ = false := by
  obtain ⟨c0, c1, -⟩ := node_cells M.at'
  exact ⟨c0, c1, by simpa using cell_of_row W pb 0 _ _ _ M.pbc, by simpa using cell_of_row W pb 1 _ _ _ M.pbc, node_frozen M.at' 1⟩

theorem Mid2.kcell {h : Nat} {F0 : List Nat} {w W : World} {b g cap : Nat} {ks : List (Int × HT h)} {pb : Nat} {x : Int} {y : Nat} (M : Mid2 h F0 w W b (.slice (some ⟨g, 0, none⟩) ks.length cap) ks pb x y) {i : Nat} {k : Int × HT h} (hk : ks[i]? = some k) :
    W.cell? ⟨g, i * 2, none⟩ = some (.int .i64 k.1) ∧ W.cell? ⟨g, i * 2 + 1, none⟩ = some (.pointer (some ⟨blk h k.2, 0, none⟩)) ∧ (∀ j, W.frozen? ⟨g, j, none⟩ = false) ∧ At W h k.2 := by
  obtain ⟨-, -, hr, hkk, hv⟩ := node_cells M.at'
  rcases hv with ⟨h', _⟩ | ⟨g', cap', h', _, _, hc⟩
  · cases h'
  · simp only [Value.slice.injEq, Option.some.injEq, Addr.mk.injEq, and_true, true_and] at h'
    obtain ⟨rfl, rfl⟩ := h'
    exact ⟨(hc i k hk).1, (hc i k hk).2, hr.frozenAt, hkk k (List.mem_of_getElem? hk)⟩

/-- What stands behind the kid's own 'set'. -/
def KidPost (h : Nat) (F0 : List Nat) (w : World) (b g cap i : Nat) (ks : List (Int × HT h)) (m : Int) (kt : HT h) (pb : Nat) (x : Int) (y : Nat) (os : Option (HT h)) (w' : World) : Prop :=
  ∃ t' : HT h, Mid2 h F0 w w' b (.slice (some ⟨g, 0, none⟩) ks.length cap) (ks.set i (m, t')) pb x y ∧ setT h (er h kt) (x, y) = (er h t', os.map (er h)) ∧
    ∀ s, os = some s → At w' h s ∧ (foot (h + 1) (b, .slice (some ⟨g, 0, none⟩) ks.length cap, ks.set i (m, t')) ++ foot h s).Nodup ∧ (∀ z ∈ foot h s, z ∈ F0 ∨ w.heap.size ≤ z) ∧ pb ∉ foot h s

theorem kid_set {h : Nat} (ih : SetOk h) {F0 : List Nat} {w W : World} {b g cap i : Nat} {ks : List (Int × HT h)} {m : Int} {kt : HT h} {pb : Nat} {x : Int} {y : Nat} (hi : i < ks.length) (M : Mid2 h F0 w W b (.slice (some ⟨g, 0, none⟩) ks.length cap) (ks.set i (m, kt)) pb x y) (hok : Ok h (er h kt)) :
    Calls Try.prog 43 #[.pointer (some ⟨blk h kt, 0, none⟩), .agg #[.int .i64 x, .float .f64 y]] W fun e w' => ∃ os : Option (HT h), e = .returned (.pointer (os.map fun s => ⟨blk h s, 0, none⟩)) ∧ Hid (KidPost h F0 w b g cap i ks m kt pb x y os w') ∧
      w'.cell? ⟨g, i * 2 + 1, none⟩ = some (.pointer (some ⟨blk h kt, 0, none⟩)) ∧ w'.cell? ⟨pb, 0, none⟩ = some (.int .i64 x) ∧ w'.cell? ⟨pb, 1, none⟩ = some (.float .f64 y) := by
  have hk : (ks.set i (m, kt))[i]? = some (m, kt) := by rw [List.getElem?_set_self hi]
  have hle : (ks.set i (m, kt)).length = ks.length := List.length_set
  have M' := M
  rw [← hle] at M'
  obtain ⟨-, -, -, hat⟩ := M'.kcell hk
  have hnd : (foot h kt).Nodup := by
    have := M.nd
    rw [foot_succ] at this
    have h2 := (List.nodup_append.1 (List.nodup_cons.1 this).2).2.1
    rw [(list_at hk).1, kidsFoot_append, kidsFoot_cons] at h2
    exact (List.nodup_append.1 (List.nodup_append.1 h2).2.1).1
  refine (ih kt x y W hat hok hnd).mono ?_
  rintro e w' ⟨t', os, a1, a2, a3, rfl, a5, a6, a7, a8⟩
  obtain ⟨b1, b2, b3, b4⟩ := M.kid (F' := footO h os) hk a1 a2 a6 a7 a8
  dsimp only at b1 b2
  rw [List.set_set] at b1 b2
  have b1' := b1
  rw [show ks.length = (ks.set i (m, t')).length from List.length_set.symm] at b1'
  obtain ⟨-, k1, -, -⟩ := b1'.kcell (i := i) (k := (m, t')) (by rw [List.getElem?_set_self hi])
  obtain ⟨-, -, c2, c3, -⟩ := b1.cells
  refine ⟨os, rfl, ⟨t', b1, a3, fun s hs => ?_⟩, by rw [← a1]; exact k1, c2, c3⟩
  subst hs
  exact ⟨a5 s rfl, b2, b3, b4⟩

theorem leafSet_ne {ps : List (Int × Nat)} {p : Int × Nat} {l r : List (Int × Nat)} (h : leafSet ps p = (l, some r)) : r ≠ [] := by
  unfold leafSet at h
  dsimp only at h
  split at h
  · simp at h
  split at h
  · simp at h
  split at h
  · simp only [Prod.mk.injEq, Option.some.injEq] at h
    rw [← h.2]; simp
  split at h
  · simp only [Prod.mk.injEq, Option.some.injEq] at h
    rw [← h.2]
    intro e
    subst e
    simp_all
  split at h
  · simp only [Prod.mk.injEq, Option.some.injEq] at h
    rw [← h.2]
    intro e
    have := congrArg List.length e
    simp at this
    omega
  · simp only [Prod.mk.injEq, Option.some.injEq] at h
    rw [← h.2]
    intro e
    have := congrArg List.length e
    rw [ins_length] at this
    simp at this

theorem nodeSet_ne {h : Nat} {l : List (Int × T h)} {i : Nat} {k : Int × T h} {p : Int × Nat} {r : T h × Option (T h)} {a b : List (Int × T h)} (hn : nodeSet h l i k p r = (a, some b)) : b ≠ [] := by
  unfold nodeSet at hn
  split at hn
  · cases hn
  · split at hn
    · cases hn
    · rename_i hgt
      simp only [Prod.mk.injEq, Option.some.injEq] at hn
      rw [← hn.2]
      intro e
      have := congrArg List.length e
      simp only [List.length_drop, List.length_nil] at this
      omega

theorem setT_ne_list (h : Nat) (t : List (Int × T h)) (p : Int × Nat) (l r : List (Int × T h)) (hs : setT (h + 1) t p = (l, some r)) : r ≠ [] := by
  rw [setT_node] at hs
  split at hs
  · cases hs
  · exact nodeSet_ne hs

theorem setT_ne (h : Nat) (t : T h) (p : Int × Nat) (l r : T h) (hs : setT h t p = (l, some r)) : NE h r := by
  cases h with
  | zero => exact leafSet_ne hs
  | succ h => exact setT_ne_list h t p l r hs

theorem insert_kid {h : Nat} {F0 : List Nat} {w W : World} {b : Nat} {v : Value} {ks : List (Int × HT h)} {pb : Nat} {x : Int} {y : Nat} (M : Mid2 h F0 w W b v ks pb x y) {j : Nat} (hj : j ≤ ks.length) (hl : ks.length ≤ 64) (f : Int) (bs : Nat) :
    Calls Try.prog 51 #[v, .int .i64 (j : Nat), .slice (some ⟨W.heap.size, 0, none⟩) 1 1] (W.drew.alloc (.cells #[.int .i64 f, .pointer (some ⟨bs, 0, none⟩)] 84)) fun e w' => ∃ g' cap', e = .returned (.slice (some ⟨g', 0, none⟩) (ks.length + 1) cap') ∧ Hid (InsPost (W.drew.alloc (.cells #[.int .i64 f, .pointer (some ⟨bs, 0, none⟩)] 84)) 84 v ks.length j (encK h ks) [.int .i64 f, .pointer (some ⟨bs, 0, none⟩)] (.returned (.slice (some ⟨g', 0, none⟩) (ks.length + 1) cap')) w') ∧ w'.cell? ⟨b, 1, none⟩ = some v ∧ w'.frozen? ⟨b, 1, none⟩ = false := by
  obtain ⟨-, c1, hr, -, -⟩ := node_cells M.at'
  have hfz := node_frozen M.at' 1
  have hr' : (W.drew.alloc (.cells #[.int .i64 f, .pointer (some ⟨bs, 0, none⟩)] 84)).ownsRow 0 84 2 v ks.length (encK h ks) := World.ownsRow.alloc hr _
  have hne : v.ownBlock ≠ some b := fun e => by
    have := M.nd
    rw [foot_succ] at this
    exact (List.nodup_cons.1 this).1 (by simp [e])
  refine (insertK_any _ ks.length j (encK h ks) (.int .i64 f) (.pointer (some ⟨bs, 0, none⟩)) W.heap.size _ hr' (encK_one h ks) rfl rfl hj (by omega) (heap_alloc_new W.drew _) (fun e => by
    have := (hr.lt _ e).2; omega)).mono ?_
  rintro e w' ⟨v', rfl, h1, h2, h3⟩
  obtain ⟨g', cap', rfl, _⟩ := row_slice h1 (by omega)
  have hbl : b < W.heap.size := At.lt (h + 1) _ M.at' b (by simp [foot_succ])
  have hb' : w'.heap[b]? = W.heap[b]? := (h2.block b (by simp; omega) (fun e => hne e.symm)).trans (Below.heap_alloc W.drew _ b hbl)
  exact ⟨g', cap', rfl, ⟨_, rfl, h1, h2, h3⟩, (World.cell?_of_block hb').trans c1, (World.frozen?_of_block hb').trans hfz⟩

theorem node_none {h : Nat} {w w4 wf : World} {b g cap i : Nat} {ks : List (Int × HT h)} {kf : Int} {kt : HT h} {pb : Nat} {x : Int} {y : Nat} (hK : KidPost h (foot (h + 1) (b, .slice (some ⟨g, 0, none⟩) ks.length cap, ks)) w b g cap i ks (min kf x) kt pb x y none w4)
    (hi : kidM h ks x = i) (hk : ks[i]? = some (kf, kt)) (hS : SameH w4 wf) : SetPost (h + 1) (b, .slice (some ⟨g, 0, none⟩) ks.length cap, ks) (x, y) w (.returned (.pointer none)) wf := by
  obtain ⟨t', M, hs, -⟩ := hK
  have M := M.same hS
  exact ⟨(b, .slice (some ⟨g, 0, none⟩) ks.length cap, ks.set i (min kf x, t')), none, rfl, M.at', setT_none hi hk hs, rfl, (fun s h => by cases h), M.keeps, by simpa [footO] using M.nd, by simpa [footO] using M.mem⟩

theorem node_room {h : Nat} {w wf : World} {b g cap g' cap' i : Nat} {ks : List (Int × HT h)} {kf : Int} {kt t' s : HT h} {pb : Nat} {x : Int} {y : Nat} (M : Mid2 h (foot (h + 1) (b, .slice (some ⟨g, 0, none⟩) ks.length cap, ks)) w wf b (.slice (some ⟨g', 0, none⟩) (ks.length + 1) cap') (ins (i + 1) (fst h (er h s), s) (ks.set i (min kf x, t'))) pb x y)
    (hs : setT h (er h kt) (x, y) = (er h t', some (er h s))) (hi : kidM h ks x = i) (hk : ks[i]? = some (kf, kt)) (hl : ks.length + 1 ≤ 64) : SetPost (h + 1) (b, .slice (some ⟨g, 0, none⟩) ks.length cap, ks) (x, y) w (.returned (.pointer none)) wf :=
  ⟨(b, .slice (some ⟨g', 0, none⟩) (ks.length + 1) cap', ins (i + 1) (fst h (er h s), s) (ks.set i (min kf x, t'))), none, rfl, M.at', setT_room hi hk hs hl, rfl, (fun s h => by cases h), M.keeps, by simpa [footO] using M.nd, by simpa [footO] using M.mem⟩

theorem node_full {h : Nat} {w wc w9 wf : World} {b g cap g' cap' i : Nat} {v1 : Value} {ks : List (Int × HT h)} {kf : Int} {kt t' s : HT h} {pb : Nat} {x : Int} {y : Nat} {cur : Array Value} {zs : List Value}
    (M : Mid2 h (foot (h + 1) (b, .slice (some ⟨g, 0, none⟩) ks.length cap, ks)) w wc b (.slice (some ⟨g', 0, none⟩) (ins (i + 1) (fst h (er h s), s) (ks.set i (min kf x, t'))).length cap') (ins (i + 1) (fst h (er h s), s) (ks.set i (min kf x, t'))) pb x y)
    (hs : setT h (er h kt) (x, y) = (er h t', some (er h s))) (hi : kidM h ks x = i) (hk : ks[i]? = some (kf, kt)) (hl : ks.length = 64)
    (hr1 : w9.ownsRow wc.heap.size 84 2 v1 33 (encK h ((ins (i + 1) (fst h (er h s), s) (ks.set i (min kf x, t'))).drop 32))) (hB : Below wc.heap.size wc w9) (hcur : w9.heap[g']? = some (.cells cur 84 (0, 0))) (hzs : zs.length = 66)
    (hS : SameH (((w9.alloc (.cells #[.slice none 0 0, v1] 58)).setRow g' (cur.toList.take 64 ++ zs ++ cur.toList.drop 130).toArray).setCell ⟨b, 1, none⟩ (.slice (some ⟨g', 0, none⟩) 32 cap')) wf) :
    SetPost (h + 1) (b, .slice (some ⟨g, 0, none⟩) ks.length cap, ks) (x, y) w (.returned (.pointer (some ⟨w9.heap.size, 0, none⟩))) wf := by
  have h65 : (ins (i + 1) (fst h (er h s), s) (ks.set i (min kf x, t'))).length = 65 := by rw [ins_length, List.length_set, hl]
  have hsp := Mid2.split (m := 32) (cur := cur) (zs := zs) M (by omega) (by rw [h65]; exact hr1) hB hcur (by rw [h65]; exact hzs) (by rw [h65]; exact hS)
  exact ⟨(b, .slice (some ⟨g', 0, none⟩) 32 cap', (ins (i + 1) (fst h (er h s), s) (ks.set i (min kf x, t'))).take 32), some (w9.heap.size, v1, (ins (i + 1) (fst h (er h s), s) (ks.set i (min kf x, t'))).drop 32), rfl, hsp.1, setT_full hi hk hs hl, rfl, (fun s h => by cases h; exact hsp.2.1), hsp.2.2.1, hsp.2.2.2.1, hsp.2.2.2.2⟩

set_option maxHeartbeats 4000000 in
set_option maxRecDepth 100000 in
theorem set_node (h : Nat) (ih : SetOk h) : SetOk (h + 1) := by
  rintro ⟨b, v, ks⟩ x y w ha hok hnd
  obtain ⟨hasc0, hne0, hlen0, hall⟩ := hok
  have hasc : Asc (ks.map (·.1)) := by rw [← map_fst]; exact hasc0
  have hne : ks ≠ [] := fun e => hne0 (by rw [er_succ, e]; rfl)
  have hlen : ks.length ≤ 64 := by
    have : (ks.map fun k => (k.1, er h k.2)).length ≤ 64 := hlen0
    simpa using this
  have hallk : ∀ k ∈ ks, Ok h (er h k.2) ∧ NE h (er h k.2) := fun k hk => hall (k.1, er h k.2) (List.mem_map.2 ⟨k, hk, rfl⟩)
  have hpos : 0 < ks.length := List.length_pos_iff.2 hne
  obtain ⟨W0, hW0⟩ : ∃ W0, W0 = w.alloc (.cells #[.int .i64 x, .float .f64 y] 63) := ⟨_, rfl⟩
  obtain ⟨pb, hpb⟩ : ∃ pb, pb = w.heap.size := ⟨_, rfl⟩
  obtain ⟨F0, hF0⟩ : ∃ F0, F0 = foot (h + 1) (b, v, ks) := ⟨_, rfl⟩
  have M0 : Mid2 h F0 w W0 b v ks pb x y := by
    have hlt := At.lt (h + 1) _ ha
    have hn : pb ∉ foot (h + 1) (b, v, ks) := fun hm => by have := hlt pb hm; omega
    rw [hW0, hpb, hF0]
    rw [hpb] at hn
    exact ⟨alloc_keeps w _ _, (alloc_keeps w _ []).at ha (by simp), hnd, fun k hk => Or.inl hk, heap_alloc_new w _, hn, Nat.le_refl _, hn⟩
  obtain ⟨g, cap, rfl, hcap⟩ : ∃ g cap, v = .slice (some ⟨g, 0, none⟩) ks.length cap ∧ ks.length ≤ cap := by
    obtain ⟨-, -, -, -, hv⟩ := node_cells M0.at'
    rcases hv with ⟨_, h'⟩ | ⟨g, cap, h', hc, _⟩
    · exact absurd h' hne
    · exact ⟨g, cap, h', hc⟩
  obtain ⟨c0, c1, p0, p1, -⟩ := M0.cells
  have q49 : Calls Try.prog 49 #[.pointer (some ⟨b, 0, none⟩), .int .i64 x] W0 fun e w' => ∃ i0 : Nat, e = .returned (.int .i64 (i0 : Nat)) ∧ i0 < ks.length ∧ Hid (childIdx (ks.map (·.1)) x = i0 ∧ Mid2 h F0 w w' b (.slice (some ⟨g, 0, none⟩) ks.length cap) ks pb x y) := by
    refine (child_any h (b, .slice (some ⟨g, 0, none⟩) ks.length cap, ks) x W0 M0.at' hne hlen hasc).mono ?_
    rintro e w' ⟨rfl, hB⟩
    exact ⟨_, rfl, by have := childIdx_lt (zs := ks.map (·.1)) (t := x) (by simpa using hne); simpa using this, rfl, M0.below hB⟩
  have HA : Hid (Asc (ks.map (·.1)) ∧ (∀ k ∈ ks, Ok h (er h k.2) ∧ NE h (er h k.2)) ∧ F0 = foot (h + 1) (b, .slice (some ⟨g, 0, none⟩) ks.length cap, ks)) := ⟨hasc, hallk, hF0⟩
  have hl0 : (((ks.length : Nat) : Int) == 0) = false := by simp; omega
  show Calls Try.prog 43 #[.pointer (some ⟨b, 0, none⟩), .agg #[.int .i64 x, .float .f64 y]] w (SetPost (h + 1) (b, .slice (some ⟨g, 0, none⟩) ks.length cap, ks) (x, y) w)
  clear ha hasc0 hne0 hlen0 hall hasc hallk hF0 M0 hnd
  go_enter Try.func43, Try.ntmps43
  go_upto_region 1 with fail
  rw [← hW0, ← hpb]
  clear hW0 hpb
  go_wp2_with fail
  refine q49.mono ?_
  rintro e w1 ⟨i0, rfl, hi0, HM⟩
  obtain ⟨d0, d1, e0, e1, -⟩ := HM.out.2.cells
  clear q49 c0 c1 p0 p1
  go_upto_region 4 with fail
  go_cut [57] from 21 to 57 (fun s wc => ∃ (c : Bool) (q : Nat), s = .bool c ∧ wc = w1.drewN q ∧ Hid (kidM h ks x = if c = true then i0 + 1 else i0) ∧ Hid (c = true → i0 + 1 < ks.length))
  case first =>
    obtain ⟨hk1, hk2⟩ := kidM_eq HM.out.1
    by_cases hlt : i0 + 1 < ks.length
    · obtain ⟨k, hk⟩ : ∃ k, ks[i0]? = some k := ⟨_, List.getElem?_eq_getElem hi0⟩
      obtain ⟨k', hk'⟩ : ∃ k', ks[i0 + 1]? = some k' := ⟨_, List.getElem?_eq_getElem hlt⟩
      have hkm := hk2 k k' hk hk'
      obtain ⟨-, f1, -, a1⟩ := HM.out.2.kcell hk
      obtain ⟨-, f2, -, a2⟩ := HM.out.2.kcell hk'
      obtain ⟨a', c', f3⟩ := pts_cell h k'.2 a2
      have q50 := fun q => full_any h k.2 x (w1.drewN q) ((SameH.mk rfl rfl rfl rfl : SameH w1 (w1.drewN q)).at a1)
      have f2' : w1.cell? ⟨g, (i0 + 1) * 2 + 1, none⟩ = some (.pointer (some ⟨blk h k'.2, 0, none⟩)) := f2
      have hb1 : (i0 : Int) + 1 < (ks.length : Int) := by omega
      obtain ⟨fb, hfb⟩ : ∃ fb, fb = full h (er h k.2) x := ⟨_, rfl⟩
      obtain ⟨np, hnp⟩ : ∃ np, np = nPts h (er h k'.2) := ⟨_, rfl⟩
      rw [← hfb, ← hnp] at hkm
      rw [← hnp] at f3
      rw [← hfb] at q50
      have HK : Hid (kidM h ks x = if fb = true ∧ np < 128 then i0 + 1 else i0) := hkm
      obtain ⟨bk, hbk⟩ : ∃ bk, bk = blk h k.2 := ⟨_, rfl⟩
      obtain ⟨bk', hbk'⟩ : ∃ bk', bk' = blk h k'.2 := ⟨_, rfl⟩
      rw [← hbk] at f1 q50
      rw [← hbk'] at f2' f3
      clear hk hk' hk1 hk2 hkm a1 a2 f2 hfb hnp hbk hbk'
      cases fb with
      | false =>
        go_quiet ((go_at_call 50; exact Calls.quiet_of_same (q50 _)))
        go_wp2_with fail
        go_meet
        case rel => exact ⟨false, _, rfl, rfl, by have := HK.out; show kidM h ks x = _; simpa using this, fun h => by cases h⟩
      | true =>
        by_cases hnp : np < 128
        · have hnp' : (np : Int) < 128 := by omega
          go_quiet ((go_at_call 50; exact Calls.quiet_of_same (q50 _)))
          go_wp2_with fail
          go_meet
          case rel => exact ⟨true, _, rfl, rfl, by have := HK.out; rw [if_pos ⟨trivial, hnp⟩] at this; show kidM h ks x = _; simpa using this, fun _ => hlt⟩
        · have hnp' : ¬ (np : Int) < 128 := by omega
          have hnd' : decide ((np : Int) < 128) = false := decide_eq_false hnp'
          go_quiet ((go_at_call 50; exact Calls.quiet_of_same (q50 _)))
          go_wp2_with fail
          go_meet
          case rel => exact ⟨false, _, rfl, rfl, by have := HK.out; rw [if_neg (fun h => hnp h.2)] at this; show kidM h ks x = _; simpa using this, fun h => by cases h⟩
    · have hb1 : ¬ (i0 : Int) + 1 < (ks.length : Int) := by omega
      have hb1' : decide ((i0 : Int) + 1 < (ks.length : Int)) = false := decide_eq_false hb1
      have HK : Hid (kidM h ks x = i0) := hk1 hlt
      clear hk1 hk2
      go_quiet (fail)
      go_wp2_with fail
      go_meet
      case rel => exact ⟨false, _, rfl, rfl, by have := HK.out; show kidM h ks x = _; simpa using this, fun h => by cases h⟩
  case rest =>
    obtain ⟨c, q, rfl, rfl, HK, HL⟩ := hcut
    go_upto_if 57 with fail
    go_cut [5] from 58 to 59 (fun s wc => s = .int .i64 (kidM h ks x : Nat) ∧ wc = w1.drewN q)
    case first =>
      cases c with
      | true =>
        have hk := HK.out
        rw [if_pos rfl] at hk
        have HK' : Hid (kidM h ks x = i0 + 1) := hk
        clear hk HK
        go_wp2_with fail
        go_meet
        case rel => exact ⟨by rw [HK'.out]; go_num, rfl⟩
      | false =>
        have hk := HK.out
        rw [if_neg (by decide)] at hk
        have HK' : Hid (kidM h ks x = i0) := hk
        clear hk HK
        go_wp2_with fail
        go_meet
        case rel => exact ⟨by rw [HK'.out], rfl⟩
    case rest =>
      obtain ⟨rfl, rfl⟩ := hcut
      have hil : kidM h ks x < ks.length := by
        have := HK.out
        cases c with
        | true => rw [if_pos rfl] at this; have := HL.out rfl; omega
        | false => rw [if_neg (by decide)] at this; omega
      have M2 := HM.out.2.same (SameH.mk rfl rfl rfl rfl : SameH w1 (w1.drewN q))
      obtain ⟨i, hi⟩ : ∃ i, i = kidM h ks x := ⟨_, rfl⟩
      obtain ⟨W2, hW2⟩ : ∃ W2, W2 = w1.drewN q := ⟨_, rfl⟩
      rw [← hi, ← hW2]
      rw [← hi] at hil
      rw [← hW2] at M2
      have HI : Hid (kidM h ks x = i) := hi.symm
      clear hi hW2 HK HL d0 d1 e0 e1 HM
      obtain ⟨k, hk⟩ : ∃ k, ks[i]? = some k := ⟨_, List.getElem?_eq_getElem hil⟩
      obtain ⟨d0, d1, e0, e1, d2⟩ := M2.cells
      obtain ⟨f0, f1, f2, -⟩ := M2.kcell hk
      have f2' := f2 (i * 2)
      have HM2 : Hid (Mid2 h F0 w W2 b (.slice (some ⟨g, 0, none⟩) ks.length cap) ks pb x y ∧ ks[i]? = some k) := ⟨M2, hk⟩
      clear M2 hk f2
      obtain ⟨kf, kt⟩ := k
      dsimp only at f0 f1
      obtain ⟨m, hm⟩ : ∃ m, m = min kf x := ⟨_, rfl⟩
      go_upto_region 7 with fail
      go_cut [] from 66 to 75 (fun wc => Hid (SameH (W2.setCell ⟨g, i * 2, none⟩ (.int .i64 m)) wc))
      case first =>
        go_region
        all_goals
          go_wp2_with fail
          go_meet
          case rel => exact (show SameH _ _ from by rw [hm]; exact ⟨rfl, rfl, rfl, rfl⟩)
      case rest =>
        have M3 : Mid2 h F0 w wc b (.slice (some ⟨g, 0, none⟩) ks.length cap) (ks.set i (m, kt)) pb x y := by
          have := HM2.out.1.first HM2.out.2 m hcut
          rw [List.length_set] at this
          exact this
        have hokk : Ok h (er h kt) ∧ NE h (er h kt) := HA.out.2.1 (kf, kt) (List.mem_of_getElem? HM2.out.2)
        have q43 := kid_set ih hil (M3.same (SameH.mk rfl rfl rfl rfl : SameH wc wc.drew)) hokk.1
        have M3' := M3
        rw [show ks.length = (ks.set i (m, kt)).length from List.length_set.symm] at M3'
        obtain ⟨-, f1', -, -⟩ := M3'.kcell (i := i) (k := (m, kt)) (by rw [List.getElem?_set_self hil])
        dsimp only at f1'
        obtain ⟨-, -, e0', e1', -⟩ := M3.cells
        have HM3 : Hid (m = min kf x ∧ ks[i]? = some (kf, kt)) := ⟨hm, HM2.out.2⟩
        obtain ⟨bt, hbt⟩ : ∃ bt, bt = blk h kt := ⟨_, rfl⟩
        rw [← hbt] at q43 f1'
        clear M3 M3' hokk hcut HM2 f0 f1 f2' d0 d1 d2 e0 e1 hm hbt
        go_upto_region 8 with fail
        go_region_held3 (fun w' => w'.cell? ⟨g, i * 2 + 1, none⟩ = some (.pointer (some ⟨bt, 0, none⟩)) ∧ w'.cell? ⟨pb, 0, none⟩ = some (.int .i64 x) ∧ w'.cell? ⟨pb, 1, none⟩ = some (.float .f64 y)) (go_keep)
          ((go_at_call 43; refine q43.mono ?_; rintro e w4 ⟨os, rfl, HK, z0, z1, z2⟩))
        rename_i hHeld
        clear hHeld q43 f1' e0' e1' z0 z1 z2
        cases os with
        | none =>
          go_wp2_with fail
          go_ret
          have HA3 := HA.out.2.2
          have HK' := HK.out
          rw [HM3.out.1, HA3] at HK'
          exact node_none HK' HI.out HM3.out.2 ⟨rfl, rfl, rfl, rfl⟩
        | some s =>
          obtain ⟨t', M4, hst, hss⟩ := HK.out
          obtain ⟨s1, s2, s3, s4⟩ := hss s rfl
          clear HK hss
          have hnes : NE h (er h s) := setT_ne h _ _ _ _ hst
          have q44 := first_any h s w4.drew ((SameH.mk rfl rfl rfl rfl : SameH w4 w4.drew).at s1) hnes
          obtain ⟨ks4, hks4⟩ : ∃ ks4, ks4 = ks.set i (m, t') := ⟨_, rfl⟩
          rw [← hks4] at M4 s2
          have hl4 : ks4.length = ks.length := by rw [hks4]; exact List.length_set
          obtain ⟨f, hf⟩ : ∃ f, f = fst h (er h s) := ⟨_, rfl⟩
          obtain ⟨bs, hbs⟩ : ∃ bs, bs = blk h s := ⟨_, rfl⟩
          rw [← hf, ← hbs] at q44
          have q51 := insert_kid M4 (j := i + 1) (by omega) (by omega) f bs
          rw [hl4] at q51
          have hij : ((i + 1 : Nat) : Int) = (i : Int) + 1 := by omega
          rw [hij] at q51
          obtain ⟨d0, d1, e0, e1, d2⟩ := M4.cells
          have HM4 : Hid (Mid2 h F0 w w4 b (.slice (some ⟨g, 0, none⟩) ks.length cap) ks4 pb x y ∧ At w4 h s ∧ (foot (h + 1) (b, .slice (some ⟨g, 0, none⟩) ks.length cap, ks4) ++ foot h s).Nodup ∧ (∀ z ∈ foot h s, z ∈ F0 ∨ w.heap.size ≤ z) ∧ pb ∉ foot h s ∧ setT h (er h kt) (x, y) = (er h t', some (er h s)) ∧ ks4 = ks.set i (m, t') ∧ ks4.length = ks.length ∧ f = fst h (er h s) ∧ bs = blk h s) := ⟨M4, s1, s2, s3, s4, hst, hks4, hl4, hf, hbs⟩
          have m0 : (w4.drew.alloc (.cells #[.int .i64 f, .pointer (some ⟨bs, 0, none⟩)] 84)).cell? ⟨b, 1, none⟩ = some (.slice (some ⟨g, 0, none⟩) ks.length cap) := Lib.cell?_alloc_some _ d1
          have m0' : (w4.alloc (.cells #[.int .i64 f, .pointer (some ⟨bs, 0, none⟩)] 84)).cell? ⟨b, 1, none⟩ = some (.slice (some ⟨g, 0, none⟩) ks.length cap) := Lib.cell?_alloc_some _ d1
          have m1 : b ≠ w4.heap.size := (World.new_ne w4 ⟨b, 1, none⟩ d1).symm
          have hw1 : IntKind.i64.wrap ((i : Int) + 1) = (i : Int) + 1 := by rw [IntKind.wrap_i64]; omega
          clear M4 s1 s2 s3 s4 hst hks4 hl4 hf hbs hnes hij
          simp only [Option.map_some, ← HM4.out.2.2.2.2.2.2.2.2.2]
          go_upto_region 11 with fail
          go_cut [] from 84 to 98 (fun wc => ∃ g' cap', Hid (Mid2 h F0 w wc b (.slice (some ⟨g', 0, none⟩) (ks.length + 1) cap') (ins (i + 1) (f, s) ks4) pb x y))
          case first =>
            go_region_with (first
              | (go_at_call 44; refine q44.mono ?_; rintro e w5 ⟨rfl, rfl⟩)
              | (go_at_call 51; refine q51.mono ?_; rintro e w10 ⟨g', cap', rfl, HI5, z0, z1⟩))
            all_goals
              go_wp2_with fail
              go_meet
              case rel =>
                have h4 := HM4.out
                refine ⟨g', cap', ?_⟩
                have HI6 := HI5.out
                rw [h4.2.2.2.2.2.2.2.2.2, ← h4.2.2.2.2.2.2.2.1] at HI6
                rw [← h4.2.2.2.2.2.2.2.1]
                exact Mid2.ins (o := .cells #[.int .i64 f, .pointer (some ⟨blk h s, 0, none⟩)] 84) (h4.1.same (SameH.mk rfl rfl rfl rfl : SameH w4 w4.drew)) ((SameH.mk rfl rfl rfl rfl : SameH w4 w4.drew).at h4.2.1) h4.2.2.1 h4.2.2.2.1 h4.2.2.2.2.1 rfl HI6 ⟨rfl, rfl, rfl, rfl⟩
          case rest =>
            obtain ⟨g', cap', HM5⟩ := hcut
            clear q44 q51 d0 d1 d2 e0 e1 m0 m0' m1 hw1
            obtain ⟨d0, d1, e0, e1, d2⟩ := HM5.out.cells
            by_cases hroom : ks.length + 1 ≤ 64
            · have hroom' : (ks.length : Int) + 1 ≤ 64 := by omega
              go_wp2_with fail
              go_ret
              have h4 := HM4.out
              have h5 := HM5.out
              rw [h4.2.2.2.2.2.2.1, h4.2.2.2.2.2.2.2.2.1, HM3.out.1, HA.out.2.2] at h5
              exact node_room h5 h4.2.2.2.2.2.1 HI.out HM3.out.2 hroom
            · have hroom' : ¬ (ks.length : Int) + 1 ≤ 64 := by omega
              obtain ⟨ks5, hks5⟩ : ∃ ks5, ks5 = ins (i + 1) (f, s) ks4 := ⟨_, rfl⟩
              rw [← hks5] at HM5
              have hl5 : ks5.length = 65 := by rw [hks5, ins_length, HM4.out.2.2.2.2.2.2.2.1]; omega
              have hl64 : ks.length = 64 := by omega
              have M5 := HM5.out
              rw [show ks.length + 1 = ks5.length by omega] at M5
              obtain ⟨-, -, hr5, -, hv5⟩ := node_cells M5.at'
              have hgl : g' < wc.heap.size := (hr5.lt g' rfl).2
              have hbl : b < wc.heap.size := World.block_lt_of_cell? wc _ d1
              have hcap5 : 65 ≤ cap' := by
                rcases hv5 with ⟨h', _⟩ | ⟨_, _, h', hc, _⟩
                · cases h'
                · simp only [Value.slice.injEq, Option.some.injEq, Addr.mk.injEq, and_true, true_and] at h'
                  omega
              have q52 : Calls Try.prog 52 #[.slice (some ⟨g', 64, none⟩) 33 (cap' - 32)] wc fun e w9 => ∃ r c1, e = .returned (.slice (some ⟨r, 0, none⟩) 33 c1) ∧ Hid (w9.ownsRow wc.heap.size 84 2 (.slice (some ⟨r, 0, none⟩) 33 c1) 33 (encK h (ks5.drop 32)) ∧ Below wc.heap.size wc w9) ∧ w9.cell? ⟨b, 1, none⟩ = some (.slice (some ⟨g', 0, none⟩) 65 cap') ∧ w9.frozen? ⟨b, 1, none⟩ = false ∧ b < w9.heap.size ∧ g' < w9.heap.size := by
                have hxl : (encK h (ks5.drop 32)).length = 33 * 2 := by unfold encK; rw [pairs_length, List.length_drop]; omega
                refine (cloneK_any g' 64 33 (cap' - 32) (encK h (ks5.drop 32)) wc (by omega) (by omega) hxl (fun j u hj => ?_) (encK_one h _)).mono ?_
                · have hjl := (List.getElem?_eq_some_iff.1 hj).1
                  unfold encK at hj
                  rw [← pairs_drop, List.getElem?_drop] at hj
                  exact (hr5.cellAt (64 + j) (by omega)).trans hj
                · rintro e w9 ⟨v1, rfl, h1, h2⟩
                  obtain ⟨r, c1, rfl, _⟩ := row_slice h1 (by omega)
                  refine ⟨r, c1, rfl, ⟨h1, h2⟩, ?_, (h2.frozen (p := ⟨b, 1, none⟩) hbl).trans d2, Nat.lt_of_lt_of_le hbl h2.size, Nat.lt_of_lt_of_le hgl h2.size⟩
                  have := (h2.cell (p := ⟨b, 1, none⟩) hbl).trans d1
                  rw [hl64] at this
                  exact this
              rw [hl64] at d1
              have HM5' : Hid (Mid2 h F0 w wc b (.slice (some ⟨g', 0, none⟩) ks5.length cap') ks5 pb x y ∧ ks5 = ins (i + 1) (f, s) ks4 ∧ ks5.length = 65 ∧ ks.length = 64) := ⟨M5, hks5, hl5, hl64⟩
              clear M5 hr5 hv5 hks5 hl5 hl64 HM5
              have hdiv : (65 : Int) / 2 = 32 := by decide
              go_wp2_with fail
              refine q52.mono ?_
              rintro e w9 ⟨r, c1, rfl, HC9, k0, k1, k2, k3⟩
              clear q52
              obtain ⟨cur, hcur, hcs⟩ : ∃ cur, w9.heap[g']? = some (.cells cur 84 (0, 0)) ∧ cur.size = cap' * 2 := by
                obtain ⟨-, -, hr5, -, -⟩ := node_cells HM5'.out.1.at'
                rcases hr5.2 with ⟨h', _⟩ | ⟨g'', cap'', cur, h', _, hg, _, _, hcs, _⟩
                · cases h'
                · simp only [Value.slice.injEq, Option.some.injEq, Addr.mk.injEq, and_true, true_and] at h'
                  obtain ⟨rfl, rfl⟩ := h'
                  exact ⟨cur, (HC9.out.2.block g' hgl).trans hg, hcs⟩
              have hgb : g' ≠ b := fun e => by
                have := HM5'.out.1.nd
                rw [foot_succ] at this
                exact (List.nodup_cons.1 this).1 (by simp [Value.ownBlock, e])
              obtain ⟨zs, hzs, hclr⟩ : ∃ zs : List Value, zs.length = 66 ∧ ∀ ty, (Builtin.clear_ #[56] ty #[.slice (some ⟨g', 64, none⟩) 33 (cap' - 32)]).run Try.prog (w9.alloc (.cells #[.slice none 0 0, .slice (some ⟨r, 0, none⟩) 33 c1] 58)) = .ok (.tuple #[]) ((w9.alloc (.cells #[.slice none 0 0, .slice (some ⟨r, 0, none⟩) 33 c1] 58)).setRow g' (cur.toList.take 64 ++ zs ++ cur.toList.drop 130).toArray) := by
                obtain ⟨i0', hi0', hz0', hzs', hzb'⟩ := info_parts Try.info84
                refine ⟨(Builtin.zeroCells (Value.agg #[.int .i64 0, .pointer none]).cells 33).toList, by rw [Array.length_toList, size_zeroCells]; rfl, fun ty => ?_⟩
                exact run_clear_rowS (P := Try.prog) _ 56 ty 84 i0' (.agg #[.int .i64 0, .pointer none]) g' 64 33 (cap' - 32) cur 84 Try.underlying56 hi0' hz0' (by omega) ((Below.heap_alloc w9 _ g' k3).trans hcur) (by rw [show (Value.agg #[.int .i64 0, .pointer none]).cells.size = 2 from rfl]; omega) (by decide +kernel)
              obtain ⟨row, hrow⟩ : ∃ row, row = (cur.toList.take 64 ++ zs ++ cur.toList.drop 130).toArray := ⟨_, rfl⟩
              simp only [← hrow] at hclr
              obtain ⟨W11, hW11⟩ : ∃ W11, W11 = (w9.alloc (.cells #[.slice none 0 0, .slice (some ⟨r, 0, none⟩) 33 c1] 58)).setRow g' row := ⟨_, rfl⟩
              simp only [← hW11] at hclr
              have l0 : W11.cell? ⟨b, 1, none⟩ = some (.slice (some ⟨g', 0, none⟩) 65 cap') := by
                rw [hW11]
                exact (World.cell?_of_block ((setRow_other _ g' b _ hgb.symm).trans (Below.heap_alloc w9 _ b k2))).trans k0
              have l1 : W11.frozen? ⟨b, 1, none⟩ = false := by
                rw [hW11]
                exact (World.frozen?_of_block ((setRow_other _ g' b _ hgb.symm).trans (Below.heap_alloc w9 _ b k2))).trans k1
              have m1 : b ≠ w9.heap.size := by omega
              have hP : Hid (∀ wf, SameH (W11.setCell ⟨b, 1, none⟩ (.slice (some ⟨g', 0, none⟩) 32 cap')) wf → SetPost (h + 1) (b, .slice (some ⟨g, 0, none⟩) ks.length cap, ks) (x, y) w (.returned (.pointer (some ⟨w9.heap.size, 0, none⟩))) wf) := by
                intro wf hS
                have h4 := HM4.out
                have h5 := HM5'.out
                have h9 := HC9.out
                rw [hW11, hrow] at hS
                have h51 := h5.1
                rw [h5.2.1, h4.2.2.2.2.2.2.1, h4.2.2.2.2.2.2.2.2.1, HM3.out.1, HA.out.2.2] at h51
                have h91 := h9.1
                rw [h5.2.1, h4.2.2.2.2.2.2.1, h4.2.2.2.2.2.2.2.2.1, HM3.out.1] at h91
                exact node_full h51 h4.2.2.2.2.2.1 HI.out HM3.out.2 h5.2.2.2 h91 h9.2 hcur hzs hS
              have hc32 : (32 : Int) ≤ (cap' : Int) := by omega
              clear HM5' HC9 hcur hcs hzs hrow hW11 HM4 HM3 HA HI
              go_wp2_with (at_builtin; refine wpList_clear_runI _ rfl _ 56 rfl _ rfl (hclr _) ?_)
              go_ret
              exact hP.out _ ⟨rfl, rfl, rfl, rfl⟩

theorem set_any : ∀ h : Nat, SetOk h
  | 0 => fun t x y w ha hok hnd => set_leaf t x y w ha hok hnd
  | h + 1 => set_node h (set_any h)

end Go.Proofs.Qxb6616513a
