import Derived.Test.Qxb6616513aT12
import Derived.Deep.CutRange
namespace Go.Proofs.Qxb6616513a
open Go.RowKit

attribute [local go_sem] run_store_f

theorem root_split' {h : Nat} {t t' s : HT h} {x : Int} {y : Nat} {w W W' W5 : World} {pb : Nat} (M : RMid h t x y w W pb) (hf : fastLeaf (er 0 (lastH h t minI).1) (lastH h t minI).2 (x, y) = none)
    (hb : blk h t' = blk h t) (hat : At W' h t') (hss : At W' h s) (hs : setT h (er h t) (x, y) = (er h t', some (er h s))) (hkp : Keeps (foot h t) W W') (hnd : (foot h t' ++ foot h s).Nodup) (hin : ∀ z ∈ foot h t' ++ foot h s, z ∈ foot h t ∨ W.heap.size ≤ z)
    {v0 v1 : Value} {ty : TypeId} {b0 nb bs : Nat} {f1 f2 : Int} (hb0 : b0 = blk h t) (hnb : nb = W'.heap.size) (hbs : bs = blk h s) (hf1 : f1 = fst h (er h t')) (hf2 : f2 = fst h (er h s)) (hno : W'.heap[b0]? = some (.cells #[v0, v1] ty (0, 0))) (hB : Below nb W' W5) (hn5 : W5.heap[nb]? = some (.cells #[v0, v1] 58 (0, 0))) (hs5 : W5.heap.size = nb + 1) :
    RootPost h t (x, y) w (((W5.setCell ⟨b0, 0, none⟩ (.slice none 0 0)).setCell ⟨b0, 1, none⟩ (.slice (some ⟨W5.heap.size, 0, none⟩) 2 2)).alloc (.cells #[.int .i64 f1, .pointer (some ⟨nb, 0, none⟩), .int .i64 f2, .pointer (some ⟨bs, 0, none⟩)] 84)) := by
  subst hb0 hnb hbs hf1 hf2
  have hbl : blk h t < W'.heap.size := (Array.getElem?_eq_some_iff.1 hno).1
  have hb5 : W5.heap[blk h t]? = some (.cells #[v0, v1] ty (0, 0)) := (hB.block _ hbl).trans hno
  obtain ⟨W6, hW6⟩ : ∃ W6, W6 = (W5.setCell ⟨blk h t, 0, none⟩ (.slice none 0 0)).setCell ⟨blk h t, 1, none⟩ (.slice (some ⟨W5.heap.size, 0, none⟩) 2 2) := ⟨_, rfl⟩
  rw [← hW6]
  have s6 : W6.heap.size = W5.heap.size := by rw [hW6]; simp
  have o6 : ∀ k, k ≠ blk h t → W6.heap[k]? = W5.heap[k]? := fun k hk => by
    rw [hW6, Below.heap_setCell _ _ _ k hk, Below.heap_setCell _ _ _ k hk]
  have hb6 : W6.heap[blk h t]? = some (.cells #[.slice none 0 0, .slice (some ⟨W5.heap.size, 0, none⟩) 2 2] ty (0, 0)) := by
    rw [hW6]; exact cells_set1 (cells_set0 hb5)
  have k6 : Keeps [blk h t] W' W6 := by
    refine (Below.keeps hB [blk h t]).trans (F' := [blk h t]) ⟨by rw [hW6]; rfl, by rw [hW6]; rfl, by rw [hW6]; rfl, by omega, fun k _ hn => o6 k (by simpa using hn)⟩ (fun z hz => Or.inl hz)
  refine root_split M hf hb hat hss hs hkp hnd hin (nb := W'.heap.size) (r := W5.heap.size) (ty := ty) (ty1 := ty) (ty2 := 58) (c := #[v0, v1]) hno ?_ ?_ ?_ (Nat.le_refl _) (by omega) (by omega) (k6.trans (alloc_keeps W6 _ []) (by simp))
  · rw [Below.heap_alloc W6 _ _ (by omega), o6 _ (by omega)]; exact hn5
  · rw [← s6]; exact heap_alloc_new W6 _
  · rw [Below.heap_alloc W6 _ _ (by omega)]; exact hb6

/-- The latest point's value is put in its place. -/
theorem fastA {w1 wf : World} {lb g cap n : Nat} {lps : List (Int × Nat)} {q : Int × Nat} {x : Int} {y : Nat} (la : At w1 0 (lb, .slice (some ⟨g, 0, none⟩) lps.length cap, lps)) (hq : lps[n]? = some q) (hx : x = q.1) (hnd : (foot 0 (lb, .slice (some ⟨g, 0, none⟩) lps.length cap, lps)).Nodup)
    (hS : SameH (w1.setCell ⟨g, n * 2 + 1, none⟩ (.float .f64 y)) wf) : At wf 0 (lb, .slice (some ⟨g, 0, none⟩) lps.length cap, lps.set n (x, y)) ∧ Keeps (foot 0 (lb, .slice (some ⟨g, 0, none⟩) lps.length cap, lps)) w1 wf := by
  obtain ⟨⟨ty, hb⟩, hr⟩ := la
  change w1.heap[lb]? = _ at hb
  change w1.ownsRow 0 63 2 _ lps.length (encP lps) at hr
  have hne : lb ≠ g := fun e => nd_foot0 hnd (by rw [e]; rfl)
  refine ⟨hS.at ⟨⟨ty, (Below.heap_setCell w1 _ _ lb hne).trans hb⟩, ?_⟩, hS.keeps (setCell_keeps w1 _ _ _ (by simp [foot, Value.ownBlock]))⟩
  have h1 := (hr.stored (n * 2 + 1) (.float .f64 y)).1
  unfold encP at h1
  rw [pairs_set1 (fun p : Int × Nat => .int .i64 p.1) (fun p : Int × Nat => .float .f64 p.2) lps n q (x, y) hq (by rw [hx])] at h1
  show World.ownsRow _ 0 63 2 (.slice (some ⟨g, 0, none⟩) lps.length cap) (lps.set n (x, y)).length (encP (lps.set n (x, y)))
  rw [List.length_set]
  exact h1

/-- 'append' of the boxed point to the last leaf's row. -/
theorem append_leaf {wx : World} {b : Nat} {v : Value} {ps : List (Int × Nat)} {x : Int} {y : Nat} (hat : At wx 0 (b, v, ps)) (hne : v.ownBlock ≠ some b) (hl : ps.length ≤ 128) :
    ∃ g' cap' w', (Builtin.append_ #[55, 55] 55 #[v, .slice (some ⟨wx.heap.size, 0, none⟩) 1 1]).run Try.prog (wx.drew.alloc (.cells #[.int .i64 x, .float .f64 y] 63)) = .ok (.slice (some ⟨g', 0, none⟩) (ps.length + 1) cap') w' ∧ w'.cell? ⟨b, 0, none⟩ = some v ∧ w'.frozen? ⟨b, 0, none⟩ = false ∧
      ∀ wf, SameH (w'.setCell ⟨b, 0, none⟩ (.slice (some ⟨g', 0, none⟩) (ps.length + 1) cap')) wf → At wf 0 (b, .slice (some ⟨g', 0, none⟩) (ps.length + 1) cap', ps ++ [(x, y)]) ∧ Keeps (foot 0 (b, v, ps)) wx wf ∧ (foot 0 (b, .slice (some ⟨g', 0, none⟩) (ps.length + 1) cap', ps ++ [(x, y)])).Nodup ∧ ∀ k ∈ foot 0 (b, .slice (some ⟨g', 0, none⟩) (ps.length + 1) cap', ps ++ [(x, y)]), k ∈ foot 0 (b, v, ps) ∨ wx.heap.size ≤ k := by
  obtain ⟨c0, -, hr, -⟩ := leaf_cells hat
  have hfz := leaf_frozen hat
  obtain ⟨i0, hi0, hz0, hzs, hzb⟩ := info_parts Try.info63
  have hr' : (wx.drew.alloc (.cells #[.int .i64 x, .float .f64 y] 63)).ownsRow 0 63 2 v ps.length (encP ps) := World.ownsRow.alloc hr _
  obtain ⟨v', w', hrun, ho', hg', hm'⟩ := run_append_own2 (P := Try.prog) (wx.drew.alloc (.cells #[.int .i64 x, .float .f64 y] 63)) 0 55 55 63 i0 _ 2 16 Try.underlying55 hi0 hz0 hzs hzb rfl v ps.length (encP ps) hr' ⟨wx.heap.size, 0, none⟩ 1 1 [.int .i64 x, .float .f64 y] rfl (fun j u hj => by
    rw [Addr.add_lit, cell_of_row _ wx.heap.size (0 + j) _ _ _ (heap_alloc_new wx.drew _)]
    simpa using hj) (by intro u hu; simp at hu; rcases hu with rfl | rfl <;> rfl) (by omega) (by unfold maxLen; omega) (by omega) (Nat.zero_le _)
  obtain ⟨g', cap', rfl, _⟩ := row_slice ho' (by omega)
  have hbl : b < wx.heap.size := At.lt 0 _ hat b (by simp [foot])
  have hb' : w'.heap[b]? = wx.heap[b]? := (hg'.block b (by simp; omega) (fun e => hne e.symm)).trans (Below.heap_alloc wx.drew _ b hbl)
  refine ⟨g', cap', w', hrun, (World.cell?_of_block hb').trans c0, (World.frozen?_of_block hb').trans hfz, fun wf hS => ?_⟩
  have hlen : (encP ps).length = ps.length * 2 := by unfold encP; rw [pairs_length]
  have hsame : SameH wx wx.drew := ⟨rfl, rfl, rfl, rfl⟩
  obtain ⟨a1, a2, a3, a4⟩ := leaf_laid (w8 := wx.drew) (ps' := ps ++ [(x, y)]) (i := ps.length) (news := [.int .i64 x, .float .f64 y]) (hsame.at hat) hne rfl (by rw [← hlen, List.take_length, List.drop_length, List.append_nil]; exact ho') (by rw [← hlen, List.take_length, List.drop_length, List.append_nil]; unfold encP; rw [pairs_append]; rfl) (by simp) hg' hm'
  refine ⟨hS.at a1, hS.keeps ⟨a2.os, a2.tape, a2.output, a2.size, a2.block⟩, a3, a4⟩

set_option maxHeartbeats 4000000 in
set_option maxRecDepth 100000 in
theorem tlset_any (h : Nat) (t : HT h) (x : Int) (y : Nat) (w : World) (ha : At w h t) (hok : Ok h (er h t)) (hnd : (foot h t).Nodup) :
    Calls Try.prog 29 #[.pointer (some ⟨blk h t, 0, none⟩), .agg #[.int .i64 x, .float .f64 y]] w fun e w' => e = .returned (.tuple #[]) ∧ RootPost h t (x, y) w w' := by
  obtain ⟨W0, hW0⟩ : ∃ W0, W0 = w.alloc (.cells #[.int .i64 x, .float .f64 y] 63) := ⟨_, rfl⟩
  obtain ⟨pb, hpb⟩ : ∃ pb, pb = w.heap.size := ⟨_, rfl⟩
  have M0 : RMid h t x y w W0 pb := by
    rw [hW0, hpb]
    exact ⟨alloc_keeps w _ [], (alloc_keeps w _ []).at ha (by simp), hok, hnd, At.lt h t ha, heap_alloc_new w _, Nat.le_refl _⟩
  obtain ⟨b0, hb0⟩ : ∃ b0, b0 = blk h t := ⟨_, rfl⟩
  obtain ⟨⟨⟨lb, lv, lps⟩, fr⟩, hL⟩ : ∃ L : HT 0 × Int, L = lastH h t minI := ⟨_, rfl⟩
  have q42 : Calls Try.prog 42 #[.pointer (some ⟨b0, 0, none⟩)] W0 fun e w' => e = .returned (.tuple #[.pointer (some ⟨lb, 0, none⟩), .int .i64 fr]) ∧ Hid (RMid h t x y w w' pb) := by
    rw [hb0]
    refine (lastLeaf_any h t W0 M0.at' hok).mono ?_
    rintro e w' ⟨rfl, hB⟩
    have hL' : lastH h t (-9223372036854775808) = ((lb, lv, lps), fr) := hL.symm
    rw [hL']
    exact ⟨rfl, M0.keeps.trans (Below.keeps hB []) (by simp), (Below.keeps hB []).at M0.at' (by simp), hok, hnd, M0.lt, (hB.block pb (Array.getElem?_eq_some_iff.1 M0.pbc).1).trans M0.pbc, M0.fresh⟩
  have HB : Hid (b0 = blk h t) := hb0
  have HL : Hid (lastH h t minI = ((lb, lv, lps), fr)) := hL.symm
  rw [← hb0]
  clear ha hok hnd M0 hb0 hL
  go_enter Try.func29, Try.ntmps29
  go_upto_region 1 with fail
  rw [← hW0, ← hpb]
  clear hW0 hpb
  go_wp2_with fail
  refine q42.mono ?_
  rintro e w1 ⟨rfl, HM⟩
  clear q42
  have hleaf := last_at h t minI w1 HM.out.at' HM.out.ok
  rw [HL.out] at hleaf
  obtain ⟨la, lsub, lok, lnd⟩ := hleaf
  obtain ⟨c0, c1, hr, hv⟩ := leaf_cells la
  have p0 : w1.cell? ⟨pb, 0, none⟩ = some (.int .i64 x) := by simpa using cell_of_row w1 pb 0 _ _ _ HM.out.pbc
  have p1 : w1.cell? ⟨pb, 1, none⟩ = some (.float .f64 y) := by simpa using cell_of_row w1 pb 1 _ _ _ HM.out.pbc
  rcases hv with ⟨rfl, rfl⟩ | ⟨g, cap, rfl, hnc, hgl, hc⟩
  · have HF : Hid (fastLeaf (er 0 (lastH h t minI).1) (lastH h t minI).2 (x, y) = none) := by rw [HL.out]; rfl
    clear la lsub lok lnd hr
    have q43 : Calls Try.prog 43 #[.pointer (some ⟨b0, 0, none⟩), .agg #[.int .i64 x, .float .f64 y]] w1.drew fun e w' => ∃ (t' : HT h) (os : Option (HT h)), e = .returned (.pointer (os.map fun s => ⟨blk h s, 0, none⟩)) ∧ Hid (blk h t' = b0 ∧ At w' h t' ∧ setT h (er h t) (x, y) = (er h t', os.map (er h)) ∧ (∀ s, os = some s → At w' h s) ∧ Keeps (foot h t) w1 w' ∧ (foot h t' ++ footO h os).Nodup ∧ ∀ z ∈ foot h t' ++ footO h os, z ∈ foot h t ∨ w1.heap.size ≤ z) ∧ w'.cell? ⟨pb, 0, none⟩ = some (.int .i64 x) ∧ w'.cell? ⟨pb, 1, none⟩ = some (.float .f64 y) := by
      have hM := HM.out
      rw [HB.out]
      refine (set_any h t x y w1.drew ((SameH.mk rfl rfl rfl rfl : SameH w1 w1.drew).at hM.at') hM.ok hM.nd).mono ?_
      rintro e w' ⟨t', os, a1, a2, a3, rfl, a5, a6, a7, a8⟩
      have hpl : pb < w1.heap.size := (Array.getElem?_eq_some_iff.1 hM.pbc).1
      have hpb' : w'.heap[pb]? = some (.cells #[.int .i64 x, .float .f64 y] 63 (0, 0)) := (a6.block pb hpl (fun hm => by have := hM.lt pb hm; have := hM.fresh; omega)).trans hM.pbc
      exact ⟨t', os, rfl, ⟨a1, a2, a3, a5, ⟨a6.os, a6.tape, a6.output, a6.size, a6.block⟩, a7, a8⟩, by simpa using cell_of_row w' pb 0 _ _ _ hpb', by simpa using cell_of_row w' pb 1 _ _ _ hpb'⟩
    go_wp2_with fail
    go_region_held3 (fun w' => w'.cell? ⟨pb, 0, none⟩ = some (.int .i64 x) ∧ w'.cell? ⟨pb, 1, none⟩ = some (.float .f64 y)) (go_keep)
      ((go_at_call 43; refine q43.mono ?_; rintro e w4 ⟨t', os, rfl, HK, z1, z2⟩))
    rename_i hHeld
    clear hHeld q43 z1 z2
    cases os with
    | none =>
      go_wp2_with fail
      refine bodyPost_ret (v := .tuple #[]) (by simp [results, Try.f29]) rfl ⟨rfl, ?_⟩
      have hK := HK.out
      exact root_slow HM.out HF.out (hK.1.trans HB.out) ((SameH.mk rfl rfl rfl rfl : SameH w4 _).at hK.2.1) hK.2.2.1 ((SameH.mk rfl rfl rfl rfl : SameH w4 _).keeps hK.2.2.2.2.1) (by simpa [footO] using hK.2.2.2.2.2.1) (by simpa [footO] using hK.2.2.2.2.2.2)
    | some s =>
      have hK := HK.out
      have hsat := hK.2.2.2.1 s rfl
      obtain ⟨a0, a1, n0, k0, n1, k1, ty, hpair⟩ := node_pair h t' hK.2.1
      rw [hK.1] at hpair
      have r0 : w4.cell? ⟨b0, 0, none⟩ = some (.slice a0 n0 k0) := by simpa using cell_of_row w4 b0 0 _ _ _ hpair
      have r1 : w4.cell? ⟨b0, 1, none⟩ = some (.slice a1 n1 k1) := by simpa using cell_of_row w4 b0 1 _ _ _ hpair
      have hbl : b0 < w4.heap.size := (Array.getElem?_eq_some_iff.1 hpair).1
      have m0 : b0 ≠ w4.heap.size := by omega
      obtain ⟨W5, hW5⟩ : ∃ W5, W5 = w4.alloc (.cells #[.slice a0 n0 k0, .slice a1 n1 k1] 58) := ⟨_, rfl⟩
      have hB5 : Below w4.heap.size w4 W5 := by rw [hW5]; exact (Below.refl _ _).alloc (Nat.le_refl _) _
      have hnb5 : W5.heap[w4.heap.size]? = some (.cells #[.slice a0 n0 k0, .slice a1 n1 k1] 58 (0, 0)) := by rw [hW5]; exact heap_alloc_new w4 _
      have hs5 : W5.heap.size = w4.heap.size + 1 := by rw [hW5]; simp
      have htl : ∀ z ∈ (foot h t').tail, z ∈ foot h t' := fun z hz => by rw [foot_cons]; exact List.mem_cons_of_mem _ hz
      have aL : At W5 h (reblk h t' w4.heap.size) := reblk_at h t' w4.heap.size hK.2.1 (by rw [hK.1]; exact hpair) hnb5 fun z hz => hB5.block z (At.lt h t' hK.2.1 z (htl z hz))
      have aS : At W5 h s := (Below.keeps hB5 []).at hsat (by simp)
      have q44a := first_any h (reblk h t' w4.heap.size) W5 aL (by rw [reblk_er]; exact setT_neL h _ _ _ _ hK.2.2.1)
      rw [reblk_blk, reblk_er] at q44a
      have q44b := first_any h s W5 aS (setT_ne h _ _ _ _ hK.2.2.1)
      obtain ⟨f1, hf1⟩ : ∃ f1, f1 = fst h (er h t') := ⟨_, rfl⟩
      obtain ⟨f2, hf2⟩ : ∃ f2, f2 = fst h (er h s) := ⟨_, rfl⟩
      obtain ⟨bs, hbs⟩ : ∃ bs, bs = blk h s := ⟨_, rfl⟩
      rw [← hf1] at q44a
      rw [← hf2, ← hbs] at q44b
      have HS : Hid (At w4 h s ∧ w4.heap[b0]? = some (.cells #[.slice a0 n0 k0, .slice a1 n1 k1] ty (0, 0)) ∧ f1 = fst h (er h t') ∧ f2 = fst h (er h s) ∧ bs = blk h s) := ⟨hsat, hpair, hf1, hf2, hbs⟩
      have HW5 : Hid (Below w4.heap.size w4 W5 ∧ W5.heap[w4.heap.size]? = some (.cells #[.slice a0 n0 k0, .slice a1 n1 k1] 58 (0, 0)) ∧ W5.heap.size = w4.heap.size + 1) := ⟨hB5, hnb5, hs5⟩
      simp only [Option.map_some, ← hbs]
      go_upto_region 12 with fail
      rw [← hW5]
      obtain ⟨nb, hnb⟩ : ∃ nb, nb = w4.heap.size := ⟨_, rfl⟩
      rw [← hnb] at q44a HW5 m0
      rw [← hnb]
      have HN : Hid (nb = w4.heap.size) := hnb
      have t0 : W5.cell? ⟨b0, 0, none⟩ = some (.slice a0 n0 k0) := (hB5.cell (p := ⟨b0, 0, none⟩) hbl).trans r0
      have t1 : W5.cell? ⟨b0, 1, none⟩ = some (.slice a1 n1 k1) := (hB5.cell (p := ⟨b0, 1, none⟩) hbl).trans r1
      have hb5 : W5.heap[b0]? = some (.cells #[.slice a0 n0 k0, .slice a1 n1 k1] ty (0, 0)) := (hB5.block b0 hbl).trans hpair
      have t2 : W5.frozen? ⟨b0, 0, none⟩ = false := by simp [World.frozen?, hb5]
      have t3 : W5.frozen? ⟨b0, 1, none⟩ = false := by simp [World.frozen?, hb5]
      have hbl5 : b0 < W5.heap.size := by omega
      have m5 : b0 ≠ W5.heap.size := by omega
      clear hK hpair hsat hW5 hB5 hnb5 hs5 htl aL aS hf1 hf2 hbs hnb r0 r1 hbl hb5 p0 p1 c0 c1
      go_wp2_with fail
      refine q44a.mono ?_
      rintro e w6 ⟨rfl, rfl⟩
      go_wp2_with fail
      refine q44b.mono ?_
      rintro e w7 ⟨rfl, rfl⟩
      clear q44a q44b
      go_wp2_with fail
      refine bodyPost_end (v := .tuple #[]) (by simp [results, Try.f29]) rfl ⟨rfl, ?_⟩
      have hK := HK.out
      have hS := HS.out
      have h5 := HW5.out
      exact root_split' HM.out HF.out (hK.1.trans HB.out) hK.2.1 hS.1 hK.2.2.1 hK.2.2.2.2.1 hK.2.2.2.2.2.1 hK.2.2.2.2.2.2 HB.out HN.out hS.2.2.2.2 hS.2.2.1 hS.2.2.2.1 hS.2.1 h5.1 h5.2.1 h5.2.2
  · by_cases hn0 : lps.length = 0
    · have hl0 : lps = [] := List.eq_nil_of_length_eq_zero hn0
      subst hl0
      have HF : Hid (fastLeaf (er 0 (lastH h t minI).1) (lastH h t minI).2 (x, y) = none) := by rw [HL.out]; rfl
      clear la lsub lok lnd hr hc
      have q43 : Calls Try.prog 43 #[.pointer (some ⟨b0, 0, none⟩), .agg #[.int .i64 x, .float .f64 y]] w1.drew fun e w' => ∃ (t' : HT h) (os : Option (HT h)), e = .returned (.pointer (os.map fun s => ⟨blk h s, 0, none⟩)) ∧ Hid (blk h t' = b0 ∧ At w' h t' ∧ setT h (er h t) (x, y) = (er h t', os.map (er h)) ∧ (∀ s, os = some s → At w' h s) ∧ Keeps (foot h t) w1 w' ∧ (foot h t' ++ footO h os).Nodup ∧ ∀ z ∈ foot h t' ++ footO h os, z ∈ foot h t ∨ w1.heap.size ≤ z) ∧ w'.cell? ⟨pb, 0, none⟩ = some (.int .i64 x) ∧ w'.cell? ⟨pb, 1, none⟩ = some (.float .f64 y) := by
        have hM := HM.out
        rw [HB.out]
        refine (set_any h t x y w1.drew ((SameH.mk rfl rfl rfl rfl : SameH w1 w1.drew).at hM.at') hM.ok hM.nd).mono ?_
        rintro e w' ⟨t', os, a1, a2, a3, rfl, a5, a6, a7, a8⟩
        have hpl : pb < w1.heap.size := (Array.getElem?_eq_some_iff.1 hM.pbc).1
        have hpb' : w'.heap[pb]? = some (.cells #[.int .i64 x, .float .f64 y] 63 (0, 0)) := (a6.block pb hpl (fun hm => by have := hM.lt pb hm; have := hM.fresh; omega)).trans hM.pbc
        exact ⟨t', os, rfl, ⟨a1, a2, a3, a5, ⟨a6.os, a6.tape, a6.output, a6.size, a6.block⟩, a7, a8⟩, by simpa using cell_of_row w' pb 0 _ _ _ hpb', by simpa using cell_of_row w' pb 1 _ _ _ hpb'⟩
      go_wp2_with fail
      go_region_held3 (fun w' => w'.cell? ⟨pb, 0, none⟩ = some (.int .i64 x) ∧ w'.cell? ⟨pb, 1, none⟩ = some (.float .f64 y)) (go_keep)
        ((go_at_call 43; refine q43.mono ?_; rintro e w4 ⟨t', os, rfl, HK, z1, z2⟩))
      rename_i hHeld
      clear hHeld q43 z1 z2
      cases os with
      | none =>
        go_wp2_with fail
        refine bodyPost_ret (v := .tuple #[]) (by simp [results, Try.f29]) rfl ⟨rfl, ?_⟩
        have hK := HK.out
        exact root_slow HM.out HF.out (hK.1.trans HB.out) ((SameH.mk rfl rfl rfl rfl : SameH w4 _).at hK.2.1) hK.2.2.1 ((SameH.mk rfl rfl rfl rfl : SameH w4 _).keeps hK.2.2.2.2.1) (by simpa [footO] using hK.2.2.2.2.2.1) (by simpa [footO] using hK.2.2.2.2.2.2)
      | some s =>
        have hK := HK.out
        have hsat := hK.2.2.2.1 s rfl
        obtain ⟨a0, a1, n0, k0, n1, k1, ty, hpair⟩ := node_pair h t' hK.2.1
        rw [hK.1] at hpair
        have r0 : w4.cell? ⟨b0, 0, none⟩ = some (.slice a0 n0 k0) := by simpa using cell_of_row w4 b0 0 _ _ _ hpair
        have r1 : w4.cell? ⟨b0, 1, none⟩ = some (.slice a1 n1 k1) := by simpa using cell_of_row w4 b0 1 _ _ _ hpair
        have hbl : b0 < w4.heap.size := (Array.getElem?_eq_some_iff.1 hpair).1
        have m0 : b0 ≠ w4.heap.size := by omega
        obtain ⟨W5, hW5⟩ : ∃ W5, W5 = w4.alloc (.cells #[.slice a0 n0 k0, .slice a1 n1 k1] 58) := ⟨_, rfl⟩
        have hB5 : Below w4.heap.size w4 W5 := by rw [hW5]; exact (Below.refl _ _).alloc (Nat.le_refl _) _
        have hnb5 : W5.heap[w4.heap.size]? = some (.cells #[.slice a0 n0 k0, .slice a1 n1 k1] 58 (0, 0)) := by rw [hW5]; exact heap_alloc_new w4 _
        have hs5 : W5.heap.size = w4.heap.size + 1 := by rw [hW5]; simp
        have htl : ∀ z ∈ (foot h t').tail, z ∈ foot h t' := fun z hz => by rw [foot_cons]; exact List.mem_cons_of_mem _ hz
        have aL : At W5 h (reblk h t' w4.heap.size) := reblk_at h t' w4.heap.size hK.2.1 (by rw [hK.1]; exact hpair) hnb5 fun z hz => hB5.block z (At.lt h t' hK.2.1 z (htl z hz))
        have aS : At W5 h s := (Below.keeps hB5 []).at hsat (by simp)
        have q44a := first_any h (reblk h t' w4.heap.size) W5 aL (by rw [reblk_er]; exact setT_neL h _ _ _ _ hK.2.2.1)
        rw [reblk_blk, reblk_er] at q44a
        have q44b := first_any h s W5 aS (setT_ne h _ _ _ _ hK.2.2.1)
        obtain ⟨f1, hf1⟩ : ∃ f1, f1 = fst h (er h t') := ⟨_, rfl⟩
        obtain ⟨f2, hf2⟩ : ∃ f2, f2 = fst h (er h s) := ⟨_, rfl⟩
        obtain ⟨bs, hbs⟩ : ∃ bs, bs = blk h s := ⟨_, rfl⟩
        rw [← hf1] at q44a
        rw [← hf2, ← hbs] at q44b
        have HS : Hid (At w4 h s ∧ w4.heap[b0]? = some (.cells #[.slice a0 n0 k0, .slice a1 n1 k1] ty (0, 0)) ∧ f1 = fst h (er h t') ∧ f2 = fst h (er h s) ∧ bs = blk h s) := ⟨hsat, hpair, hf1, hf2, hbs⟩
        have HW5 : Hid (Below w4.heap.size w4 W5 ∧ W5.heap[w4.heap.size]? = some (.cells #[.slice a0 n0 k0, .slice a1 n1 k1] 58 (0, 0)) ∧ W5.heap.size = w4.heap.size + 1) := ⟨hB5, hnb5, hs5⟩
        simp only [Option.map_some, ← hbs]
        go_upto_region 12 with fail
        rw [← hW5]
        obtain ⟨nb, hnb⟩ : ∃ nb, nb = w4.heap.size := ⟨_, rfl⟩
        rw [← hnb] at q44a HW5 m0
        rw [← hnb]
        have HN : Hid (nb = w4.heap.size) := hnb
        have t0 : W5.cell? ⟨b0, 0, none⟩ = some (.slice a0 n0 k0) := (hB5.cell (p := ⟨b0, 0, none⟩) hbl).trans r0
        have t1 : W5.cell? ⟨b0, 1, none⟩ = some (.slice a1 n1 k1) := (hB5.cell (p := ⟨b0, 1, none⟩) hbl).trans r1
        have hb5 : W5.heap[b0]? = some (.cells #[.slice a0 n0 k0, .slice a1 n1 k1] ty (0, 0)) := (hB5.block b0 hbl).trans hpair
        have t2 : W5.frozen? ⟨b0, 0, none⟩ = false := by simp [World.frozen?, hb5]
        have t3 : W5.frozen? ⟨b0, 1, none⟩ = false := by simp [World.frozen?, hb5]
        have hbl5 : b0 < W5.heap.size := by omega
        have m5 : b0 ≠ W5.heap.size := by omega
        clear hK hpair hsat hW5 hB5 hnb5 hs5 htl aL aS hf1 hf2 hbs hnb r0 r1 hbl hb5 p0 p1 c0 c1
        go_wp2_with fail
        refine q44a.mono ?_
        rintro e w6 ⟨rfl, rfl⟩
        go_wp2_with fail
        refine q44b.mono ?_
        rintro e w7 ⟨rfl, rfl⟩
        clear q44a q44b
        go_wp2_with fail
        refine bodyPost_end (v := .tuple #[]) (by simp [results, Try.f29]) rfl ⟨rfl, ?_⟩
        have hK := HK.out
        have hS := HS.out
        have h5 := HW5.out
        exact root_split' HM.out HF.out (hK.1.trans HB.out) hK.2.1 hS.1 hK.2.2.1 hK.2.2.2.2.1 hK.2.2.2.2.2.1 hK.2.2.2.2.2.2 HB.out HN.out hS.2.2.2.2 hS.2.2.1 hS.2.2.2.1 hS.2.1 h5.1 h5.2.1 h5.2.2
    · obtain ⟨n, hn⟩ : ∃ n, lps.length = n + 1 := ⟨lps.length - 1, by omega⟩
      obtain ⟨q, hq⟩ : ∃ q, lps[lps.length - 1]? = some q := ⟨_, List.getElem?_eq_getElem (by omega)⟩
      obtain ⟨k0, k1⟩ := hc _ q hq
      have hl128 : lps.length ≤ 128 := lok.2
      have hfz := hr.frozenAt (n * 2 + 1)
      have hfz0 := leaf_frozen la
      have hne : lb ≠ g := fun e => nd_foot0 (lnd HM.out.nd) (by rw [e]; rfl)
      rw [show lps.length - 1 = n by omega] at k0 k1 hq
      have HX : Hid (At w1 0 (lb, .slice (some ⟨g, 0, none⟩) lps.length cap, lps) ∧ lps.length = n + 1 ∧ lps[n]? = some q ∧ (foot 0 (lb, .slice (some ⟨g, 0, none⟩) lps.length cap, lps)).Nodup ∧ (∀ z ∈ foot 0 (lb, .slice (some ⟨g, 0, none⟩) lps.length cap, lps), z ∈ foot h t) ∧ w1.ownsRow 0 63 2 (.slice (some ⟨g, 0, none⟩) lps.length cap) lps.length (encP lps)) := ⟨la, hn, hq, lnd HM.out.nd, lsub, hr⟩
      have HL' : Hid (fastLeaf (er 0 (lastH h t minI).1) (lastH h t minI).2 (x, y) = if fr ≤ x then (if x = q.1 then some (lps.set n (x, y)) else if q.1 < x ∧ lps.length < 128 then some (lps ++ [(x, y)]) else none) else none) := by
        rw [HL.out]
        show fastLeaf lps fr (x, y) = _
        unfold fastLeaf
        rw [show lps.length - 1 = n by omega, hq]
      have c0' : w1.cell? ⟨lb, 0, none⟩ = some (.slice (some ⟨g, 0, none⟩) (n + 1) cap) := by rw [← hn]; exact c0
      rw [hn] at hnc hl128
      have hn1 : ((n : Int) + 1) - 1 = (n : Int) := by omega
      have hn2 : (0 : Int) < (n : Int) + 1 := by omega
      clear la lsub lok lnd hr hc c0 hn hq hn0
      go_upto_if 27 with fail
      go_cut [7] from 15 to 70 (fun _ wc => wc = w1 ∧ Hid (fastLeaf (er 0 (lastH h t minI).1) (lastH h t minI).2 (x, y) = none))
      case first =>
        by_cases hfr : fr ≤ x
        · by_cases hx : x = q.1
          · have hxd : (x == q.1) = true := by simpa using hx
            have HF : Hid (fastLeaf (er 0 (lastH h t minI).1) (lastH h t minI).2 (x, y) = some (lps.set n (x, y))) := by have := HL'.out; rw [if_pos hfr, if_pos hx] at this; exact this
            have HQ : Hid (x = q.1) := hx
            clear hx
            go_wp2_with fail
            go_region
            all_goals
              go_wp2_with fail
              refine bodyPost_ret (v := .tuple #[]) (by simp [results, Try.f29]) rfl ⟨rfl, ?_⟩
              have hX := HX.out
              have hM := HM.out
              have hLo := HL.out
              refine root_fast (v' := .slice (some ⟨g, 0, none⟩) lps.length cap) hM.keeps hM.at' hM.ok hM.nd HF.out ?_ ?_ ?_ ?_
              · rw [hLo]; refine (fastA hX.1 hX.2.2.1 HQ.out hX.2.2.2.1 (y := y) ?_).1; exact ⟨rfl, rfl, rfl, rfl⟩
              · rw [hLo]; refine (fastA hX.1 hX.2.2.1 HQ.out hX.2.2.2.1 (y := y) ?_).2; exact ⟨rfl, rfl, rfl, rfl⟩
              · rw [hLo]; exact hX.2.2.2.1
              · rw [hLo]; intro z hz; exact Or.inl hz
          · have hxd : (x == q.1) = false := by simpa using hx
            by_cases hgt : q.1 < x
            · by_cases hl2 : n + 1 < 128
              · have hl2' : (n : Int) + 1 < 128 := by omega
                have HF : Hid (fastLeaf (er 0 (lastH h t minI).1) (lastH h t minI).2 (x, y) = some (lps ++ [(x, y)])) := by have := HL'.out; rw [if_pos hfr, if_neg hx, if_pos ⟨hgt, by rw [HX.out.2.1]; exact hl2⟩] at this; exact this
                obtain ⟨g', cap', w10, hrun, z0, z1, hPst⟩ := append_leaf (x := x) (y := y) HX.out.1 (nd_foot0 HX.out.2.2.2.1) (by rw [HX.out.2.1]; exact hl128)
                rw [HX.out.2.1] at hrun z0
                have HP : Hid (∀ wf, SameH (w10.setCell ⟨lb, 0, none⟩ (.slice (some ⟨g', 0, none⟩) (n + 1 + 1) cap')) wf → At wf 0 (lb, .slice (some ⟨g', 0, none⟩) (n + 1 + 1) cap', lps ++ [(x, y)]) ∧ Keeps (foot 0 (lb, .slice (some ⟨g, 0, none⟩) lps.length cap, lps)) w1 wf ∧ (foot 0 (lb, .slice (some ⟨g', 0, none⟩) (n + 1 + 1) cap', lps ++ [(x, y)])).Nodup ∧ ∀ k ∈ foot 0 (lb, .slice (some ⟨g', 0, none⟩) (n + 1 + 1) cap', lps ++ [(x, y)]), k ∈ foot 0 (lb, .slice (some ⟨g, 0, none⟩) lps.length cap, lps) ∨ w1.heap.size ≤ k) := by
                  rw [HX.out.2.1] at hPst ⊢
                  exact hPst
                clear hPst
                have mixed : Try.prog.follows Departure.mixedOrders = true := by kernel_rfl
                have m0 : (w1.alloc (.cells #[.int .i64 x, .float .f64 y] 63)).cell? ⟨lb, 0, none⟩ = some (.slice (some ⟨g, 0, none⟩) (n + 1) cap) := Lib.cell?_alloc_some _ c0'
                have m1 : lb ≠ w1.heap.size := (World.new_ne w1 ⟨lb, 0, none⟩ c0').symm
                have m2 : pb ≠ w1.heap.size := (World.new_ne w1 ⟨pb, 0, none⟩ p0).symm
                clear hx
                go_wp2_with fail
                go_region_law_o (refine step_append_runI rfl _ _ 55 55 rfl (.slice (some ⟨g, 0, none⟩) (n + 1) cap) (.slice (some ⟨w1.heap.size, 0, none⟩) 1 1) (by simp [Act.eval]) (by simp [Act.eval]) hrun ?_)
                all_goals
                  go_wp2_with fail
                  refine bodyPost_ret (v := .tuple #[]) (by simp [results, Try.f29]) rfl ⟨rfl, ?_⟩
                  obtain ⟨a1, a2, a3, a4⟩ := HP.out _ ⟨rfl, rfl, rfl, rfl⟩
                  have hM := HM.out
                  have hLo := HL.out
                  refine root_fast (v' := .slice (some ⟨g', 0, none⟩) (n + 1 + 1) cap') hM.keeps hM.at' hM.ok hM.nd HF.out ?_ ?_ ?_ ?_
                  · rw [hLo]; exact a1
                  · rw [hLo]; exact a2
                  · rw [hLo]; exact a3
                  · rw [hLo]; exact a4
              · have hl2' : ¬ (n : Int) + 1 < 128 := by omega
                have HF : Hid (fastLeaf (er 0 (lastH h t minI).1) (lastH h t minI).2 (x, y) = none) := by have := HL'.out; rw [if_pos hfr, if_neg hx, if_neg (by rw [HX.out.2.1]; exact fun h => hl2 h.2)] at this; exact this
                clear hx
                go_wp2_with fail
                go_meet
                case rel => exact ⟨rfl, HF⟩
            · have HF : Hid (fastLeaf (er 0 (lastH h t minI).1) (lastH h t minI).2 (x, y) = none) := by have := HL'.out; rw [if_pos hfr, if_neg hx, if_neg (fun h => hgt h.1)] at this; exact this
              clear hx
              go_wp2_with fail
              go_meet
              case rel => exact ⟨rfl, HF⟩
        · have HF : Hid (fastLeaf (er 0 (lastH h t minI).1) (lastH h t minI).2 (x, y) = none) := by have := HL'.out; rw [if_neg hfr] at this; exact this
          go_wp2_with fail
          go_meet
          case rel => exact ⟨rfl, HF⟩
      case rest =>
        obtain ⟨rfl, HF⟩ := hcut
        clear k0 k1 hfz hfz0 HX HL' c0' c1
        have q43 : Calls Try.prog 43 #[.pointer (some ⟨b0, 0, none⟩), .agg #[.int .i64 x, .float .f64 y]] wc.drew fun e w' => ∃ (t' : HT h) (os : Option (HT h)), e = .returned (.pointer (os.map fun s => ⟨blk h s, 0, none⟩)) ∧ Hid (blk h t' = b0 ∧ At w' h t' ∧ setT h (er h t) (x, y) = (er h t', os.map (er h)) ∧ (∀ s, os = some s → At w' h s) ∧ Keeps (foot h t) wc w' ∧ (foot h t' ++ footO h os).Nodup ∧ ∀ z ∈ foot h t' ++ footO h os, z ∈ foot h t ∨ wc.heap.size ≤ z) ∧ w'.cell? ⟨pb, 0, none⟩ = some (.int .i64 x) ∧ w'.cell? ⟨pb, 1, none⟩ = some (.float .f64 y) := by
          have hM := HM.out
          rw [HB.out]
          refine (set_any h t x y wc.drew ((SameH.mk rfl rfl rfl rfl : SameH wc wc.drew).at hM.at') hM.ok hM.nd).mono ?_
          rintro e w' ⟨t', os, a1, a2, a3, rfl, a5, a6, a7, a8⟩
          have hpl : pb < wc.heap.size := (Array.getElem?_eq_some_iff.1 hM.pbc).1
          have hpb' : w'.heap[pb]? = some (.cells #[.int .i64 x, .float .f64 y] 63 (0, 0)) := (a6.block pb hpl (fun hm => by have := hM.lt pb hm; have := hM.fresh; omega)).trans hM.pbc
          exact ⟨t', os, rfl, ⟨a1, a2, a3, a5, ⟨a6.os, a6.tape, a6.output, a6.size, a6.block⟩, a7, a8⟩, by simpa using cell_of_row w' pb 0 _ _ _ hpb', by simpa using cell_of_row w' pb 1 _ _ _ hpb'⟩
        go_wp2_with fail
        go_region_held3 (fun w' => w'.cell? ⟨pb, 0, none⟩ = some (.int .i64 x) ∧ w'.cell? ⟨pb, 1, none⟩ = some (.float .f64 y)) (go_keep)
          ((go_at_call 43; refine q43.mono ?_; rintro e w4 ⟨t', os, rfl, HK, z1, z2⟩))
        rename_i hHeld
        clear hHeld q43 z1 z2
        cases os with
        | none =>
          go_wp2_with fail
          refine bodyPost_ret (v := .tuple #[]) (by simp [results, Try.f29]) rfl ⟨rfl, ?_⟩
          have hK := HK.out
          exact root_slow HM.out HF.out (hK.1.trans HB.out) ((SameH.mk rfl rfl rfl rfl : SameH w4 _).at hK.2.1) hK.2.2.1 ((SameH.mk rfl rfl rfl rfl : SameH w4 _).keeps hK.2.2.2.2.1) (by simpa [footO] using hK.2.2.2.2.2.1) (by simpa [footO] using hK.2.2.2.2.2.2)
        | some s =>
          have hK := HK.out
          have hsat := hK.2.2.2.1 s rfl
          obtain ⟨a0, a1, n0, k0, n1, k1, ty, hpair⟩ := node_pair h t' hK.2.1
          rw [hK.1] at hpair
          have r0 : w4.cell? ⟨b0, 0, none⟩ = some (.slice a0 n0 k0) := by simpa using cell_of_row w4 b0 0 _ _ _ hpair
          have r1 : w4.cell? ⟨b0, 1, none⟩ = some (.slice a1 n1 k1) := by simpa using cell_of_row w4 b0 1 _ _ _ hpair
          have hbl : b0 < w4.heap.size := (Array.getElem?_eq_some_iff.1 hpair).1
          have m0 : b0 ≠ w4.heap.size := by omega
          obtain ⟨W5, hW5⟩ : ∃ W5, W5 = w4.alloc (.cells #[.slice a0 n0 k0, .slice a1 n1 k1] 58) := ⟨_, rfl⟩
          have hB5 : Below w4.heap.size w4 W5 := by rw [hW5]; exact (Below.refl _ _).alloc (Nat.le_refl _) _
          have hnb5 : W5.heap[w4.heap.size]? = some (.cells #[.slice a0 n0 k0, .slice a1 n1 k1] 58 (0, 0)) := by rw [hW5]; exact heap_alloc_new w4 _
          have hs5 : W5.heap.size = w4.heap.size + 1 := by rw [hW5]; simp
          have htl : ∀ z ∈ (foot h t').tail, z ∈ foot h t' := fun z hz => by rw [foot_cons]; exact List.mem_cons_of_mem _ hz
          have aL : At W5 h (reblk h t' w4.heap.size) := reblk_at h t' w4.heap.size hK.2.1 (by rw [hK.1]; exact hpair) hnb5 fun z hz => hB5.block z (At.lt h t' hK.2.1 z (htl z hz))
          have aS : At W5 h s := (Below.keeps hB5 []).at hsat (by simp)
          have q44a := first_any h (reblk h t' w4.heap.size) W5 aL (by rw [reblk_er]; exact setT_neL h _ _ _ _ hK.2.2.1)
          rw [reblk_blk, reblk_er] at q44a
          have q44b := first_any h s W5 aS (setT_ne h _ _ _ _ hK.2.2.1)
          obtain ⟨f1, hf1⟩ : ∃ f1, f1 = fst h (er h t') := ⟨_, rfl⟩
          obtain ⟨f2, hf2⟩ : ∃ f2, f2 = fst h (er h s) := ⟨_, rfl⟩
          obtain ⟨bs, hbs⟩ : ∃ bs, bs = blk h s := ⟨_, rfl⟩
          rw [← hf1] at q44a
          rw [← hf2, ← hbs] at q44b
          have HS : Hid (At w4 h s ∧ w4.heap[b0]? = some (.cells #[.slice a0 n0 k0, .slice a1 n1 k1] ty (0, 0)) ∧ f1 = fst h (er h t') ∧ f2 = fst h (er h s) ∧ bs = blk h s) := ⟨hsat, hpair, hf1, hf2, hbs⟩
          have HW5 : Hid (Below w4.heap.size w4 W5 ∧ W5.heap[w4.heap.size]? = some (.cells #[.slice a0 n0 k0, .slice a1 n1 k1] 58 (0, 0)) ∧ W5.heap.size = w4.heap.size + 1) := ⟨hB5, hnb5, hs5⟩
          simp only [Option.map_some, ← hbs]
          go_upto_region 12 with fail
          rw [← hW5]
          obtain ⟨nb, hnb⟩ : ∃ nb, nb = w4.heap.size := ⟨_, rfl⟩
          rw [← hnb] at q44a HW5 m0
          rw [← hnb]
          have HN : Hid (nb = w4.heap.size) := hnb
          have t0 : W5.cell? ⟨b0, 0, none⟩ = some (.slice a0 n0 k0) := (hB5.cell (p := ⟨b0, 0, none⟩) hbl).trans r0
          have t1 : W5.cell? ⟨b0, 1, none⟩ = some (.slice a1 n1 k1) := (hB5.cell (p := ⟨b0, 1, none⟩) hbl).trans r1
          have hb5 : W5.heap[b0]? = some (.cells #[.slice a0 n0 k0, .slice a1 n1 k1] ty (0, 0)) := (hB5.block b0 hbl).trans hpair
          have t2 : W5.frozen? ⟨b0, 0, none⟩ = false := by simp [World.frozen?, hb5]
          have t3 : W5.frozen? ⟨b0, 1, none⟩ = false := by simp [World.frozen?, hb5]
          have hbl5 : b0 < W5.heap.size := by omega
          have m5 : b0 ≠ W5.heap.size := by omega
          clear hK hpair hsat hW5 hB5 hnb5 hs5 htl aL aS hf1 hf2 hbs hnb r0 r1 hbl hb5 p0 p1
          go_wp2_with fail
          refine q44a.mono ?_
          rintro e w6 ⟨rfl, rfl⟩
          go_wp2_with fail
          refine q44b.mono ?_
          rintro e w7 ⟨rfl, rfl⟩
          clear q44a q44b
          go_wp2_with fail
          refine bodyPost_end (v := .tuple #[]) (by simp [results, Try.f29]) rfl ⟨rfl, ?_⟩
          have hK := HK.out
          have hS := HS.out
          have h5 := HW5.out
          exact root_split' HM.out HF.out (hK.1.trans HB.out) hK.2.1 hS.1 hK.2.2.1 hK.2.2.2.2.1 hK.2.2.2.2.2.1 hK.2.2.2.2.2.2 HB.out HN.out hS.2.2.2.2 hS.2.2.1 hS.2.2.2.1 hS.2.1 h5.1 h5.2.1 h5.2.2


end Go.Proofs.Qxb6616513a
