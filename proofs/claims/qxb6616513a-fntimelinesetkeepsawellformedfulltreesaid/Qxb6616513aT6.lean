import Derived.Test.Qxb6616513aT5
namespace Go.Proofs.Qxb6616513a
open Go.RowKit

attribute [local go_sem] run_store_f

theorem Mid.drew {w w8 : World} {b : Nat} {v : Value} {ps : List (Int × Nat)} {pb : Nat} {x : Int} {y : Nat} (M : Mid w w8 b v ps pb x y) : Mid w w8.drew b v ps pb x y :=
  ⟨⟨M.keeps.os, M.keeps.tape, M.keeps.output, M.keeps.size, M.keeps.block⟩, (SameH.mk rfl rfl rfl rfl : SameH w8 w8.drew).at M.at', M.pbc, M.fresh, M.lt, M.nd⟩

theorem Mid.cells {w w8 : World} {b : Nat} {v : Value} {ps : List (Int × Nat)} {pb : Nat} {x : Int} {y : Nat} (M : Mid w w8 b v ps pb x y) :
    w8.cell? ⟨b, 0, none⟩ = some v ∧ w8.cell? ⟨b, 1, none⟩ = some (.slice none 0 0) ∧ w8.cell? ⟨pb, 0, none⟩ = some (.int .i64 x) ∧ w8.cell? ⟨pb, 1, none⟩ = some (.float .f64 y) ∧ w8.frozen? ⟨b, 0, none⟩ = false := by
  obtain ⟨c0, c1, _⟩ := leaf_cells M.at'
  obtain ⟨⟨ty, hb⟩, _⟩ := M.at'
  refine ⟨c0, c1, by simpa using cell_of_row w8 pb 0 _ _ _ M.pbc, by simpa using cell_of_row w8 pb 1 _ _ _ M.pbc, ?_⟩
  change w8.heap[b]? = _ at hb
  simp [World.frozen?, hb]

/-- The place, and whether the time is there. -/
theorem found_iff {ps : List (Int × Nat)} {x : Int} (hz : Asc (ps.map (·.1))) {i : Nat} (hp : Place ps.length (fun j => ((ps.map (·.1))[j]?).getD 0) x i) :
    place (ps.map (·.1)) x = i ∧ (decide (i < ps.length ∧ ((ps.map (·.1))[i]?).getD 0 = x) = decide (ps[i]?.map (·.1) = some x)) := by
  have h := place_is hz x
  rw [List.length_map] at h
  refine ⟨h.unique hp, ?_⟩
  rw [List.getElem?_map]
  by_cases hi : i < ps.length
  · rw [List.getElem?_eq_getElem hi]
    simp [hi]
  · rw [List.getElem?_eq_none (by omega)]
    simp [hi]

/-- slices.Insert of the boxed point into a leaf's row. -/
theorem insert_leaf {wx : World} {b : Nat} {v : Value} {ps : List (Int × Nat)} {i pb : Nat} {x : Int} {y : Nat} (hat : At wx 0 (b, v, ps)) (hne : v.ownBlock ≠ some b) (hip : i ≤ ps.length) (hl : ps.length ≤ 128) (hpb : wx.heap[pb]? = some (.cells #[.int .i64 x, .float .f64 y] 63 (0, 0))) (hpn : v.ownBlock ≠ some pb) :
    Calls Try.prog 55 #[v, .int .i64 (i : Nat), .slice (some ⟨wx.heap.size, 0, none⟩) 1 1] (wx.drew.alloc (.cells #[.int .i64 x, .float .f64 y] 63)) fun e w' => ∃ g' cap', e = .returned (.slice (some ⟨g', 0, none⟩) (ps.length + 1) cap') ∧ Hid (InsPost (wx.drew.alloc (.cells #[.int .i64 x, .float .f64 y] 63)) 63 v ps.length i (encP ps) [.int .i64 x, .float .f64 y] (.returned (.slice (some ⟨g', 0, none⟩) (ps.length + 1) cap')) w') ∧ w'.cell? ⟨b, 0, none⟩ = some v ∧ w'.frozen? ⟨b, 0, none⟩ = false ∧ w'.cell? ⟨pb, 0, none⟩ = some (.int .i64 x) ∧ w'.cell? ⟨pb, 1, none⟩ = some (.float .f64 y) := by
  obtain ⟨c0, -, hr, -⟩ := leaf_cells hat
  have hfz := leaf_frozen hat
  have hr' : (wx.drew.alloc (.cells #[.int .i64 x, .float .f64 y] 63)).ownsRow 0 63 2 v ps.length (encP ps) := World.ownsRow.alloc hr _
  refine (insertP_any _ ps.length i (encP ps) (.int .i64 x) (.float .f64 y) wx.heap.size _ hr' (encP_one ps) rfl rfl hip (by omega) (heap_alloc_new wx.drew _) (fun e => by
    have := (hr.lt _ e).2; omega)).mono ?_
  rintro e w' ⟨v', rfl, h1, h2, h3⟩
  obtain ⟨g', cap', rfl, _⟩ := row_slice h1 (by omega)
  have hbl : b < wx.heap.size := At.lt 0 _ hat b (by simp [foot])
  have hb' : w'.heap[b]? = wx.heap[b]? := (h2.block b (by simp; omega) (fun e => hne e.symm)).trans (Below.heap_alloc wx.drew _ b hbl)
  have hpl : pb < wx.heap.size := (Array.getElem?_eq_some_iff.1 hpb).1
  have hp' : w'.heap[pb]? = wx.heap[pb]? := (h2.block pb (by simp; omega) (fun e => hpn e.symm)).trans (Below.heap_alloc wx.drew _ pb hpl)
  have hp'' := hp'.trans hpb
  exact ⟨g', cap', rfl, ⟨_, rfl, h1, h2, h3⟩, (World.cell?_of_block hb').trans c0, (World.frozen?_of_block hb').trans hfz, by simpa using cell_of_row w' pb 0 _ _ _ hp'', by simpa using cell_of_row w' pb 1 _ _ _ hp''⟩

theorem Spl.drew {w w11 : World} {b s : Nat} {v vL vR : Value} {ps psL psR : List (Int × Nat)} {pb : Nat} {x : Int} {y : Nat} (S : Spl w w11 b s v vL vR ps psL psR pb x y) : Spl w w11.drew b s v vL vR ps psL psR pb x y :=
  have h : SameH w11 w11.drew := ⟨rfl, rfl, rfl, rfl⟩
  ⟨h.at S.atL, h.at S.atR, h.keeps S.keeps, S.nd, S.mem, S.pbc, S.pbn⟩

theorem leafSet_E1 {ps : List (Int × Nat)} {x : Int} {y i : Nat} (hi : place (ps.map (·.1)) x = i) (hf : ¬ ps[i]?.map (·.1) = some x) (hl : ps.length = 128) (h1 : i ≠ 128) (h0 : i ≠ 0) (h2 : i ≤ 64) : leafSet ps (x, y) = (ins i (x, y) (ps.take 64), some (ps.drop 64)) := by
  unfold leafSet
  simp only [hi, hl]
  rw [if_neg hf, if_neg (by omega), if_neg h1, if_neg h0, if_pos (by omega)]
theorem leafSet_E2 {ps : List (Int × Nat)} {x : Int} {y i : Nat} (hi : place (ps.map (·.1)) x = i) (hf : ¬ ps[i]?.map (·.1) = some x) (hl : ps.length = 128) (h1 : i ≠ 128) (h0 : i ≠ 0) (h2 : ¬ i ≤ 64) : leafSet ps (x, y) = (ps.take 64, some (ins (i - 64) (x, y) (ps.drop 64))) := by
  unfold leafSet
  simp only [hi, hl]
  rw [if_neg hf, if_neg (by omega), if_neg h1, if_neg h0, if_neg (by omega)]

set_option maxHeartbeats 4000000 in
set_option maxRecDepth 100000 in
theorem setInLeaf_any (b : Nat) (v : Value) (ps : List (Int × Nat)) (x : Int) (y : Nat) (w : World) (ha : At w 0 (b, v, ps)) (hok : Ok 0 ps) (hnd : (foot 0 (b, v, ps)).Nodup) :
    Calls Try.prog 48 #[.pointer (some ⟨b, 0, none⟩), .agg #[.int .i64 x, .float .f64 y]] w (SetPost 0 (b, v, ps) (x, y) w) := by
  obtain ⟨hz, hl⟩ := hok
  change Asc (ps.map (·.1)) at hz
  change ps.length ≤ 128 at hl
  obtain ⟨W0, hW0⟩ : ∃ W0, W0 = w.alloc (.cells #[.int .i64 x, .float .f64 y] 63) := ⟨_, rfl⟩
  obtain ⟨pb, hpb⟩ : ∃ pb, pb = w.heap.size := ⟨_, rfl⟩
  have M0 : Mid w W0 b v ps pb x y := by
    rw [hW0, hpb]
    exact ⟨alloc_keeps w _ [], (alloc_keeps w _ []).at ha (by simp), heap_alloc_new w _, Nat.le_refl _, At.lt 0 _ ha, hnd⟩
  obtain ⟨c0, c1, p0, p1, -⟩ := M0.cells
  obtain ⟨-, -, hr, -⟩ := leaf_cells M0.at'
  obtain ⟨a, cap, rfl, hnc, hTA⟩ := row_times (f := fun k : Int × Nat => k.1) (fun _ => rfl) (fun _ => rfl) hr
  rw [times_map] at hTA
  have hTA' : TimesAt W0.drew a ps.length (fun j : Nat => ((ps.map (fun k : Int × Nat => k.1))[j]?).getD 0) := hTA
  have q0 := find_any a ps.length cap (fun j : Nat => ((ps.map (fun k : Int × Nat => k.1))[j]?).getD 0) x (by omega) hnc (fun i j h1 h2 => asc_get hz i j h1 (by simpa using h2)) W0.drew hTA'
  have q : Calls Try.prog 54 #[.slice a ps.length cap, .int .i64 x] W0.drew fun e w' => ∃ i fd, e = .returned (.tuple #[.int .i64 (i : Nat), .bool fd]) ∧ Hid (Mid w w' b (.slice a ps.length cap) ps pb x y ∧ place (ps.map (·.1)) x = i ∧ fd = decide (ps[i]?.map (·.1) = some x)) ∧ i ≤ ps.length := by
    refine q0.mono ?_
    rintro e w' ⟨hB', i, hP, rfl⟩
    obtain ⟨f1, f2⟩ := found_iff hz hP
    have hB := below_of_drew hB'
    have hB : Below W0.heap.size W0 w' := hB
    refine ⟨i, _, rfl, ⟨⟨M0.keeps.trans (Below.keeps hB []) (by simp), (Below.keeps hB []).at M0.at' (by simp), (hB.block pb (Array.getElem?_eq_some_iff.1 M0.pbc).1).trans M0.pbc, M0.fresh, M0.lt, M0.nd⟩, f1, f2⟩, hP.1⟩
  clear q0 hTA hTA' hr M0 hz ha hnd
  go_enter Try.func48, Try.ntmps48
  go_wp2_with fail
  rw [← hW0, ← hpb]
  clear hW0 hpb
  go_region_held3 (fun w' => w'.cell? ⟨b, 0, none⟩ = some (.slice a ps.length cap) ∧ w'.cell? ⟨pb, 0, none⟩ = some (.int .i64 x)) (go_keep)
    ((go_at_call 54; refine q.mono ?_; rintro e w8 ⟨i, fd, rfl, HM, hip⟩; obtain ⟨j0, j1, j2, j3, j4⟩ := HM.out.1.cells))
  rename_i hHeld
  clear hHeld q c0 c1 p0 p1
  by_cases hfd : ps[i]?.map (·.1) = some x
  · have HM' : Hid (Mid w w8 b (.slice a ps.length cap) ps pb x y ∧ place (ps.map (·.1)) x = i ∧ ps[i]?.map (·.1) = some x) := ⟨HM.out.1, HM.out.2.1, hfd⟩
    obtain rfl : fd = true := by rw [HM.out.2.2]; exact decide_eq_true hfd
    clear hfd
    have hil : i < ps.length := by
      rcases Nat.lt_or_ge i ps.length with h | h
      · exact h
      · have := HM'.out.2.2; rw [List.getElem?_eq_none h] at this; simp at this
    obtain ⟨-, -, hr, hv⟩ := leaf_cells HM.out.1.at'
    rcases hv with ⟨_, h0⟩ | ⟨g, cap', hv, -, -, hc⟩
    · rw [h0] at hil; simp at hil
    simp only [Value.slice.injEq, true_and] at hv
    obtain ⟨rfl, rfl⟩ := hv
    obtain ⟨pt, hpt⟩ : ∃ pt, ps[i]? = some pt := ⟨_, List.getElem?_eq_getElem hil⟩
    have k1 := (hc i pt hpt).2
    have k2 := hr.frozenAt (i * 2 + 1)
    clear hc hr hpt HM
    go_wp2_with fail
    go_region
    all_goals
      go_wp2_with fail
      go_ret
      exact leafA HM'.out.1 HM'.out.2.1 HM'.out.2.2 ⟨rfl, rfl, rfl, rfl⟩
  · have HM' : Hid (Mid w w8 b (.slice a ps.length cap) ps pb x y ∧ place (ps.map (·.1)) x = i ∧ ¬ ps[i]?.map (·.1) = some x) := ⟨HM.out.1, HM.out.2.1, hfd⟩
    obtain rfl : fd = false := by rw [HM.out.2.2]; exact decide_eq_false hfd
    clear hfd HM
    by_cases hl2 : ps.length < 128
    · have q55 := insert_leaf HM'.out.1.at' (nd_foot0 HM'.out.1.nd) hip (by omega) HM'.out.1.pbc (fun e => by
        have := HM'.out.1.lt pb (by simp [foot, e]); have := HM'.out.1.fresh; omega)
      have n0 : b ≠ w8.heap.size := (World.new_ne w8 ⟨b, 0, none⟩ j0).symm
      have n1 : pb ≠ w8.heap.size := (World.new_ne w8 ⟨pb, 0, none⟩ j2).symm
      have n2 : b < w8.heap.size := World.block_lt_of_cell? w8 _ j0
      have m0 : (w8.drew.alloc (.cells #[.int .i64 x, .float .f64 y] 63)).cell? ⟨b, 0, none⟩ = some (.slice a ps.length cap) := Lib.cell?_alloc_some _ j0
      have m0' : (w8.alloc (.cells #[.int .i64 x, .float .f64 y] 63)).cell? ⟨b, 0, none⟩ = some (.slice a ps.length cap) := Lib.cell?_alloc_some _ j0
      go_wp2_with fail
      go_region_with ((go_at_call 55; refine q55.mono ?_; rintro e w10 ⟨g', cap', rfl, HI, z0, z1, z2, z3⟩))
      all_goals
        go_wp2_with fail
        go_ret
        exact leafB HM'.out.1.drew HM'.out.2.1 HM'.out.2.2 hl2 HI.out ⟨rfl, rfl, rfl, rfl⟩
    · obtain ⟨-, -, hr, hv⟩ := leaf_cells HM'.out.1.at'
      rcases hv with ⟨_, h0⟩ | ⟨g, cap', hv, -, -, hc⟩
      · rw [h0] at hl2; simp at hl2
      simp only [Value.slice.injEq, true_and] at hv
      obtain ⟨rfl, rfl⟩ := hv
      have HR : Hid (w8.ownsRow 0 63 2 (.slice (some ⟨g, 0, none⟩) ps.length cap) ps.length (encP ps) ∧ Mid w w8 b (.slice (some ⟨g, 0, none⟩) ps.length cap) ps pb x y ∧ place (ps.map (·.1)) x = i ∧ ¬ ps[i]?.map (·.1) = some x ∧ ps.length = 128) := ⟨hr, HM'.out.1, HM'.out.2.1, HM'.out.2.2, by omega⟩
      obtain ⟨n, hn⟩ : ∃ n, n = ps.length := ⟨_, rfl⟩
      rw [← hn] at hl hnc j0 hl2 hip
      rw [← hn]
      clear hr hc hn HM'
      obtain hl3 : n = 128 := by omega
      subst hl3
      have n0 : b ≠ w8.heap.size := (World.new_ne w8 ⟨b, 0, none⟩ j0).symm
      have n1 : pb ≠ w8.heap.size := (World.new_ne w8 ⟨pb, 0, none⟩ j2).symm
      have n2 : b < w8.heap.size := World.block_lt_of_cell? w8 _ j0
      have n3 : pb < w8.heap.size := World.block_lt_of_cell? w8 _ j2
      have hdiv : (128 : Int) / 2 = 64 := by decide
      by_cases hC : i = 128
      · obtain ⟨i0, hi0, hz0, hzs, hzb⟩ := info_parts Try.info63
        have hmk : ∀ W : World, (Instr.makeSlice 55 (.int .i64 0) (.int .i64 32)).run Try.prog W = .ok (.slice (some ⟨W.heap.size, 0, none⟩) 0 32) (W.alloc (.cells (madeCells (Value.agg #[.int .i64 0, .float .f64 0]).cells 64) 63)) := fun W => by
          have := run_make (P := Try.prog) W 55 63 i0 _ Try.underlying55 hi0 hz0 .i64 .i64 0 32 (by decide) (by decide) (by rw [hzb]; decide) (by decide)
          rw [hzs] at this
          exact this
        obtain ⟨ROW, hROW⟩ : ∃ ROW, ROW = madeCells (Value.agg #[.int .i64 0, .float .f64 0]).cells 64 := ⟨_, rfl⟩
        have hRs : ROW.size = 64 := by rw [hROW]; exact size_madeCells _ _
        simp only [← hROW] at hmk
        clear hROW
        obtain ⟨row, hrow⟩ : ∃ row, row = (ROW.toList.take 0 ++ [Value.int .i64 x, Value.float .f64 y] ++ ROW.toList.drop (0 + 2)).toArray := ⟨_, rfl⟩
        have hrs : row.size = 64 := by rw [hrow]; simp; omega
        have hrt : row.toList.take 2 = [.int .i64 x, .float .f64 y] := by rw [hrow]; simp
        have happ : ∀ (W : World) (r nb : Nat) ty, W.heap[r]? = some (.cells ROW 63 (0, 0)) → W.heap[nb]? = some (.cells #[.int .i64 x, .float .f64 y] 63 (0, 0)) → (Builtin.append_ #[55, 55] ty #[.slice (some ⟨r, 0, none⟩) 0 32, .slice (some ⟨nb, 0, none⟩) 1 1]).run Try.prog W = .ok (.slice (some ⟨r, 0, none⟩) 1 32) (W.setRow r row) := fun W r nb ty hr hnb => by
          have := run_append_room (P := Try.prog) W 55 ty 63 i0 Try.underlying55 hi0 r 0 32 ROW hr ⟨nb, 0, none⟩ 1 1 [.int .i64 x, .float .f64 y] (by rw [hzs]; rfl) (fun j u hj => by
            rw [Addr.add_lit, cell_of_row W nb (0 + j) _ _ _ hnb]
            simpa using hj) (by intro u hu; simp at hu; rcases hu with rfl | rfl <;> rfl) (by omega) (by simp; omega)
          rw [this, hrow]
          simp
        have z1 : ((w8.drew.alloc (.cells ROW 63)).alloc (.cells #[.int .i64 x, .float .f64 y] 63)).heap[w8.heap.size]? = some (.cells ROW 63 (0, 0)) := by rw [Below.heap_alloc _ _ _ (by simp)]; exact heap_alloc_new w8.drew _
        have z2 : ((w8.drew.alloc (.cells #[.int .i64 x, .float .f64 y] 63)).alloc (.cells ROW 63)).heap[w8.heap.size + 1]? = some (.cells ROW 63 (0, 0)) := by have := heap_alloc_new (w8.drew.alloc (.cells #[.int .i64 x, .float .f64 y] 63)) (.cells ROW 63); simpa using this
        have ha1 := happ ((w8.drew.alloc (.cells ROW 63)).alloc (.cells #[.int .i64 x, .float .f64 y] 63)) w8.heap.size (w8.heap.size + 1) 55 (by rw [Below.heap_alloc _ _ _ (by simp)]; exact heap_alloc_new w8.drew _) (by have := heap_alloc_new (w8.drew.alloc (.cells ROW 63)) (.cells #[.int .i64 x, .float .f64 y] 63); simpa using this)
        have ha2 := happ ((w8.drew.alloc (.cells #[.int .i64 x, .float .f64 y] 63)).alloc (.cells ROW 63)) (w8.heap.size + 1) w8.heap.size 55 (by have := heap_alloc_new (w8.drew.alloc (.cells #[.int .i64 x, .float .f64 y] 63)) (.cells ROW 63); simpa using this) (by rw [Below.heap_alloc _ _ _ (by simp)]; exact heap_alloc_new w8.drew _)
        subst hC
        clear happ hrow hi0 hz0 hzs hzb
        have mixed : Try.prog.follows Departure.mixedOrders = true := by kernel_rfl
        have y0 : (w8.drew.alloc (.cells ROW 63)).cell? ⟨pb, 0, none⟩ = some (.int .i64 x) := Lib.cell?_alloc_some _ j2
        have y1 : (w8.drew.alloc (.cells ROW 63)).cell? ⟨pb, 1, none⟩ = some (.float .f64 y) := Lib.cell?_alloc_some _ j3
        go_wp2_with fail
        go_region_law_o (first
          | refine step_append_runI rfl _ _ 55 55 rfl (.slice (some ⟨w8.heap.size, 0, none⟩) 0 32) (.slice (some ⟨w8.heap.size + 1, 0, none⟩) 1 1) (by simp [Act.eval]) (by simp [Act.eval]) ha1 ?_
          | refine step_append_runI rfl _ _ 55 55 rfl (.slice (some ⟨w8.heap.size + 1, 0, none⟩) 0 32) (.slice (some ⟨w8.heap.size, 0, none⟩) 1 1) (by simp [Act.eval]) (by simp [Act.eval]) ha2 ?_)
        all_goals
          go_wp2_with fail
          go_ret
          have hlp := HR.out.2.2.2.2
          first
            | exact leafC' (r := w8.heap.size) (W2 := (w8.drew.alloc (.cells ROW 63)).alloc (.cells #[.int .i64 x, .float .f64 y] 63)) HR.out.2.1 (HR.out.2.2.1.trans hlp.symm) (by rw [hlp]; exact HR.out.2.2.2.1) hlp (((Below.refl _ w8).drew.alloc (Nat.le_refl _) _).alloc (by simp) _) (by simp) z1 (Nat.le_refl _) hrs hrt ⟨rfl, rfl, rfl, rfl⟩
            | exact leafC' (r := w8.heap.size + 1) (W2 := (w8.drew.alloc (.cells #[.int .i64 x, .float .f64 y] 63)).alloc (.cells ROW 63)) HR.out.2.1 (HR.out.2.2.1.trans hlp.symm) (by rw [hlp]; exact HR.out.2.2.2.1) hlp (((Below.refl _ w8).drew.alloc (Nat.le_refl _) _).alloc (by simp) _) (by simp) z2 (by omega) hrs hrt ⟨rfl, rfl, rfl, rfl⟩
      · by_cases hD : i = 0
        · subst hD
          go_wp2_with fail
          go_ret
          have HM := HR.out.2.1
          exact leafD HR.out.2.1 HR.out.2.2.1 HR.out.2.2.2.1 HR.out.2.2.2.2 (by rw [HR.out.2.2.2.2]; exact ⟨rfl, rfl, rfl, rfl⟩)
        · have hq1 : ((i : Int) == 128) = false := by simp; omega
          have hq2 : ((i : Int) == 0) = false := by simp; omega
          have q56 : Calls Try.prog 56 #[.slice (some ⟨g, 128, none⟩) 64 (cap - 64)] w8 fun e w9 => ∃ r c1, e = .returned (.slice (some ⟨r, 0, none⟩) 64 c1) ∧ Hid (w9.ownsRow w8.heap.size 63 2 (.slice (some ⟨r, 0, none⟩) 64 c1) 64 (encP (ps.drop 64)) ∧ Below w8.heap.size w8 w9) ∧ w9.cell? ⟨b, 0, none⟩ = some (.slice (some ⟨g, 0, none⟩) 128 cap) ∧ w9.frozen? ⟨b, 0, none⟩ = false ∧ b < w9.heap.size := by
            have hr := HR.out.1
            have hlp := HR.out.2.2.2.2
            have hxl : (encP (ps.drop 64)).length = 64 * 2 := by unfold encP; rw [pairs_length, List.length_drop]; omega
            refine (cloneP_any g 128 64 (cap - 64) (encP (ps.drop 64)) w8 (by omega) (by omega) hxl (fun j u hj => ?_) (encP_one _)).mono ?_
            · have hjl := (List.getElem?_eq_some_iff.1 hj).1
              unfold encP at hj
              rw [← pairs_drop, List.getElem?_drop] at hj
              exact (hr.cellAt (128 + j) (by omega)).trans hj
            · rintro e w9 ⟨v1, rfl, h1, h2⟩
              obtain ⟨r, c1, rfl, _⟩ := row_slice h1 (by omega)
              exact ⟨r, c1, rfl, ⟨h1, h2⟩, (h2.cell (p := ⟨b, 0, none⟩) n2).trans j0, (h2.frozen (p := ⟨b, 0, none⟩) n2).trans j4, Nat.lt_of_lt_of_le n2 h2.size⟩
          go_wp2_with fail
          refine q56.mono ?_
          rintro e w9 ⟨r, c1, rfl, HC9, k0, k1, k2⟩
          clear q56
          have hcap : (64 : Int) ≤ (cap : Int) := by omega
          have n4 : b ≠ w9.heap.size := by omega
          by_cases hE : i ≤ 64
          · have hE' : (i : Int) ≤ 64 := by omega
            have hS := split_leaf HR.out.2.1 HR.out.2.2.2.2 HC9.out.1 HC9.out.2 (wf := (w9.setCell ⟨b, 0, none⟩ (.slice (some ⟨g, 0, none⟩) 64 cap)).alloc (.cells #[.slice (some ⟨r, 0, none⟩) 64 c1, .slice none 0 0] 58)) ⟨rfl, rfl, rfl, rfl⟩
            go_wp2_with fail
            obtain ⟨W11, hW11⟩ : ∃ W11, W11 = (w9.setCell ⟨b, 0, none⟩ (.slice (some ⟨g, 0, none⟩) 64 cap)).alloc (.cells #[.slice (some ⟨r, 0, none⟩) 64 c1, .slice none 0 0] 58) := ⟨_, rfl⟩
            obtain ⟨s, hs⟩ : ∃ s, s = w9.heap.size := ⟨_, rfl⟩
            rw [← hW11, ← hs] at hS
            rw [← hW11, ← hs]
            have hlp := HR.out.2.2.2.2
            have hset : leafSet ps (x, y) = (ins i (x, y) (ps.take 64), some (ps.drop 64)) := leafSet_E1 HR.out.2.2.1 HR.out.2.2.2.1 hlp hC hD hE
            have hlt : (ps.take 64).length = 64 := by rw [List.length_take]; omega
            obtain ⟨n1', _, _⟩ := List.nodup_append.1 hS.nd
            have q55 := insert_leaf hS.atL (nd_foot0 n1') (i := i) (by omega) (by omega) hS.pbc (fun e => hS.pbn (List.mem_append_left _ (by simp [foot, e])))
            obtain ⟨d0, -, -, -⟩ := leaf_cells hS.atL
            have d1 := leaf_frozen hS.atL
            have d2 : W11.cell? ⟨pb, 0, none⟩ = some (.int .i64 x) := by simpa using cell_of_row W11 pb 0 _ _ _ hS.pbc
            have d3 : W11.cell? ⟨pb, 1, none⟩ = some (.float .f64 y) := by simpa using cell_of_row W11 pb 1 _ _ _ hS.pbc
            have HS : Hid (Spl w W11 b s (.slice (some ⟨g, 0, none⟩) ps.length cap) (.slice (some ⟨g, 0, none⟩) 64 cap) (.slice (some ⟨r, 0, none⟩) 64 c1) ps (ps.take 64) (ps.drop 64) pb x y ∧ leafSet ps (x, y) = (ins i (x, y) (ps.take 64), some (ps.drop 64)) ∧ (ps.take 64).length = 64) := ⟨hS, hset, hlt⟩
            rw [hlt] at q55
            have m0 : (W11.drew.alloc (.cells #[.int .i64 x, .float .f64 y] 63)).cell? ⟨b, 0, none⟩ = some (.slice (some ⟨g, 0, none⟩) 64 cap) := Lib.cell?_alloc_some _ d0
            have m0' : (W11.alloc (.cells #[.int .i64 x, .float .f64 y] 63)).cell? ⟨b, 0, none⟩ = some (.slice (some ⟨g, 0, none⟩) 64 cap) := Lib.cell?_alloc_some _ d0
            have m1 : b ≠ W11.heap.size := (World.new_ne W11 ⟨b, 0, none⟩ d0).symm
            have m2 : pb ≠ W11.heap.size := (World.new_ne W11 ⟨pb, 0, none⟩ d2).symm
            clear hW11 hs hS hset hlt hlp HC9 HR j0 j1 j2 j3 j4 k0 k1 k2 n0 n1 n2 n3 n4
            go_region_with ((go_at_call 55; refine q55.mono ?_; rintro e w10 ⟨g', cap', rfl, HI, z0, z1, z2, z3⟩))
            all_goals
              go_wp2_with fail
              go_ret
              exact leafE1 HS.out.1.drew HS.out.2.1 (by rw [HS.out.2.2]; exact HI.out) ⟨rfl, rfl, rfl, rfl⟩
          · have hE' : ¬ (i : Int) ≤ 64 := by omega
            have hS := split_leaf HR.out.2.1 HR.out.2.2.2.2 HC9.out.1 HC9.out.2 (wf := (w9.setCell ⟨b, 0, none⟩ (.slice (some ⟨g, 0, none⟩) 64 cap)).alloc (.cells #[.slice (some ⟨r, 0, none⟩) 64 c1, .slice none 0 0] 58)) ⟨rfl, rfl, rfl, rfl⟩
            go_wp2_with fail
            obtain ⟨W11, hW11⟩ : ∃ W11, W11 = (w9.setCell ⟨b, 0, none⟩ (.slice (some ⟨g, 0, none⟩) 64 cap)).alloc (.cells #[.slice (some ⟨r, 0, none⟩) 64 c1, .slice none 0 0] 58) := ⟨_, rfl⟩
            obtain ⟨s, hs⟩ : ∃ s, s = w9.heap.size := ⟨_, rfl⟩
            rw [← hW11, ← hs] at hS
            rw [← hW11, ← hs]
            have hlp := HR.out.2.2.2.2
            have hset : leafSet ps (x, y) = (ps.take 64, some (ins (i - 64) (x, y) (ps.drop 64))) := leafSet_E2 HR.out.2.2.1 HR.out.2.2.2.1 hlp hC hD hE
            have hlt : (ps.drop 64).length = 64 := by rw [List.length_drop]; omega
            obtain ⟨_, n2', _⟩ := List.nodup_append.1 hS.nd
            have q55 := insert_leaf hS.atR (nd_foot0 n2') (i := i - 64) (by omega) (by omega) hS.pbc (fun e => hS.pbn (List.mem_append_right _ (by simp [foot, e])))
            obtain ⟨d0, -, -, -⟩ := leaf_cells hS.atR
            have d1 := leaf_frozen hS.atR
            have d2 : W11.cell? ⟨pb, 0, none⟩ = some (.int .i64 x) := by simpa using cell_of_row W11 pb 0 _ _ _ hS.pbc
            have d3 : W11.cell? ⟨pb, 1, none⟩ = some (.float .f64 y) := by simpa using cell_of_row W11 pb 1 _ _ _ hS.pbc
            have hi64 : (i : Int) - 64 = ((i - 64 : Nat) : Int) := by omega
            have HS : Hid (Spl w W11 b s (.slice (some ⟨g, 0, none⟩) ps.length cap) (.slice (some ⟨g, 0, none⟩) 64 cap) (.slice (some ⟨r, 0, none⟩) 64 c1) ps (ps.take 64) (ps.drop 64) pb x y ∧ leafSet ps (x, y) = (ps.take 64, some (ins (i - 64) (x, y) (ps.drop 64))) ∧ (ps.drop 64).length = 64) := ⟨hS, hset, hlt⟩
            rw [hlt] at q55
            obtain ⟨i', hi'⟩ : ∃ i', i' = i - 64 := ⟨_, rfl⟩
            rw [← hi'] at q55 hi64 HS
            have hw64 : IntKind.i64.wrap (i' : Int) = (i' : Int) := by rw [IntKind.wrap_i64]; omega
            have m0 : (W11.drew.alloc (.cells #[.int .i64 x, .float .f64 y] 63)).cell? ⟨s, 0, none⟩ = some (.slice (some ⟨r, 0, none⟩) 64 c1) := Lib.cell?_alloc_some _ d0
            have m0' : (W11.alloc (.cells #[.int .i64 x, .float .f64 y] 63)).cell? ⟨s, 0, none⟩ = some (.slice (some ⟨r, 0, none⟩) 64 c1) := Lib.cell?_alloc_some _ d0
            have m1 : s ≠ W11.heap.size := (World.new_ne W11 ⟨s, 0, none⟩ d0).symm
            have m2 : pb ≠ W11.heap.size := (World.new_ne W11 ⟨pb, 0, none⟩ d2).symm
            clear hW11 hs hS hset hlt hlp HC9 HR j0 j1 j2 j3 j4 k0 k1 k2 n0 n1 n2 n3 n4 hi'
            go_region_with ((go_at_call 55; refine q55.mono ?_; rintro e w10 ⟨g', cap', rfl, HI, z0, z1, z2, z3⟩))
            all_goals
              go_wp2_with fail
              go_ret
              exact leafE2 HS.out.1.drew HS.out.2.1 (by rw [HS.out.2.2]; exact HI.out) ⟨rfl, rfl, rfl, rfl⟩

end Go.Proofs.Qxb6616513a
