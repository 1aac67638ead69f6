import Derived.Test.Qxb6616513aT1
import Derived.Shelf.Spec.SlicesInsert
import Derived.Lib.AppendZerosOnto
import Derived.Laws.NewBlocks
namespace Go.Proofs.Qxb6616513a
open Go.RowKit Go.Shelf

/-- The element types' facts: two cells each. -/
theorem Try.info63 : (Try.prog.info? 63).map (fun i => (i.zero, i.size, i.bytes)) = some (some (.agg #[.int .i64 0, .float .f64 0]), 2, 16) := by kernel_rfl
theorem Try.info84 : (Try.prog.info? 84).map (fun i => (i.zero, i.size, i.bytes)) = some (some (.agg #[.int .i64 0, .pointer none]), 2, 16) := by kernel_rfl

/-- Where the row lies behind an append: where it lay, or in a new block. -/
def Moved (w : World) (v v' : Value) : Prop := v'.ownBlock = v.ownBlock ∨ ∃ g, w.heap.size ≤ g ∧ v'.ownBlock = some g

theorem run_append_own2 {P : Program} (w : World) (base : Nat) (t ty e : TypeId) (i : TypeInfo) (z : Value) (size bytes : Nat) (ht : P.underlying t = some (.slice e)) (hi : P.info? e = some i) (hz : i.zero = some z)
    (hsize : i.size = size) (hby : i.bytes = bytes) (hzs : z.cells.size = size)
    (v : Value) (n : Nat) (xs : List Value) (hown : w.ownsRow base e size v n xs)
    (a : Addr) (m c : Nat) (news : List Value) (hl : news.length = m * size) (hnews : ∀ j u, news[j]? = some u → w.cell? (a.add j) = some u) (h1 : ∀ u ∈ news, u.oneCell' = true) (hm : 0 < m)
    (h63 : n + m ≤ maxLen) (hbytes : (n + m) * bytes ≤ 140737488355328) (hbase : base ≤ w.heap.size) :
    ∃ v' w', (Builtin.append_ #[t, t] ty #[v, .slice (some a) m c]).run P w = .ok v' w' ∧ w'.ownsRow base e size v' (n + m) (xs ++ news) ∧ w.grownBy w' v.ownBlock ∧ Moved w v v' := by
  subst hsize
  subst hby
  have hsmall : n + m ≤ 9223372036854775807 := by simp only [maxLen] at h63; omega
  have hlen : (xs ++ news).length = (n + m) * i.size := by rw [List.length_append, hown.1, hl, Nat.add_mul]
  have grown : ∀ (old : Nat), old < n + m → ∀ (row : Option Nat),
      (w.drew.alloc (.cells (xs.toArray ++ news.toArray ++ Builtin.zeroCells z.cells (grownCap w (n + m) old e - (n + m))) e)).ownsRow base e i.size
        (.slice (some ⟨w.heap.size, 0, none⟩) (n + m) (grownCap w (n + m) old e)) (n + m) (xs ++ news) ∧
      w.grownBy (w.drew.alloc (.cells (xs.toArray ++ news.toArray ++ Builtin.zeroCells z.cells (grownCap w (n + m) old e - (n + m))) e)) row := by
    intro old ho row
    have hge := grownCap_ge w (n + m) old e
    have hcm : grownCap w (n + m) old e ≤ maxLen := grownCap_le_maxLen w (n + m) old e h63
    refine ⟨⟨hlen, .inr ⟨w.heap.size, _, _, rfl, hbase, heap_alloc_new w.drew _, hge, hcm, ?_, ?_⟩⟩, ⟨rfl, rfl, rfl, by simp, fun k hk _ => Below.heap_alloc w.drew _ k hk⟩⟩
    · simp only [Array.size_append, List.size_toArray, size_zeroCells, hzs, hown.1, hl, ← Nat.add_mul]
      congr 1
      omega
    · simp only [Array.toList_append, List.append_assoc]
      rw [← List.append_assoc, ← hlen]
      exact List.take_left
  rcases hown.2 with ⟨rfl, rfl⟩ | ⟨g, cap, cur, rfl, hbg, hg, hnc, hcm, hcs, htake⟩
  · have hx : xs = [] := List.eq_nil_of_length_eq_zero (by simpa using hown.1)
    subst hx
    have hr := run_append_nil (P := P) w t ty e i z ht hi hz a m c news hl hnews (by omega) (by omega) (by have hb := hbytes; simp only [Nat.zero_add] at hb; omega)
    have hgr := grown 0 (by omega) (Value.ownBlock (.slice none 0 0))
    simp only [Nat.zero_add, List.nil_append, Array.empty_append] at hgr ⊢
    exact ⟨_, _, hr, hgr.1, hgr.2, Or.inr ⟨w.heap.size, Nat.le_refl _, rfl⟩⟩
  · by_cases hroom : n + m ≤ cap
    · have hfit : n * i.size + news.length ≤ cur.size := by rw [hl, hcs, ← Nat.add_mul]; exact Nat.mul_le_mul_right _ hroom
      have hr := run_append_room (P := P) w t ty e i ht hi g n cap cur hg a m c news hl hnews h1 hroom hfit
      refine ⟨_, _, hr, ⟨hlen, .inr ⟨g, cap, _, rfl, hbg, setRow_heap w g cur _ e _ hg, hroom, hcm, ?_, ?_⟩⟩, ⟨rfl, rfl, rfl, by simp, fun k _ hk => setRow_other w g k _ (fun e => hk (by simp [Value.ownBlock, e]))⟩, Or.inl rfl⟩
      · simp only [List.size_toArray, List.length_append, List.length_take, List.length_drop, Array.length_toList]
        omega
      · rw [htake, ← hlen]
        exact List.take_left
    · have holds : ∀ j u, xs[j]? = some u → w.cell? ((⟨g, 0, none⟩ : Addr).add j) = some u := hown.cells (g := g) rfl
      have hr := run_append_grow (P := P) w t ty e i z ht hi hz ⟨g, 0, none⟩ n cap xs hown.1 holds a m c news hl hnews (by omega) (by omega) (growslice_fits (by omega) hbytes)
      have hgr := grown cap (by omega) (Value.ownBlock (.slice (some ⟨g, 0, none⟩) n cap))
      exact ⟨_, _, hr, hgr.1, hgr.2, Or.inr ⟨w.heap.size, Nat.le_refl _, rfl⟩⟩

/-- 'copy' of elements of whatever number of cells, into a row. -/
theorem run_copy_rowS {P : Program} (w : World) (dT sT ty elem : TypeId) (i : TypeInfo) (g o dLen dCap : Nat) (a : Addr) (sLen sCap : Nat) (cur : Array Value) (t : TypeId) (cs : List Value)
    (hu : P.underlying dT = some (.slice elem)) (hi : P.info? elem = some i)
    (hg : w.heap[g]? = some (.cells cur t (0, 0))) (hn : cs.length = Nat.min sLen dLen * i.size)
    (hsrc : ∀ j v, cs[j]? = some v → w.cell? (a.add j) = some v) (hfit : o + cs.length ≤ cur.size) (h1 : ∀ v ∈ cs, v.oneCell' = true) :
    (Builtin.copy_ #[dT, sT] ty #[.slice (some ⟨g, o, none⟩) dLen dCap, .slice (some a) sLen sCap]).run P w =
      .ok (goInt (Nat.min sLen dLen)) (w.setRow g (cur.toList.take o ++ cs ++ cur.toList.drop (o + cs.length)).toArray) := by
  have hf := run_firstCells_some (P := P) w i.size (Nat.min sLen dLen) a sLen sCap cs hn hsrc
  have hst := run_storeCells_at P g o t cs 0 cur w hg (by simpa using hfit) h1
  simp only [Nat.add_zero] at hst
  simp [Builtin.copy_, run_underlying hu, Builtin.lenOf, sizeOf, typeInfo, hi, hf, hst]

/-- What slices.Insert of one element answers. -/
def InsPost (w : World) (E : TypeId) (v : Value) (n i : Nat) (xs news : List Value) (e : Ending) (w' : World) : Prop :=
  ∃ v', e = .returned v' ∧ w'.ownsRow 0 E 2 v' (n + 1) (xs.take (i * 2) ++ news ++ xs.drop (i * 2)) ∧ w.grownBy w' v.ownBlock ∧ Moved w v v'

/-- What slices.Clone answers. -/
def ClonePost (w : World) (E : TypeId) (m : Nat) (xs : List Value) (e : Ending) (w' : World) : Prop :=
  ∃ v', e = .returned v' ∧ w'.ownsRow w.heap.size E 2 v' m xs ∧ Below w.heap.size w w'

theorem take_mid {α : Type} (cur xs news : List α) (k i n : Nat) (hx : cur.take n = xs) (hk : i ≤ n) (hn : n ≤ cur.length) (hl : news.length = k) (hr : n + k ≤ cur.length) :
    ((((cur.take (i + k) ++ xs.drop i ++ cur.drop (i + k + (xs.drop i).length)).take i) ++ news ++ ((cur.take (i + k) ++ xs.drop i ++ cur.drop (i + k + (xs.drop i).length)).drop (i + news.length))).take (n + k)) = xs.take i ++ news ++ xs.drop i := by
  subst hx hl
  have hx : (cur.take n).length = n := by simp; omega
  have e1 : ((cur.take (i + news.length) ++ (cur.take n).drop i ++ cur.drop (i + news.length + ((cur.take n).drop i).length)).take i) = (cur.take n).take i := by
    rw [List.append_assoc, List.take_append_of_le_length (by simp; omega), List.take_take, List.take_take]
    congr 1; omega
  have e2 : ((cur.take (i + news.length) ++ (cur.take n).drop i ++ cur.drop (i + news.length + ((cur.take n).drop i).length)).drop (i + news.length)) = (cur.take n).drop i ++ cur.drop (i + news.length + ((cur.take n).drop i).length) := by
    have h : (cur.take (i + news.length)).length = i + news.length := by simp; omega
    rw [List.append_assoc]
    conv => lhs; arg 1; rw [← h]
    exact List.drop_left
  rw [e1, e2, ← List.append_assoc]
  have h : ((cur.take n).take i ++ news ++ (cur.take n).drop i).length = n + news.length := by
    simp; omega
  rw [← h]
  exact List.take_left

theorem take_mid2 {α : Type} (row xs news : List α) (i n k : Nat) (hx : xs.length = n) (hi : i ≤ n) (hl : news.length = k) (hrow : row.take i = xs.take i) (hr : n + k ≤ row.length) :
    ((((row.take i ++ news ++ row.drop (i + news.length)).take (i + k)) ++ xs.drop i ++ ((row.take i ++ news ++ row.drop (i + news.length)).drop (i + k + (xs.drop i).length))).take (n + k)) = xs.take i ++ news ++ xs.drop i := by
  subst hx hl
  have h1 : (row.take i ++ news).length = i + news.length := by simp; omega
  have e1 : ((row.take i ++ news ++ row.drop (i + news.length)).take (i + news.length)) = row.take i ++ news := by
    conv => lhs; arg 1; rw [← h1]
    exact List.take_left
  rw [e1, hrow]
  have h : (xs.take i ++ news ++ xs.drop i).length = xs.length + news.length := by simp; omega
  rw [← h]
  exact List.take_left

set_option maxHeartbeats 2000000 in
set_option maxRecDepth 100000 in
theorem insertP_end (v : Value) (n : Nat) (xs : List Value) (x0 x1 : Value) (vb : Nat) (w : World) (hown : w.ownsRow 0 63 2 v n xs) (hx0 : x0.oneCell' = true) (hx1 : x1.oneCell' = true) (hn : n ≤ 1000)
    (hvb : w.heap[vb]? = some (.cells #[x0, x1] 63 (0, 0))) : Calls Try.prog 55 #[v, .int .i64 n, .slice (some ⟨vb, 0, none⟩) 1 1] w (InsPost w 63 v n n xs [x0, x1]) := by
  obtain ⟨i0, hi0, hz0, hzs, hzb⟩ := info_parts Try.info63
  obtain ⟨v', w', hrun, ho', hg', hm'⟩ := run_append_own2 (P := Try.prog) w 0 55 55 63 i0 _ 2 16 Try.underlying55 hi0 hz0 hzs hzb rfl v n xs hown ⟨vb, 0, none⟩ 1 1 [x0, x1] rfl (fun j u hj => by
    rw [Addr.add_lit]
    rw [cell_of_row w vb (0 + j) _ _ _ hvb]
    simpa using hj) (by simp [hx0, hx1]) (by omega) (by unfold maxLen; omega) (by omega) (Nat.zero_le _)
  have hP : Hid (InsPost w 63 v n n xs [x0, x1] (.returned v') w') := ⟨v', rfl, by rw [← hown.1, List.take_length, List.drop_length, List.append_nil]; exact ho', hg', hm'⟩
  rcases hown.2 with ⟨rfl, rfl⟩ | ⟨g, cap, cur, rfl, hbg, hg, hnc, hcm, hcs, htake⟩
  · clear hown ho' hg' hm'
    go_enter Try.func55, Try.ntmps55
    go_wp2_with (at_builtin; refine Lib.wpList_append_run _ rfl _ _ _ _ rfl _ _ rfl rfl _ _ hrun ?_)
    go_ret
    exact hP.out
  · clear hown ho' hg' hm'
    go_enter Try.func55, Try.ntmps55
    go_wp2_with (at_builtin; refine Lib.wpList_append_run _ rfl _ _ _ _ rfl _ _ rfl rfl _ _ hrun ?_)
    all_goals
      go_ret
      exact hP.out

set_option maxHeartbeats 2000000 in
set_option maxRecDepth 100000 in
theorem insertP_shift (g cap n i : Nat) (xs : List Value) (x0 x1 : Value) (vb : Nat) (w : World) (hown : w.ownsRow 0 63 2 (.slice (some ⟨g, 0, none⟩) n cap) n xs) (h1 : ∀ u ∈ xs, u.oneCell' = true) (hx0 : x0.oneCell' = true) (hx1 : x1.oneCell' = true)
    (hi : i < n) (hn : n ≤ 1000) (hroom : n + 1 ≤ cap) (hvb : w.heap[vb]? = some (.cells #[x0, x1] 63 (0, 0))) (hne : vb ≠ g) :
    Calls Try.prog 55 #[.slice (some ⟨g, 0, none⟩) n cap, .int .i64 i, .slice (some ⟨vb, 0, none⟩) 1 1] w (InsPost w 63 (.slice (some ⟨g, 0, none⟩) n cap) n i xs [x0, x1]) := by
  obtain ⟨i0, hi0, hz0, hzs, hzb⟩ := info_parts Try.info63
  rcases hown.2 with ⟨h, _⟩ | ⟨g', cap', cur, h, hbg, hg, hnc, hcm, hcs, htake⟩
  · cases h
  simp only [Value.slice.injEq, Option.some.injEq, Addr.mk.injEq, and_true, true_and] at h
  obtain ⟨rfl, rfl⟩ := h
  have hxl : xs.length = n * 2 := hown.1
  have hcl : cap ≤ 9223372036854775807 := by simpa [maxLen] using hcm
  have hov : ∀ lb cb, (callFunc 65 #[.slice (some ⟨vb, 0, none⟩) 1 1, .slice (some ⟨g, (i + 1) * 2, none⟩) lb cb]).run Try.prog w = .ok (.value (.bool false)) w := fun lb cb => by
    rw [run_callFunc_extern Try.func65 (by kernel_rfl) (by kernel_rfl) (by kernel_rfl) (e := Extern.SlicesOverlaps.overlaps #[55, 55] #[4]) (by kernel_rfl),
      Lib.run_overlaps_apart w 55 4 63 Try.underlying55 2 (fun w => by simp [Go.sizeOf, typeInfo, hi0, hzs]) ⟨vb, 0, none⟩ ⟨g, (i + 1) * 2, none⟩ 1 1 lb cb hne 63 63 2 cur.size (by simp [World.shape?, hvb]) (by simp [World.shape?, hg]) (by omega) (by simp [World.frozen?, hvb]) (by simp [World.frozen?, hvb])]
    rfl
  have hdl : (xs.drop (i * 2)).length = (n - i) * 2 := by rw [List.length_drop, hxl]; omega
  have hcp1 : ∀ ty dc sc, (Builtin.copy_ #[55, 55] ty #[.slice (some ⟨g, (i + 1) * 2, none⟩) (n - i) dc, .slice (some ⟨g, i * 2, none⟩) (n + 1 - i) sc]).run Try.prog w.drew = .ok (goInt (Nat.min (n + 1 - i) (n - i))) (w.drew.setRow g (cur.toList.take ((i + 1) * 2) ++ xs.drop (i * 2) ++ cur.toList.drop ((i + 1) * 2 + (xs.drop (i * 2)).length)).toArray) := fun ty dc sc =>
    run_copy_rowS w.drew 55 55 ty 63 i0 g ((i + 1) * 2) (n - i) dc ⟨g, i * 2, none⟩ (n + 1 - i) sc cur 63 (xs.drop (i * 2)) Try.underlying55 hi0 hg (by rw [hdl, hzs]; simp only [Nat.min_def]; split <;> omega)
      (fun j u hj => by
        rw [Addr.add_lit]
        rw [List.getElem?_drop] at hj
        have hjl := (List.getElem?_eq_some_iff.1 hj).1
        exact (hown.cellAt (i * 2 + j) (by omega)).trans hj) (by omega) (fun u hu => h1 u (List.mem_of_mem_drop hu))
  obtain ⟨row1, hrow1⟩ : ∃ row1, row1 = (cur.toList.take ((i + 1) * 2) ++ xs.drop (i * 2) ++ cur.toList.drop ((i + 1) * 2 + (xs.drop (i * 2)).length)).toArray := ⟨_, rfl⟩
  rw [← hrow1] at hcp1
  have hr1s : row1.size = cap * 2 := by rw [hrow1]; simp; omega
  have hg1 : (w.drew.setRow g row1).heap[g]? = some (.cells row1 63 (0, 0)) := setRow_heap w.drew g cur _ _ _ hg
  have hvb1 : (w.drew.setRow g row1).heap[vb]? = some (.cells #[x0, x1] 63 (0, 0)) := (setRow_other w.drew g vb _ hne).trans hvb
  have hcp2 : ∀ ty dc, (Builtin.copy_ #[55, 55] ty #[.slice (some ⟨g, i * 2, none⟩) (n + 1 - i) dc, .slice (some ⟨vb, 0, none⟩) 1 1]).run Try.prog (w.drew.setRow g row1) = .ok (goInt (Nat.min 1 (n + 1 - i))) ((w.drew.setRow g row1).setRow g (row1.toList.take (i * 2) ++ [x0, x1] ++ row1.toList.drop (i * 2 + 2)).toArray) := fun ty dc =>
    run_copy_rowS (w.drew.setRow g row1) 55 55 ty 63 i0 g (i * 2) (n + 1 - i) dc ⟨vb, 0, none⟩ 1 1 row1 63 [x0, x1] Try.underlying55 hi0 hg1 (by rw [hzs, show Nat.min 1 (n + 1 - i) = 1 by simp only [Nat.min_def]; split <;> omega]; rfl)
      (fun j u hj => by
        rw [Addr.add_lit, cell_of_row _ vb (0 + j) _ _ _ hvb1]
        simpa using hj) (by simp; omega) (by simp [hx0, hx1])
  have hP : Hid (InsPost w 63 (.slice (some ⟨g, 0, none⟩) n cap) n i xs [x0, x1] (.returned (.slice (some ⟨g, 0, none⟩) (n + 1) cap)) ((w.drew.setRow g row1).setRow g (row1.toList.take (i * 2) ++ [x0, x1] ++ row1.toList.drop (i * 2 + 2)).toArray)) := by
    refine ⟨_, rfl, ⟨by simp; omega, .inr ⟨g, cap, _, rfl, Nat.zero_le _, setRow_heap _ g row1 _ _ _ hg1, hroom, hcm, by simp; omega, ?_⟩⟩, ⟨rfl, rfl, rfl, by simp [World.setRow], fun k _ hk => ?_⟩, Or.inl rfl⟩
    · have := take_mid cur.toList xs [x0, x1] 2 (i * 2) (n * 2) htake (by omega) (by simp; omega) rfl (by simp; omega)
      rw [← this, hrow1]
      simp only [show (i + 1) * 2 = i * 2 + 2 by omega, show (n + 1) * 2 = n * 2 + 2 by omega]
      rfl
    · have hk' : k ≠ g := fun e => hk (by simp [Value.ownBlock, e])
      rw [setRow_other _ g k _ hk', setRow_other _ g k _ hk']
      rfl
  obtain ⟨row2, hrow2⟩ : ∃ row2, row2 = (row1.toList.take (i * 2) ++ [x0, x1] ++ row1.toList.drop (i * 2 + 2)).toArray := ⟨_, rfl⟩
  rw [← hrow2] at hP
  simp only [← hrow2] at hcp2
  clear hrow2
  have hb1 : ¬ ((i : Int) = (n : Int)) := by omega
  have hb2 : ¬ (cap = i + 1) := by omega
  have hb3 : ¬ (cap = i) := by omega
  have hb4 : ((i : Int) + 1).toNat = i + 1 := by omega
  have hb5 : (i : Int) ≤ (n : Int) + 1 := by omega
  have hb6 : i ≤ n := by omega
  have hw1 : IntKind.i64.wrap ((i : Int) + 1) = (i : Int) + 1 := by rw [IntKind.wrap_i64]; omega
  have hb7 : (0 : Int) ≤ (i : Int) + 1 := by omega
  have hb8 : (i : Int) + 1 ≤ (n : Int) + 1 := by omega
  have mixed : Try.prog.follows Departure.mixedOrders = true := by kernel_rfl
  clear hown htake hrow1 hg1 hvb1 hdl h1
  go_enter Try.func55, Try.ntmps55
  go_wp2_with (simp only [hov])
  go_region_law_o (refine step_copy_runI rfl _ _ 55 55 rfl _ _ (by simp [Act.eval, Act.put]) (by simp [Act.eval, Act.put]) (hcp1 _ _ _) ?_)
  go_wp2_with (at_builtin; refine wpList_copy_runI _ rfl _ _ 55 55 rfl _ _ rfl rfl (hcp2 _ _) ?_)
  go_ret
  exact hP.out

set_option maxHeartbeats 2000000 in
set_option maxRecDepth 100000 in
theorem insertP_grow (g cap n i : Nat) (xs : List Value) (x0 x1 : Value) (vb : Nat) (w : World) (hown : w.ownsRow 0 63 2 (.slice (some ⟨g, 0, none⟩) n cap) n xs) (h1 : ∀ u ∈ xs, u.oneCell' = true) (hx0 : x0.oneCell' = true) (hx1 : x1.oneCell' = true)
    (hi : i < n) (hn : n ≤ 1000) (hroom : cap < n + 1) (hvb : w.heap[vb]? = some (.cells #[x0, x1] 63 (0, 0))) :
    Calls Try.prog 55 #[.slice (some ⟨g, 0, none⟩) n cap, .int .i64 i, .slice (some ⟨vb, 0, none⟩) 1 1] w (InsPost w 63 (.slice (some ⟨g, 0, none⟩) n cap) n i xs [x0, x1]) := by
  obtain ⟨i0, hi0, hz0, hzs, hzb⟩ := info_parts Try.info63
  have hnc : n ≤ cap := by
    rcases hown.2 with ⟨h, _⟩ | ⟨g', cap', cur, h, hbg, hg, hnc, hcm, hcs, htake⟩
    · cases h
    · simp only [Value.slice.injEq, Option.some.injEq, Addr.mk.injEq, and_true, true_and] at h
      obtain ⟨rfl, rfl⟩ := h
      exact hnc
  have hgl : g < w.heap.size := (hown.lt g rfl).2
  have hvl : vb < w.heap.size := (Array.getElem?_eq_some_iff.1 hvb).1
  have hxl : xs.length = n * 2 := hown.1
  have hold : (Builtin.firstCells i0.size i (.slice (some ⟨g, 0, none⟩) i cap)).run Try.prog w.drew = .ok (xs.take (i * 2)).toArray w.drew := by
    rw [hzs]
    exact run_firstCells_some w.drew 2 i ⟨g, 0, none⟩ i cap (xs.take (i * 2)) (by rw [List.length_take, hxl]; omega) (fun j u hj => by
      rw [Addr.add_lit]
      rw [List.getElem?_take] at hj
      split at hj
      · exact (hown.cellAt (0 + j) (by omega)).trans (by simpa using hj)
      · cases hj)
  have hrz : ∀ ty, (Builtin.append_ #[55, 3] ty #[.slice (some ⟨g, 0, none⟩) i cap, .int .i64 ((n : Int) + 1 - (i : Int))]).run Try.prog w =
      .ok (.slice (some ⟨w.heap.size, 0, none⟩) (n + 1) (grownCap w (n + 1) cap 63)) (w.drew.alloc (.cells ((xs.take (i * 2)).toArray ++ Builtin.zeroCells (Value.agg #[.int .i64 0, .float .f64 0]).cells (n + 1 - i) ++ Builtin.zeroCells (Value.agg #[.int .i64 0, .float .f64 0]).cells (grownCap w (n + 1) cap 63 - (n + 1))) 63)) := fun ty => by
    have hik : i + (n + 1 - i) = n + 1 := by omega
    have h := Lib.run_append_grow_zeros w 55 3 ty 63 i0 _ .i64 .i64 Try.underlying55 Try.underlying3 hi0 hz0 (some ⟨g, 0, none⟩) i cap (xs.take (i * 2)) hold (n + 1 - i) (by omega) (by omega) (by omega) (by omega) (by rw [hzb]; omega) (by rw [hzb, hik]; exact growslice_fits hroom (by omega))
    rw [hik] at h
    rw [show (n : Int) + 1 - (i : Int) = ((n + 1 - i : Nat) : Int) by omega]
    exact h
  obtain ⟨G, hG⟩ : ∃ G, G = grownCap w (n + 1) cap 63 := ⟨_, rfl⟩
  have hGn : n + 1 ≤ G := by rw [hG]; exact grownCap_ge w _ _ _
  have hG63 : G ≤ maxLen := by rw [hG]; exact grownCap_le_maxLen w (n + 1) cap 63 (by unfold maxLen; omega)
  have hG63' : G ≤ 9223372036854775807 := by simpa [maxLen] using hG63
  obtain ⟨ROW, hROW⟩ : ∃ ROW : Array Value, ROW = (xs.take (i * 2)).toArray ++ Builtin.zeroCells (Value.agg #[.int .i64 0, .float .f64 0]).cells (n + 1 - i) ++ Builtin.zeroCells (Value.agg #[.int .i64 0, .float .f64 0]).cells (G - (n + 1)) := ⟨_, rfl⟩
  simp only [← hG, ← hROW] at hrz
  have hRs : ROW.size = G * 2 := by
    rw [hROW]
    simp only [Array.size_append, List.size_toArray, size_zeroCells, List.length_take, hxl]
    rw [show (Value.agg #[.int .i64 0, .float .f64 0]).cells.size = 2 from rfl]
    omega
  have hRt : ROW.toList.take (i * 2) = xs.take (i * 2) := by
    rw [hROW]
    simp only [Array.toList_append, List.append_assoc]
    rw [List.take_append_of_le_length (by simp; omega), List.take_take]
    congr 1; omega
  clear hROW hold
  obtain ⟨N, hN⟩ : ∃ N, N = w.heap.size := ⟨_, rfl⟩
  have hgN : g ≠ N := by omega
  have hvN : vb ≠ N := by omega
  obtain ⟨W1, hW1⟩ : ∃ W1, W1 = w.drew.alloc (.cells ROW 63) := ⟨_, rfl⟩
  simp only [← hN, ← hW1] at hrz
  have hg1 : W1.heap[N]? = some (.cells ROW 63 (0, 0)) := by rw [hW1, hN]; exact heap_alloc_new w.drew _
  have hv1 : W1.heap[vb]? = some (.cells #[x0, x1] 63 (0, 0)) := by rw [hW1]; exact (Below.heap_alloc w.drew _ vb hvl).trans hvb
  have hgg : ∀ j, j < n * 2 → W1.cell? ⟨g, j, none⟩ = xs[j]? := fun j hj => by
    rw [← hown.cellAt j hj, hW1]
    exact World.cell?_of_block (Below.heap_alloc w.drew _ g hgl)
  have hcpA : ∀ ty dc, (Builtin.copy_ #[55, 55] ty #[.slice (some ⟨N, i * 2, none⟩) (n + 1 - i) dc, .slice (some ⟨vb, 0, none⟩) 1 1]).run Try.prog W1 = .ok (goInt (Nat.min 1 (n + 1 - i))) (W1.setRow N (ROW.toList.take (i * 2) ++ [x0, x1] ++ ROW.toList.drop (i * 2 + 2)).toArray) := fun ty dc =>
    run_copy_rowS W1 55 55 ty 63 i0 N (i * 2) (n + 1 - i) dc ⟨vb, 0, none⟩ 1 1 ROW 63 [x0, x1] Try.underlying55 hi0 hg1 (by rw [hzs, show Nat.min 1 (n + 1 - i) = 1 by simp only [Nat.min_def]; split <;> omega]; rfl)
      (fun j u hj => by
        rw [Addr.add_lit, cell_of_row _ vb (0 + j) _ _ _ hv1]
        simpa using hj) (by simp; omega) (by simp [hx0, hx1])
  obtain ⟨row1, hrow1⟩ : ∃ row1, row1 = (ROW.toList.take (i * 2) ++ [x0, x1] ++ ROW.toList.drop (i * 2 + 2)).toArray := ⟨_, rfl⟩
  simp only [← hrow1] at hcpA
  have hr1s : row1.size = G * 2 := by rw [hrow1]; simp; omega
  have hg2 : (W1.setRow N row1).drew.heap[N]? = some (.cells row1 63 (0, 0)) := setRow_heap W1 N ROW _ _ _ hg1
  have hdl : (xs.drop (i * 2)).length = (n - i) * 2 := by rw [List.length_drop, hxl]; omega
  have hcpB : ∀ ty dc sc, (Builtin.copy_ #[55, 55] ty #[.slice (some ⟨N, (i + 1) * 2, none⟩) (n - i) dc, .slice (some ⟨g, i * 2, none⟩) (n - i) sc]).run Try.prog (W1.setRow N row1).drew = .ok (goInt (Nat.min (n - i) (n - i))) ((W1.setRow N row1).drew.setRow N (row1.toList.take ((i + 1) * 2) ++ xs.drop (i * 2) ++ row1.toList.drop ((i + 1) * 2 + (xs.drop (i * 2)).length)).toArray) := fun ty dc sc =>
    run_copy_rowS (W1.setRow N row1).drew 55 55 ty 63 i0 N ((i + 1) * 2) (n - i) dc ⟨g, i * 2, none⟩ (n - i) sc row1 63 (xs.drop (i * 2)) Try.underlying55 hi0 hg2 (by rw [hdl, hzs]; simp)
      (fun j u hj => by
        rw [Addr.add_lit]
        rw [List.getElem?_drop] at hj
        have hjl := (List.getElem?_eq_some_iff.1 hj).1
        exact ((World.cell?_of_block (setRow_other W1 N g _ hgN)).trans (hgg (i * 2 + j) (by omega))).trans hj) (by omega) (fun u hu => h1 u (List.mem_of_mem_drop hu))
  have hP : Hid (InsPost w 63 (.slice (some ⟨g, 0, none⟩) n cap) n i xs [x0, x1] (.returned (.slice (some ⟨N, 0, none⟩) (n + 1) G)) ((W1.setRow N row1).drew.setRow N (row1.toList.take ((i + 1) * 2) ++ xs.drop (i * 2) ++ row1.toList.drop ((i + 1) * 2 + (xs.drop (i * 2)).length)).toArray)) := by
    refine ⟨_, rfl, ⟨by simp; omega, .inr ⟨N, G, _, rfl, Nat.zero_le _, setRow_heap _ N row1 _ _ _ hg2, hGn, hG63, by simp; omega, ?_⟩⟩, ⟨by rw [hW1]; rfl, by rw [hW1]; rfl, by rw [hW1]; rfl, by rw [hW1]; simp [World.setRow], fun k hk _ => ?_⟩, Or.inr ⟨N, by omega, rfl⟩⟩
    · have := take_mid2 ROW.toList xs [x0, x1] (i * 2) (n * 2) 2 hxl (by omega) rfl hRt (by simp; omega)
      rw [← this, hrow1]
      simp only [show (i + 1) * 2 = i * 2 + 2 by omega, show (n + 1) * 2 = n * 2 + 2 by omega]
      rfl
    · have hk' : k ≠ N := by omega
      rw [setRow_other _ N k _ hk']
      show (W1.setRow N row1).heap[k]? = _
      rw [setRow_other _ N k _ hk', hW1]
      exact Below.heap_alloc w.drew _ k hk
  obtain ⟨row2, hrow2⟩ : ∃ row2, row2 = (row1.toList.take ((i + 1) * 2) ++ xs.drop (i * 2) ++ row1.toList.drop ((i + 1) * 2 + (xs.drop (i * 2)).length)).toArray := ⟨_, rfl⟩
  rw [← hrow2] at hP
  simp only [← hrow2] at hcpB
  have hb1 : ¬ ((i : Int) = (n : Int)) := by omega
  have hb2 : ¬ (G = i + 1) := by omega
  have hb3 : ¬ (G = i) := by omega
  have hb3' : ¬ (cap = i) := by omega
  have hb4 : ((i : Int) + 1).toNat = i + 1 := by omega
  have hb5 : (i : Int) ≤ (n : Int) + 1 := by omega
  have hb6 : i ≤ n := by omega
  have hw1 : IntKind.i64.wrap ((i : Int) + 1) = (i : Int) + 1 := by rw [IntKind.wrap_i64]; omega
  have hb7 : (0 : Int) ≤ (i : Int) + 1 := by omega
  have hb8 : (i : Int) + 1 ≤ (n : Int) + 1 := by omega
  have hb9 : (cap : Int) < (n : Int) + 1 := by omega
  have mixed : Try.prog.follows Departure.mixedOrders = true := by kernel_rfl
  clear hrow2 hrow1 hg2 hgg hv1 hg1 hW1 hG hRt hdl hown h1 hN
  go_enter Try.func55, Try.ntmps55
  go_wp2_with (first
    | (at_builtin; refine Lib.wpList_append_run _ rfl _ _ _ _ rfl _ _ rfl rfl _ _ (hrz _) ?_)
    | (at_builtin; refine wpList_copy_runI _ rfl _ _ 55 55 rfl _ _ rfl rfl (hcpA _ _) ?_))
  go_region_law_o (refine step_copy_runI rfl _ _ 55 55 rfl _ _ (by simp [Act.eval, Act.put]) (by simp [Act.eval, Act.put]) (hcpB _ _ _) ?_)
  go_wp2
  go_ret
  exact hP.out

theorem insertP_any (v : Value) (n i : Nat) (xs : List Value) (x0 x1 : Value) (vb : Nat) (w : World) (hown : w.ownsRow 0 63 2 v n xs) (h1 : ∀ u ∈ xs, u.oneCell' = true) (hx0 : x0.oneCell' = true) (hx1 : x1.oneCell' = true)
    (hi : i ≤ n) (hn : n ≤ 1000) (hvb : w.heap[vb]? = some (.cells #[x0, x1] 63 (0, 0))) (hne : v.ownBlock ≠ some vb) :
    Calls Try.prog 55 #[v, .int .i64 i, .slice (some ⟨vb, 0, none⟩) 1 1] w (InsPost w 63 v n i xs [x0, x1]) := by
  by_cases hin : i = n
  · subst hin
    exact insertP_end v i xs x0 x1 vb w hown hx0 hx1 hn hvb
  · have hlt : i < n := by omega
    rcases hown.2 with ⟨rfl, rfl⟩ | ⟨g, cap, cur, rfl, _⟩
    · omega
    · by_cases hroom : n + 1 ≤ cap
      · exact insertP_shift g cap n i xs x0 x1 vb w hown h1 hx0 hx1 hlt hn hroom hvb (fun e => hne (by rw [e]; rfl))
      · exact insertP_grow g cap n i xs x0 x1 vb w hown h1 hx0 hx1 hlt hn (by omega) hvb

set_option maxHeartbeats 2000000 in
set_option maxRecDepth 100000 in
/-- slices.Clone of m > 0 elements. -/
theorem cloneP_any (g off m c : Nat) (xs : List Value) (w : World) (hm : 0 < m) (hm2 : m ≤ 1000) (hl : xs.length = m * 2) (hc : ∀ j u, xs[j]? = some u → w.cell? ⟨g, off + j, none⟩ = some u) (h1 : ∀ u ∈ xs, u.oneCell' = true) :
    Calls Try.prog 56 #[.slice (some ⟨g, off, none⟩) m c] w (ClonePost w 63 m xs) := by
  obtain ⟨i0, hi0, hz0, hzs, hzb⟩ := info_parts Try.info63
  have hgl : g < w.heap.size := World.block_lt_of_cell? _ _ (hc 0 _ (List.getElem?_eq_getElem (by omega)))
  have hnil := fun wx => Lib.run_eql_slice_nil (P := Try.prog) wx 55 63 (some ⟨g, off, none⟩) m c 0 0 Try.underlying55
  obtain ⟨W1, hW1⟩ : ∃ W1, W1 = w.alloc (.cells #[] 63) := ⟨_, rfl⟩
  have hown : W1.ownsRow w.heap.size 63 2 (.slice (some ⟨w.heap.size, 0, none⟩) 0 0) 0 [] := ⟨rfl, .inr ⟨w.heap.size, 0, #[], rfl, Nat.le_refl _, by rw [hW1]; exact heap_alloc_new w _, Nat.le_refl _, by unfold maxLen; omega, rfl, rfl⟩⟩
  obtain ⟨v', w', hrun, ho', hg', hm'⟩ := run_append_own2 (P := Try.prog) W1 w.heap.size 55 55 63 i0 _ 2 16 Try.underlying55 hi0 hz0 hzs hzb rfl _ 0 [] hown ⟨g, off, none⟩ m c xs hl (fun j u hj => by
    rw [Addr.add_lit, hW1]
    exact (World.cell?_of_block (Below.heap_alloc w _ g hgl)).trans (hc j u hj)) h1 hm (by unfold maxLen; omega) (by omega) (by rw [hW1]; simp)
  simp only [Nat.zero_add, List.nil_append] at ho'
  have hP : Hid (ClonePost w 63 m xs (.returned v') w') := ⟨v', rfl, ho', by
    have hb : Below w.heap.size w W1 := by rw [hW1]; exact (Below.refl _ _).alloc (Nat.le_refl _) _
    exact hb.grown hg' (by rw [hW1]; simp) (fun k hk => by
      have : k = w.heap.size := by simpa [Value.ownBlock] using hk.symm
      omega)⟩
  clear ho' hg' hm' hown hc
  go_enter Try.func56, Try.ntmps56
  subst hW1
  go_wp2_with (at_builtin; refine Lib.wpList_append_run _ rfl _ _ _ _ rfl _ _ rfl rfl _ _ hrun ?_)
  go_ret
  exact hP.out

set_option maxHeartbeats 2000000 in
set_option maxRecDepth 100000 in
theorem insertK_end (v : Value) (n : Nat) (xs : List Value) (x0 x1 : Value) (vb : Nat) (w : World) (hown : w.ownsRow 0 84 2 v n xs) (hx0 : x0.oneCell' = true) (hx1 : x1.oneCell' = true) (hn : n ≤ 1000)
    (hvb : w.heap[vb]? = some (.cells #[x0, x1] 84 (0, 0))) : Calls Try.prog 51 #[v, .int .i64 n, .slice (some ⟨vb, 0, none⟩) 1 1] w (InsPost w 84 v n n xs [x0, x1]) := by
  obtain ⟨i0, hi0, hz0, hzs, hzb⟩ := info_parts Try.info84
  obtain ⟨v', w', hrun, ho', hg', hm'⟩ := run_append_own2 (P := Try.prog) w 0 56 56 84 i0 _ 2 16 Try.underlying56 hi0 hz0 hzs hzb rfl v n xs hown ⟨vb, 0, none⟩ 1 1 [x0, x1] rfl (fun j u hj => by
    rw [Addr.add_lit]
    rw [cell_of_row w vb (0 + j) _ _ _ hvb]
    simpa using hj) (by simp [hx0, hx1]) (by omega) (by unfold maxLen; omega) (by omega) (Nat.zero_le _)
  have hP : Hid (InsPost w 84 v n n xs [x0, x1] (.returned v') w') := ⟨v', rfl, by rw [← hown.1, List.take_length, List.drop_length, List.append_nil]; exact ho', hg', hm'⟩
  rcases hown.2 with ⟨rfl, rfl⟩ | ⟨g, cap, cur, rfl, hbg, hg, hnc, hcm, hcs, htake⟩
  · clear hown ho' hg' hm'
    go_enter Try.func51, Try.ntmps51
    go_wp2_with (at_builtin; refine Lib.wpList_append_run _ rfl _ _ _ _ rfl _ _ rfl rfl _ _ hrun ?_)
    go_ret
    exact hP.out
  · clear hown ho' hg' hm'
    go_enter Try.func51, Try.ntmps51
    go_wp2_with (at_builtin; refine Lib.wpList_append_run _ rfl _ _ _ _ rfl _ _ rfl rfl _ _ hrun ?_)
    all_goals
      go_ret
      exact hP.out

set_option maxHeartbeats 2000000 in
set_option maxRecDepth 100000 in
theorem insertK_shift (g cap n i : Nat) (xs : List Value) (x0 x1 : Value) (vb : Nat) (w : World) (hown : w.ownsRow 0 84 2 (.slice (some ⟨g, 0, none⟩) n cap) n xs) (h1 : ∀ u ∈ xs, u.oneCell' = true) (hx0 : x0.oneCell' = true) (hx1 : x1.oneCell' = true)
    (hi : i < n) (hn : n ≤ 1000) (hroom : n + 1 ≤ cap) (hvb : w.heap[vb]? = some (.cells #[x0, x1] 84 (0, 0))) (hne : vb ≠ g) :
    Calls Try.prog 51 #[.slice (some ⟨g, 0, none⟩) n cap, .int .i64 i, .slice (some ⟨vb, 0, none⟩) 1 1] w (InsPost w 84 (.slice (some ⟨g, 0, none⟩) n cap) n i xs [x0, x1]) := by
  obtain ⟨i0, hi0, hz0, hzs, hzb⟩ := info_parts Try.info84
  rcases hown.2 with ⟨h, _⟩ | ⟨g', cap', cur, h, hbg, hg, hnc, hcm, hcs, htake⟩
  · cases h
  simp only [Value.slice.injEq, Option.some.injEq, Addr.mk.injEq, and_true, true_and] at h
  obtain ⟨rfl, rfl⟩ := h
  have hxl : xs.length = n * 2 := hown.1
  have hcl : cap ≤ 9223372036854775807 := by simpa [maxLen] using hcm
  have hov : ∀ lb cb, (callFunc 60 #[.slice (some ⟨vb, 0, none⟩) 1 1, .slice (some ⟨g, (i + 1) * 2, none⟩) lb cb]).run Try.prog w = .ok (.value (.bool false)) w := fun lb cb => by
    rw [run_callFunc_extern Try.func60 (by kernel_rfl) (by kernel_rfl) (by kernel_rfl) (e := Extern.SlicesOverlaps.overlaps #[56, 56] #[4]) (by kernel_rfl),
      Lib.run_overlaps_apart w 56 4 84 Try.underlying56 2 (fun w => by simp [Go.sizeOf, typeInfo, hi0, hzs]) ⟨vb, 0, none⟩ ⟨g, (i + 1) * 2, none⟩ 1 1 lb cb hne 84 84 2 cur.size (by simp [World.shape?, hvb]) (by simp [World.shape?, hg]) (by omega) (by simp [World.frozen?, hvb]) (by simp [World.frozen?, hvb])]
    rfl
  have hdl : (xs.drop (i * 2)).length = (n - i) * 2 := by rw [List.length_drop, hxl]; omega
  have hcp1 : ∀ ty dc sc, (Builtin.copy_ #[56, 56] ty #[.slice (some ⟨g, (i + 1) * 2, none⟩) (n - i) dc, .slice (some ⟨g, i * 2, none⟩) (n + 1 - i) sc]).run Try.prog w.drew = .ok (goInt (Nat.min (n + 1 - i) (n - i))) (w.drew.setRow g (cur.toList.take ((i + 1) * 2) ++ xs.drop (i * 2) ++ cur.toList.drop ((i + 1) * 2 + (xs.drop (i * 2)).length)).toArray) := fun ty dc sc =>
    run_copy_rowS w.drew 56 56 ty 84 i0 g ((i + 1) * 2) (n - i) dc ⟨g, i * 2, none⟩ (n + 1 - i) sc cur 84 (xs.drop (i * 2)) Try.underlying56 hi0 hg (by rw [hdl, hzs]; simp only [Nat.min_def]; split <;> omega)
      (fun j u hj => by
        rw [Addr.add_lit]
        rw [List.getElem?_drop] at hj
        have hjl := (List.getElem?_eq_some_iff.1 hj).1
        exact (hown.cellAt (i * 2 + j) (by omega)).trans hj) (by omega) (fun u hu => h1 u (List.mem_of_mem_drop hu))
  obtain ⟨row1, hrow1⟩ : ∃ row1, row1 = (cur.toList.take ((i + 1) * 2) ++ xs.drop (i * 2) ++ cur.toList.drop ((i + 1) * 2 + (xs.drop (i * 2)).length)).toArray := ⟨_, rfl⟩
  rw [← hrow1] at hcp1
  have hr1s : row1.size = cap * 2 := by rw [hrow1]; simp; omega
  have hg1 : (w.drew.setRow g row1).heap[g]? = some (.cells row1 84 (0, 0)) := setRow_heap w.drew g cur _ _ _ hg
  have hvb1 : (w.drew.setRow g row1).heap[vb]? = some (.cells #[x0, x1] 84 (0, 0)) := (setRow_other w.drew g vb _ hne).trans hvb
  have hcp2 : ∀ ty dc, (Builtin.copy_ #[56, 56] ty #[.slice (some ⟨g, i * 2, none⟩) (n + 1 - i) dc, .slice (some ⟨vb, 0, none⟩) 1 1]).run Try.prog (w.drew.setRow g row1) = .ok (goInt (Nat.min 1 (n + 1 - i))) ((w.drew.setRow g row1).setRow g (row1.toList.take (i * 2) ++ [x0, x1] ++ row1.toList.drop (i * 2 + 2)).toArray) := fun ty dc =>
    run_copy_rowS (w.drew.setRow g row1) 56 56 ty 84 i0 g (i * 2) (n + 1 - i) dc ⟨vb, 0, none⟩ 1 1 row1 84 [x0, x1] Try.underlying56 hi0 hg1 (by rw [hzs, show Nat.min 1 (n + 1 - i) = 1 by simp only [Nat.min_def]; split <;> omega]; rfl)
      (fun j u hj => by
        rw [Addr.add_lit, cell_of_row _ vb (0 + j) _ _ _ hvb1]
        simpa using hj) (by simp; omega) (by simp [hx0, hx1])
  have hP : Hid (InsPost w 84 (.slice (some ⟨g, 0, none⟩) n cap) n i xs [x0, x1] (.returned (.slice (some ⟨g, 0, none⟩) (n + 1) cap)) ((w.drew.setRow g row1).setRow g (row1.toList.take (i * 2) ++ [x0, x1] ++ row1.toList.drop (i * 2 + 2)).toArray)) := by
    refine ⟨_, rfl, ⟨by simp; omega, .inr ⟨g, cap, _, rfl, Nat.zero_le _, setRow_heap _ g row1 _ _ _ hg1, hroom, hcm, by simp; omega, ?_⟩⟩, ⟨rfl, rfl, rfl, by simp [World.setRow], fun k _ hk => ?_⟩, Or.inl rfl⟩
    · have := take_mid cur.toList xs [x0, x1] 2 (i * 2) (n * 2) htake (by omega) (by simp; omega) rfl (by simp; omega)
      rw [← this, hrow1]
      simp only [show (i + 1) * 2 = i * 2 + 2 by omega, show (n + 1) * 2 = n * 2 + 2 by omega]
      rfl
    · have hk' : k ≠ g := fun e => hk (by simp [Value.ownBlock, e])
      rw [setRow_other _ g k _ hk', setRow_other _ g k _ hk']
      rfl
  obtain ⟨row2, hrow2⟩ : ∃ row2, row2 = (row1.toList.take (i * 2) ++ [x0, x1] ++ row1.toList.drop (i * 2 + 2)).toArray := ⟨_, rfl⟩
  rw [← hrow2] at hP
  simp only [← hrow2] at hcp2
  clear hrow2
  have hb1 : ¬ ((i : Int) = (n : Int)) := by omega
  have hb2 : ¬ (cap = i + 1) := by omega
  have hb3 : ¬ (cap = i) := by omega
  have hb4 : ((i : Int) + 1).toNat = i + 1 := by omega
  have hb5 : (i : Int) ≤ (n : Int) + 1 := by omega
  have hb6 : i ≤ n := by omega
  have hw1 : IntKind.i64.wrap ((i : Int) + 1) = (i : Int) + 1 := by rw [IntKind.wrap_i64]; omega
  have hb7 : (0 : Int) ≤ (i : Int) + 1 := by omega
  have hb8 : (i : Int) + 1 ≤ (n : Int) + 1 := by omega
  have mixed : Try.prog.follows Departure.mixedOrders = true := by kernel_rfl
  clear hown htake hrow1 hg1 hvb1 hdl h1
  go_enter Try.func51, Try.ntmps51
  go_wp2_with (simp only [hov])
  go_region_law_o (refine step_copy_runI rfl _ _ 56 56 rfl _ _ (by simp [Act.eval, Act.put]) (by simp [Act.eval, Act.put]) (hcp1 _ _ _) ?_)
  go_wp2_with (at_builtin; refine wpList_copy_runI _ rfl _ _ 56 56 rfl _ _ rfl rfl (hcp2 _ _) ?_)
  go_ret
  exact hP.out

set_option maxHeartbeats 2000000 in
set_option maxRecDepth 100000 in
theorem insertK_grow (g cap n i : Nat) (xs : List Value) (x0 x1 : Value) (vb : Nat) (w : World) (hown : w.ownsRow 0 84 2 (.slice (some ⟨g, 0, none⟩) n cap) n xs) (h1 : ∀ u ∈ xs, u.oneCell' = true) (hx0 : x0.oneCell' = true) (hx1 : x1.oneCell' = true)
    (hi : i < n) (hn : n ≤ 1000) (hroom : cap < n + 1) (hvb : w.heap[vb]? = some (.cells #[x0, x1] 84 (0, 0))) :
    Calls Try.prog 51 #[.slice (some ⟨g, 0, none⟩) n cap, .int .i64 i, .slice (some ⟨vb, 0, none⟩) 1 1] w (InsPost w 84 (.slice (some ⟨g, 0, none⟩) n cap) n i xs [x0, x1]) := by
  obtain ⟨i0, hi0, hz0, hzs, hzb⟩ := info_parts Try.info84
  have hnc : n ≤ cap := by
    rcases hown.2 with ⟨h, _⟩ | ⟨g', cap', cur, h, hbg, hg, hnc, hcm, hcs, htake⟩
    · cases h
    · simp only [Value.slice.injEq, Option.some.injEq, Addr.mk.injEq, and_true, true_and] at h
      obtain ⟨rfl, rfl⟩ := h
      exact hnc
  have hgl : g < w.heap.size := (hown.lt g rfl).2
  have hvl : vb < w.heap.size := (Array.getElem?_eq_some_iff.1 hvb).1
  have hxl : xs.length = n * 2 := hown.1
  have hold : (Builtin.firstCells i0.size i (.slice (some ⟨g, 0, none⟩) i cap)).run Try.prog w.drew = .ok (xs.take (i * 2)).toArray w.drew := by
    rw [hzs]
    exact run_firstCells_some w.drew 2 i ⟨g, 0, none⟩ i cap (xs.take (i * 2)) (by rw [List.length_take, hxl]; omega) (fun j u hj => by
      rw [Addr.add_lit]
      rw [List.getElem?_take] at hj
      split at hj
      · exact (hown.cellAt (0 + j) (by omega)).trans (by simpa using hj)
      · cases hj)
  have hrz : ∀ ty, (Builtin.append_ #[56, 3] ty #[.slice (some ⟨g, 0, none⟩) i cap, .int .i64 ((n : Int) + 1 - (i : Int))]).run Try.prog w =
      .ok (.slice (some ⟨w.heap.size, 0, none⟩) (n + 1) (grownCap w (n + 1) cap 84)) (w.drew.alloc (.cells ((xs.take (i * 2)).toArray ++ Builtin.zeroCells (Value.agg #[.int .i64 0, .pointer none]).cells (n + 1 - i) ++ Builtin.zeroCells (Value.agg #[.int .i64 0, .pointer none]).cells (grownCap w (n + 1) cap 84 - (n + 1))) 84)) := fun ty => by
    have hik : i + (n + 1 - i) = n + 1 := by omega
    have h := Lib.run_append_grow_zeros w 56 3 ty 84 i0 _ .i64 .i64 Try.underlying56 Try.underlying3 hi0 hz0 (some ⟨g, 0, none⟩) i cap (xs.take (i * 2)) hold (n + 1 - i) (by omega) (by omega) (by omega) (by omega) (by rw [hzb]; omega) (by rw [hzb, hik]; exact growslice_fits hroom (by omega))
    rw [hik] at h
    rw [show (n : Int) + 1 - (i : Int) = ((n + 1 - i : Nat) : Int) by omega]
    exact h
  obtain ⟨G, hG⟩ : ∃ G, G = grownCap w (n + 1) cap 84 := ⟨_, rfl⟩
  have hGn : n + 1 ≤ G := by rw [hG]; exact grownCap_ge w _ _ _
  have hG63 : G ≤ maxLen := by rw [hG]; exact grownCap_le_maxLen w (n + 1) cap 84 (by unfold maxLen; omega)
  have hG63' : G ≤ 9223372036854775807 := by simpa [maxLen] using hG63
  obtain ⟨ROW, hROW⟩ : ∃ ROW : Array Value, ROW = (xs.take (i * 2)).toArray ++ Builtin.zeroCells (Value.agg #[.int .i64 0, .pointer none]).cells (n + 1 - i) ++ Builtin.zeroCells (Value.agg #[.int .i64 0, .pointer none]).cells (G - (n + 1)) := ⟨_, rfl⟩
  simp only [← hG, ← hROW] at hrz
  have hRs : ROW.size = G * 2 := by
    rw [hROW]
    simp only [Array.size_append, List.size_toArray, size_zeroCells, List.length_take, hxl]
    rw [show (Value.agg #[.int .i64 0, .pointer none]).cells.size = 2 from rfl]
    omega
  have hRt : ROW.toList.take (i * 2) = xs.take (i * 2) := by
    rw [hROW]
    simp only [Array.toList_append, List.append_assoc]
    rw [List.take_append_of_le_length (by simp; omega), List.take_take]
    congr 1; omega
  clear hROW hold
  obtain ⟨N, hN⟩ : ∃ N, N = w.heap.size := ⟨_, rfl⟩
  have hgN : g ≠ N := by omega
  have hvN : vb ≠ N := by omega
  obtain ⟨W1, hW1⟩ : ∃ W1, W1 = w.drew.alloc (.cells ROW 84) := ⟨_, rfl⟩
  simp only [← hN, ← hW1] at hrz
  have hg1 : W1.heap[N]? = some (.cells ROW 84 (0, 0)) := by rw [hW1, hN]; exact heap_alloc_new w.drew _
  have hv1 : W1.heap[vb]? = some (.cells #[x0, x1] 84 (0, 0)) := by rw [hW1]; exact (Below.heap_alloc w.drew _ vb hvl).trans hvb
  have hgg : ∀ j, j < n * 2 → W1.cell? ⟨g, j, none⟩ = xs[j]? := fun j hj => by
    rw [← hown.cellAt j hj, hW1]
    exact World.cell?_of_block (Below.heap_alloc w.drew _ g hgl)
  have hcpA : ∀ ty dc, (Builtin.copy_ #[56, 56] ty #[.slice (some ⟨N, i * 2, none⟩) (n + 1 - i) dc, .slice (some ⟨vb, 0, none⟩) 1 1]).run Try.prog W1 = .ok (goInt (Nat.min 1 (n + 1 - i))) (W1.setRow N (ROW.toList.take (i * 2) ++ [x0, x1] ++ ROW.toList.drop (i * 2 + 2)).toArray) := fun ty dc =>
    run_copy_rowS W1 56 56 ty 84 i0 N (i * 2) (n + 1 - i) dc ⟨vb, 0, none⟩ 1 1 ROW 84 [x0, x1] Try.underlying56 hi0 hg1 (by rw [hzs, show Nat.min 1 (n + 1 - i) = 1 by simp only [Nat.min_def]; split <;> omega]; rfl)
      (fun j u hj => by
        rw [Addr.add_lit, cell_of_row _ vb (0 + j) _ _ _ hv1]
        simpa using hj) (by simp; omega) (by simp [hx0, hx1])
  obtain ⟨row1, hrow1⟩ : ∃ row1, row1 = (ROW.toList.take (i * 2) ++ [x0, x1] ++ ROW.toList.drop (i * 2 + 2)).toArray := ⟨_, rfl⟩
  simp only [← hrow1] at hcpA
  have hr1s : row1.size = G * 2 := by rw [hrow1]; simp; omega
  have hg2 : (W1.setRow N row1).drew.heap[N]? = some (.cells row1 84 (0, 0)) := setRow_heap W1 N ROW _ _ _ hg1
  have hdl : (xs.drop (i * 2)).length = (n - i) * 2 := by rw [List.length_drop, hxl]; omega
  have hcpB : ∀ ty dc sc, (Builtin.copy_ #[56, 56] ty #[.slice (some ⟨N, (i + 1) * 2, none⟩) (n - i) dc, .slice (some ⟨g, i * 2, none⟩) (n - i) sc]).run Try.prog (W1.setRow N row1).drew = .ok (goInt (Nat.min (n - i) (n - i))) ((W1.setRow N row1).drew.setRow N (row1.toList.take ((i + 1) * 2) ++ xs.drop (i * 2) ++ row1.toList.drop ((i + 1) * 2 + (xs.drop (i * 2)).length)).toArray) := fun ty dc sc =>
    run_copy_rowS (W1.setRow N row1).drew 56 56 ty 84 i0 N ((i + 1) * 2) (n - i) dc ⟨g, i * 2, none⟩ (n - i) sc row1 84 (xs.drop (i * 2)) Try.underlying56 hi0 hg2 (by rw [hdl, hzs]; simp)
      (fun j u hj => by
        rw [Addr.add_lit]
        rw [List.getElem?_drop] at hj
        have hjl := (List.getElem?_eq_some_iff.1 hj).1
        exact ((World.cell?_of_block (setRow_other W1 N g _ hgN)).trans (hgg (i * 2 + j) (by omega))).trans hj) (by omega) (fun u hu => h1 u (List.mem_of_mem_drop hu))
  have hP : Hid (InsPost w 84 (.slice (some ⟨g, 0, none⟩) n cap) n i xs [x0, x1] (.returned (.slice (some ⟨N, 0, none⟩) (n + 1) G)) ((W1.setRow N row1).drew.setRow N (row1.toList.take ((i + 1) * 2) ++ xs.drop (i * 2) ++ row1.toList.drop ((i + 1) * 2 + (xs.drop (i * 2)).length)).toArray)) := by
    refine ⟨_, rfl, ⟨by simp; omega, .inr ⟨N, G, _, rfl, Nat.zero_le _, setRow_heap _ N row1 _ _ _ hg2, hGn, hG63, by simp; omega, ?_⟩⟩, ⟨by rw [hW1]; rfl, by rw [hW1]; rfl, by rw [hW1]; rfl, by rw [hW1]; simp [World.setRow], fun k hk _ => ?_⟩, Or.inr ⟨N, by omega, rfl⟩⟩
    · have := take_mid2 ROW.toList xs [x0, x1] (i * 2) (n * 2) 2 hxl (by omega) rfl hRt (by simp; omega)
      rw [← this, hrow1]
      simp only [show (i + 1) * 2 = i * 2 + 2 by omega, show (n + 1) * 2 = n * 2 + 2 by omega]
      rfl
    · have hk' : k ≠ N := by omega
      rw [setRow_other _ N k _ hk']
      show (W1.setRow N row1).heap[k]? = _
      rw [setRow_other _ N k _ hk', hW1]
      exact Below.heap_alloc w.drew _ k hk
  obtain ⟨row2, hrow2⟩ : ∃ row2, row2 = (row1.toList.take ((i + 1) * 2) ++ xs.drop (i * 2) ++ row1.toList.drop ((i + 1) * 2 + (xs.drop (i * 2)).length)).toArray := ⟨_, rfl⟩
  rw [← hrow2] at hP
  simp only [← hrow2] at hcpB
  have hb1 : ¬ ((i : Int) = (n : Int)) := by omega
  have hb2 : ¬ (G = i + 1) := by omega
  have hb3 : ¬ (G = i) := by omega
  have hb3' : ¬ (cap = i) := by omega
  have hb4 : ((i : Int) + 1).toNat = i + 1 := by omega
  have hb5 : (i : Int) ≤ (n : Int) + 1 := by omega
  have hb6 : i ≤ n := by omega
  have hw1 : IntKind.i64.wrap ((i : Int) + 1) = (i : Int) + 1 := by rw [IntKind.wrap_i64]; omega
  have hb7 : (0 : Int) ≤ (i : Int) + 1 := by omega
  have hb8 : (i : Int) + 1 ≤ (n : Int) + 1 := by omega
  have hb9 : (cap : Int) < (n : Int) + 1 := by omega
  have mixed : Try.prog.follows Departure.mixedOrders = true := by kernel_rfl
  clear hrow2 hrow1 hg2 hgg hv1 hg1 hW1 hG hRt hdl hown h1 hN
  go_enter Try.func51, Try.ntmps51
  go_wp2_with (first
    | (at_builtin; refine Lib.wpList_append_run _ rfl _ _ _ _ rfl _ _ rfl rfl _ _ (hrz _) ?_)
    | (at_builtin; refine wpList_copy_runI _ rfl _ _ 56 56 rfl _ _ rfl rfl (hcpA _ _) ?_))
  go_region_law_o (refine step_copy_runI rfl _ _ 56 56 rfl _ _ (by simp [Act.eval, Act.put]) (by simp [Act.eval, Act.put]) (hcpB _ _ _) ?_)
  go_wp2
  go_ret
  exact hP.out

theorem insertK_any (v : Value) (n i : Nat) (xs : List Value) (x0 x1 : Value) (vb : Nat) (w : World) (hown : w.ownsRow 0 84 2 v n xs) (h1 : ∀ u ∈ xs, u.oneCell' = true) (hx0 : x0.oneCell' = true) (hx1 : x1.oneCell' = true)
    (hi : i ≤ n) (hn : n ≤ 1000) (hvb : w.heap[vb]? = some (.cells #[x0, x1] 84 (0, 0))) (hne : v.ownBlock ≠ some vb) :
    Calls Try.prog 51 #[v, .int .i64 i, .slice (some ⟨vb, 0, none⟩) 1 1] w (InsPost w 84 v n i xs [x0, x1]) := by
  by_cases hin : i = n
  · subst hin
    exact insertK_end v i xs x0 x1 vb w hown hx0 hx1 hn hvb
  · have hlt : i < n := by omega
    rcases hown.2 with ⟨rfl, rfl⟩ | ⟨g, cap, cur, rfl, _⟩
    · omega
    · by_cases hroom : n + 1 ≤ cap
      · exact insertK_shift g cap n i xs x0 x1 vb w hown h1 hx0 hx1 hlt hn hroom hvb (fun e => hne (by rw [e]; rfl))
      · exact insertK_grow g cap n i xs x0 x1 vb w hown h1 hx0 hx1 hlt hn (by omega) hvb

set_option maxHeartbeats 2000000 in
set_option maxRecDepth 100000 in
/-- slices.Clone of m > 0 elements. -/
theorem cloneK_any (g off m c : Nat) (xs : List Value) (w : World) (hm : 0 < m) (hm2 : m ≤ 1000) (hl : xs.length = m * 2) (hc : ∀ j u, xs[j]? = some u → w.cell? ⟨g, off + j, none⟩ = some u) (h1 : ∀ u ∈ xs, u.oneCell' = true) :
    Calls Try.prog 52 #[.slice (some ⟨g, off, none⟩) m c] w (ClonePost w 84 m xs) := by
  obtain ⟨i0, hi0, hz0, hzs, hzb⟩ := info_parts Try.info84
  have hgl : g < w.heap.size := World.block_lt_of_cell? _ _ (hc 0 _ (List.getElem?_eq_getElem (by omega)))
  have hnil := fun wx => Lib.run_eql_slice_nil (P := Try.prog) wx 56 84 (some ⟨g, off, none⟩) m c 0 0 Try.underlying56
  obtain ⟨W1, hW1⟩ : ∃ W1, W1 = w.alloc (.cells #[] 84) := ⟨_, rfl⟩
  have hown : W1.ownsRow w.heap.size 84 2 (.slice (some ⟨w.heap.size, 0, none⟩) 0 0) 0 [] := ⟨rfl, .inr ⟨w.heap.size, 0, #[], rfl, Nat.le_refl _, by rw [hW1]; exact heap_alloc_new w _, Nat.le_refl _, by unfold maxLen; omega, rfl, rfl⟩⟩
  obtain ⟨v', w', hrun, ho', hg', hm'⟩ := run_append_own2 (P := Try.prog) W1 w.heap.size 56 56 84 i0 _ 2 16 Try.underlying56 hi0 hz0 hzs hzb rfl _ 0 [] hown ⟨g, off, none⟩ m c xs hl (fun j u hj => by
    rw [Addr.add_lit, hW1]
    exact (World.cell?_of_block (Below.heap_alloc w _ g hgl)).trans (hc j u hj)) h1 hm (by unfold maxLen; omega) (by omega) (by rw [hW1]; simp)
  simp only [Nat.zero_add, List.nil_append] at ho'
  have hP : Hid (ClonePost w 84 m xs (.returned v') w') := ⟨v', rfl, ho', by
    have hb : Below w.heap.size w W1 := by rw [hW1]; exact (Below.refl _ _).alloc (Nat.le_refl _) _
    exact hb.grown hg' (by rw [hW1]; simp) (fun k hk => by
      have : k = w.heap.size := by simpa [Value.ownBlock] using hk.symm
      omega)⟩
  clear ho' hg' hm' hown hc
  go_enter Try.func52, Try.ntmps52
  subst hW1
  go_wp2_with (at_builtin; refine Lib.wpList_append_run _ rfl _ _ _ _ rfl _ _ rfl rfl _ _ hrun ?_)
  go_ret
  exact hP.out

end Go.Proofs.Qxb6616513a
