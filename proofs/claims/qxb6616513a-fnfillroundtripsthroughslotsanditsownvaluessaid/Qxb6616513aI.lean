import Derived.Test.Qxb6616513aH
import Derived.Test.Qxb6616513aD
namespace Go.Proofs.Qxb6616513a
open Go.RowKit Go.Shelf

attribute [local go_sem] Oper.semAt_some

theorem run_store_float {P : Program} {w : World} {a : Addr} {m : Mode} (k : FloatKind) (b : Nat) : (store a (.float k b) m).run P w = stored P w a (.float k b) m := run_store P w a _ m rfl
attribute [local go_sem] run_store_float

/-- The NaN that math.NaN hands out. -/
def nanV : Value := .float .f64 9221120237041090561

/-- The frame of Fill at its loops. -/
structure FillAt (w wr : World) (b0 b1 b2 b3 : Nat) (start step : Int) (n : Nat) (k : Nat) (v : Nat → Value) (cs : Array Value) : Prop where
  bel : Below w.heap.size w wr
  ord : w.heap.size ≤ b0 ∧ b0 < b1 ∧ b1 < b2 ∧ b2 < b3
  a0 : wr.heap[b0]? = some (.cells #[.int .i64 start, .int .i64 step, .int .i64 (n : Int)] 53 (0, 0))
  a1 : wr.heap[b1]? = some (.cells #[.int .i64 0, .int .i64 0, .slice none 0 0] 50 (0, 0))
  a2 : wr.heap[b2]? = some (.cells #[.int .i64 start, .int .i64 step, .slice (some ⟨b3, 0, none⟩) n n] 50 (0, 0))
  a3 : RowAt wr b3 n 32 k v cs

theorem FillAt.drew {w wr : World} {b0 b1 b2 b3 : Nat} {start step : Int} {n k : Nat} {v : Nat → Value} {cs : Array Value} (h : FillAt w wr b0 b1 b2 b3 start step n k v cs) : FillAt w wr.drew b0 b1 b2 b3 start step n k v cs :=
  ⟨h.bel.drew, h.ord, h.a0, h.a1, h.a2, ⟨h.a3.row, h.a3.size, h.a3.seg⟩⟩

/-- One value is laid. -/
theorem FillAt.set {w wr : World} {b0 b1 b2 b3 : Nat} {start step : Int} {n k : Nat} {v : Nat → Value} {cs : Array Value} (h : FillAt w wr b0 b1 b2 b3 start step n k v cs) (j k' : Nat) (hj : j < n) (v' : Nat → Value) (hv : ∀ i, i < k' → i ≠ j → i < k ∧ v' i = v i) :
    ∃ cs', FillAt w (wr.setCell ⟨b3, j, none⟩ (v' j)) b0 b1 b2 b3 start step n k' v' cs' := by
  obtain ⟨cs', I⟩ := h.a3.set j k' hj v' hv
  have o := h.ord
  exact ⟨cs', h.bel.setCell (by show _ ≤ b3; omega) _, o, (heap_setCell_other _ _ _ _ (by simp; omega)).trans h.a0, (heap_setCell_other _ _ _ _ (by simp; omega)).trans h.a1, (heap_setCell_other _ _ _ _ (by simp; omega)).trans h.a2, I⟩

theorem FillAt.cells {w wr : World} {b0 b1 b2 b3 : Nat} {start step : Int} {n k : Nat} {v : Nat → Value} {cs : Array Value} (h : FillAt w wr b0 b1 b2 b3 start step n k v cs) :
    wr.cell? ⟨b0, 0, none⟩ = some (.int .i64 start) ∧ wr.cell? ⟨b0, 1, none⟩ = some (.int .i64 step) ∧ wr.cell? ⟨b2, 0, none⟩ = some (.int .i64 start) ∧ wr.cell? ⟨b2, 1, none⟩ = some (.int .i64 step) ∧
      wr.cell? ⟨b2, 2, none⟩ = some (.slice (some ⟨b3, 0, none⟩) n n) := by
  refine ⟨?_, ?_, ?_, ?_, ?_⟩
  · simpa using cell_of_row wr b0 0 _ _ _ h.a0
  · simpa using cell_of_row wr b0 1 _ _ _ h.a0
  · simpa using cell_of_row wr b2 0 _ _ _ h.a2
  · simpa using cell_of_row wr b2 1 _ _ _ h.a2
  · simpa using cell_of_row wr b2 2 _ _ _ h.a2

theorem floats_made (w1 : World) (i0 : TypeInfo) (n : Nat) (hi0 : Try.prog.info? 32 = some i0) (hz0 : i0.zero = some (.float .f64 0)) (hz1 : i0.size = 1) (hz2 : i0.bytes = 8) (hn : n ≤ 65536) :
    ∃ w2, (Instr.makeSlice 27 (.int .i64 (n : Int)) (.int .i64 (n : Int))).run Try.prog w1 = .ok (.slice (some ⟨w1.heap.size, 0, none⟩) n n) w2 ∧ w1.grownBy w2 none ∧ ∃ cs, RowAt w2 w1.heap.size n 32 n (fun _ => .float .f64 0) cs := by
  obtain ⟨w2, hrun, hown, hg⟩ := run_make_full (P := Try.prog) w1 w1.heap.size 27 32 i0 (.float .f64 0) 1 Try.underlying27 hi0 hz0 hz1 .i64 .i64 n (by rw [hz2]; omega) (by unfold maxLen; omega) (Nat.le_refl _)
  exact ⟨w2, hrun, hg, made_rowAt rfl hown⟩

/-- What is laid when 'pre' has come: at each place the last value, NaN where none came. -/
def layV (n : Nat) (pre : List (Nat × Nat)) (i : Nat) : Value := pre.foldl (fun v x => if x.1 % n = i then .float .f64 x.2 else v) nanV
theorem layV_snoc (n : Nat) (pre : List (Nat × Nat)) (x : Nat × Nat) (i : Nat) : layV n (pre ++ [x]) i = if x.1 % n = i then .float .f64 x.2 else layV n pre i := by simp [layV]

theorem FillAt.kept {w A B : World} {b0 b1 b2 b3 : Nat} {start step : Int} {n k : Nat} {v : Nat → Value} {cs : Array Value} {B0 : Nat} {row : Option Nat} (h : FillAt w A b0 b1 b2 b3 start step n k v cs) (hB : w.heap.size ≤ B0) (hg : A.grownBy B row)
    (hr : ∀ r, row = some r → B0 ≤ r ∧ ∃ o : Obj, A.heap[r]? = some o ∧ o.isCells = false) : FillAt w B b0 b1 b2 b3 start step n k v cs :=
  ⟨h.bel.grown hg h.bel.size (fun k e => Nat.le_trans hB (hr k e).1), h.ord, (grownBy_keeps_cells hg (fun r e => (hr r e).2) h.a0 rfl).trans h.a0, (grownBy_keeps_cells hg (fun r e => (hr r e).2) h.a1 rfl).trans h.a1,
    (grownBy_keeps_cells hg (fun r e => (hr r e).2) h.a2 rfl).trans h.a2, ⟨(grownBy_keeps_cells hg (fun r e => (hr r e).2) h.a3.row rfl).trans h.a3.row, h.a3.size, h.a3.seg⟩⟩

theorem noDefer {ops : Array Oper} (h : (ops.toList.all fun o => match o.op with | .defer _ => false | _ => true) = true) : ∀ (i : Nat) (o : Oper), ops[i]? = some o → ∀ c, o.op ≠ .defer c := by
  intro i o ho c hc
  have hm : o ∈ ops.toList := by
    have := List.mem_of_getElem? (l := ops.toList) (i := i) (a := o) (by simpa using ho)
    exact this
  have := List.all_eq_true.1 h o hm
  rw [hc] at this
  cases this

/-- What Fill hands back. -/
def Post38 (start step : Int) (n : Nat) (xs : List (Nat × Nat)) (w : World) (e : Ending) (w' : World) : Prop :=
  ∃ (b : Nat) (cs : Array Value), e = .returned (.agg #[.int .i64 start, .int .i64 step, .slice (some ⟨b, 0, none⟩) n n]) ∧ w.heap.size ≤ b ∧ RowAt w' b n 32 n (layV n xs) cs ∧ Below w.heap.size w w'

set_option maxRecDepth 100000 in
set_option maxHeartbeats 1000000 in
theorem fill_in (m : Nat) (hm : 1 ≤ m) (start step : Int) (n : Nat) (hn1 : 1 ≤ n) (hn : n ≤ 65536) (h1 : 1 ≤ step) (h2 : step ≤ 1099511627776)
    (T : Nat → Int) (hT : ∀ i, T i = start + ((i % n : Nat) : Int) * step) (xs : List (Nat × Nat)) (Sp : List (Nat × Nat) → Prop) (N : Nat) (lb : Array Value) (w : World)
    (hseq : ∀ wr, Below w.heap.size w wr → SeqStopsK Fence.wide (m - 1) Try.prog 39 lb (fun x : Nat × Nat => #[Value.int .i64 (T x.1), Value.float .f64 x.2]) (Below w.heap.size) (fun ys => ys = xs) Sp N wr) :
    CallsIn Fence.wide m Try.prog 38 #[.agg #[.int .i64 start, .int .i64 step, .int .i64 (n : Int)], .func (.func 39) #[] lb] w (Post38 start step n xs w) := by
  obtain ⟨i0, hi0, hz0, hz1, hz2⟩ := info_parts Try.info32
  have HT : Hid (∀ i, T i = start + ((i % n : Nat) : Int) * step) := hT
  clear hT
  refine callsIn_of_wp_marks Try.func38 rfl trivial ?_ rfl
  simp only [Try.ntmps38, List.size_toArray, List.length_cons, List.length_nil, Nat.reduceAdd, Nat.reduceSub, Array.replicate_succ, Array.replicate_zero, List.push_toArray, List.append_toArray, List.nil_append, List.cons_append]
  gi_wp2
  obtain ⟨W3, hW3⟩ : ∃ W3, W3 = ((w.alloc (.cells #[.int .i64 start, .int .i64 step, .int .i64 (n : Int)] 53)).alloc (.cells #[.int .i64 0, .int .i64 0, .slice none 0 0] 50)).alloc (.cells #[.int .i64 start, .int .i64 step, .slice none 0 0] 50) := ⟨_, rfl⟩
  rw [← hW3]
  have hs3 : W3.heap.size = w.heap.size + 3 := by rw [hW3]; simp
  have hB3 : Below w.heap.size w W3 := by rw [hW3]; exact (((Below.refl _ _).alloc (Nat.le_refl _) _).alloc (by simp) _).alloc (by simp; omega) _
  obtain ⟨b0, hb0⟩ : ∃ b0, b0 = w.heap.size := ⟨_, rfl⟩
  obtain ⟨b1, hb1⟩ : ∃ b1, b1 = w.heap.size + 1 := ⟨_, rfl⟩
  obtain ⟨b2, hb2⟩ : ∃ b2, b2 = w.heap.size + 1 + 1 := ⟨_, rfl⟩
  have x0 : W3.heap[b0]? = some (.cells #[.int .i64 start, .int .i64 step, .int .i64 (n : Int)] 53 (0, 0)) := by
    rw [hW3, hb0, Below.heap_alloc _ _ _ (by simp; omega), Below.heap_alloc _ _ _ (by simp)]; exact World.alloc_heap_new _ _
  have x1 : W3.heap[b1]? = some (.cells #[.int .i64 0, .int .i64 0, .slice none 0 0] 50 (0, 0)) := by
    rw [hW3, hb1, Below.heap_alloc _ _ _ (by simp)]
    have := World.alloc_heap_new (w.alloc (.cells #[.int .i64 start, .int .i64 step, .int .i64 (n : Int)] 53)) (.cells #[.int .i64 0, .int .i64 0, .slice none 0 0] 50)
    rwa [World.size_alloc] at this
  have x2 : W3.heap[b2]? = some (.cells #[.int .i64 start, .int .i64 step, .slice none 0 0] 50 (0, 0)) := by
    rw [hW3, hb2]
    have := World.alloc_heap_new ((w.alloc (.cells #[.int .i64 start, .int .i64 step, .int .i64 (n : Int)] 53)).alloc (.cells #[.int .i64 0, .int .i64 0, .slice none 0 0] 50)) (.cells #[.int .i64 start, .int .i64 step, .slice none 0 0] 50)
    rwa [World.size_alloc, World.size_alloc] at this
  obtain ⟨W4, hmk, hg4, cs, R⟩ := floats_made W3 i0 n hi0 hz0 hz1 hz2 hn
  rw [← hb2, ← hb1, ← hb0]
  obtain ⟨b3, hb3⟩ : ∃ b3, b3 = W3.heap.size := ⟨_, rfl⟩
  rw [← hb3] at hmk R
  rw [hmk]
  have hB4 : Below W3.heap.size W3 W4 := (Below.refl _ _).grown hg4 (Nat.le_refl _) (fun k h => by cases h)
  have ho : w.heap.size ≤ b0 ∧ b0 < b1 ∧ b1 < b2 ∧ b2 < b3 := by omega
  have y0 := (hB4.block b0 (by omega)).trans x0
  have y1 := (hB4.block b1 (by omega)).trans x1
  have y2 := (hB4.block b2 (by omega)).trans x2
  have hBW : Hid (Below w.heap.size w W4) := hB3.trans (hB4.mono (by omega))
  clear hB3 hB4 hg4 hmk x0 x1 x2 hW3 hb0 hb1 hb2 hs3 hb3
  have c2 : W4.cell? ⟨b2, 2, none⟩ = some (.slice none 0 0) := by simpa using cell_of_row W4 b2 2 _ _ _ y2
  have f2 := frozen_of_row W4 b2 2 _ _ y2
  have HR := R
  clear R
  gi_wp2
  have hF : FillAt w (W4.setCell ⟨b2, 2, none⟩ (.slice (some ⟨b3, 0, none⟩) n n)) b0 b1 b2 b3 start step n 0 (fun _ => nanV) cs := by
    refine ⟨hBW.out.setCell (by show _ ≤ b2; omega) _, ho, (heap_setCell_other _ _ _ _ (by simp; omega)).trans y0, (heap_setCell_other _ _ _ _ (by simp; omega)).trans y1, ?_, ⟨(heap_setCell_other _ _ _ _ (by simp; omega)).trans HR.row, HR.size, fun j hj => absurd hj (by omega)⟩⟩
    rw [heap_setCell_same _ _ _ _ _ _ y2]
    rfl
  obtain ⟨W5, hW5⟩ : ∃ W5, W5 = W4.setCell ⟨b2, 2, none⟩ (.slice (some ⟨b3, 0, none⟩) n n) := ⟨_, rfl⟩
  rw [← hW5] at hF
  rw [← hW5]
  clear hW5 HR c2 f2 y0 y1 y2 hBW hi0 hz0 hz1 hz2
  gi_loopw [25] (fun i wr => ∃ (k : Nat) (cs : Array Value), k ≤ n ∧ i = .int .i64 k ∧ FillAt w wr b0 b1 b2 b3 start step n k (fun _ => nanV) cs) (fun i _ => n - (intOf i).toNat)
  case atStart => exact ⟨0, cs, Nat.zero_le _, rfl, hF⟩
  case round =>
    clear hF
    obtain ⟨k, cs, hk, rfl, hF⟩ := hrel
    by_cases hlt : k < n
    · obtain ⟨_, _, _, _, e2⟩ := hF.cells
      obtain ⟨⟨x0, e3⟩, e4⟩ := hF.a3.facts hlt
      obtain ⟨cs', hF'⟩ := hF.drew.set k (k + 1) hlt (fun _ => nanV) (fun i hi hne => ⟨by omega, rfl⟩)
      unfold nanV at hF'
      have HF : Hid (FillAt w (wr.drew.setCell ⟨b3, k, none⟩ (.float .f64 9221120237041090561)) b0 b1 b2 b3 start step n (k + 1) (fun _ => .float .f64 9221120237041090561) cs') := hF'
      clear hF hF' ho
      gi_wp2
      refine Code.wpIn_mono NoPanic.imp ?_
      gi_region_with (refine ⟨trivial, ?_⟩; refine (callsIn_wide.2 (nan_any _)).mono ?_; rintro e w' ⟨rfl, rfl⟩)
      all_goals
        refine NoPanic.normal ?_
        gi_wp2
        go_roundw
        case rel => exact ⟨k + 1, cs', by omega, by simp, HF.out⟩
        case measure => simp [intOf]; omega
    · obtain rfl : n = k := by omega
      gi_wp2
      refine wpIn_rangeFunc_ownF rfl hm (gf := 39) (lb := lb) rfl trivial (enters_of Try.func39 (by kernel_rfl) rfl) (hseq wr hF.bel) belowK_t (belowK_b hF.bel.size) (Below.refl _ _) (fun _ => rfl)
        (fun pre W => ∃ cs, FillAt w W b0 b1 b2 b3 start step n n (layV n pre) cs) (fun _ _ _ => False)
        (fun pre A B row hs hg hr => by
          obtain ⟨cs, h⟩ := hs
          exact ⟨cs, h.kept hF.bel.size hg hr⟩)
        (fun _ _ _ _ _ hs _ _ => hs)
        ⟨cs, hF⟩
        (fun x => { tmps := #[.agg #[.int .i64 start, .int .i64 step, .int .i64 (n : Int)], .func (.func 39) #[] lb, .pointer (some ⟨b0, 0, none⟩), undef, .pointer (some ⟨b1, 0, none⟩), .pointer (some ⟨b2, 0, none⟩), u6, .int .i64 (T x.1), .float .f64 x.2,
          .pointer (some ⟨b0, 0, none⟩), .int .i64 start, .pointer (some ⟨b0, 1, none⟩), .int .i64 step, .agg #[.int .i64 start, .int .i64 step, .slice none 0 0], .pointer (some ⟨b0, 2, none⟩), .int .i64 (n : Int), .bool false, undef,
          .pointer (some ⟨b0, 2, none⟩), .int .i64 (n : Int), .slice (some ⟨b3, 0, none⟩) n n, .pointer (some ⟨b2, 2, none⟩), .pointer (some ⟨b2, 2, none⟩), .slice (some ⟨b3, 0, none⟩) n n, .int .i64 (n : Int), .int .i64 (n : Int), .bool false, u27, u28, u29, u30, u31, u32, u33,
          .func (.func 39) #[] lb, .int .i64 (T x.1), .float .f64 x.2, undef, undef, undef, undef, undef, undef, undef, undef, undef, undef, undef, undef], defers := [] }) ?assign ?body ?done ?stop
      case assign =>
        intro l x W K hK
        gi_wp2
        exact hK
      case body =>
        rintro l pre ⟨x, fv⟩ W ⟨cs, hF⟩ _
        dsimp only
        rw [HT.out x]
        have hjn : x % n < n := Nat.mod_lt _ hn1
        obtain ⟨j, hj⟩ : ∃ j, j = x % n := ⟨_, rfl⟩
        rw [← hj] at hjn
        rw [← hj]
        have hp0 : 0 ≤ (j : Int) * step := Int.mul_nonneg (by omega) (by omega)
        have hp1 : (j : Int) * step ≤ 65536 * 1099511627776 := Int.mul_le_mul (by omega) h2 (by omega) (by omega)
        have hpd : ((j : Int) * step).tdiv step = (j : Int) := Int.mul_tdiv_cancel _ (by omega)
        obtain ⟨p, hp⟩ : ∃ p, p = (j : Int) * step := ⟨_, rfl⟩
        rw [← hp] at hp0 hp1 hpd
        rw [← hp]
        clear hp
        have hs0 : ¬ step = 0 := by omega
        have hw1 : IntKind.i64.wrap (start + p - start) = p := by rw [IntKind.wrap_i64]; omega
        have hw3 : IntKind.i64.wrap (j : Int) = (j : Int) := by rw [IntKind.wrap_i64]; omega
        have hend : Hid (KeepsOthers W (W.setCell ⟨b3, j, none⟩ (.float .f64 fv)).drew ∧ Below w.heap.size W (W.setCell ⟨b3, j, none⟩ (.float .f64 fv)).drew ∧ ∃ cs, FillAt w (W.setCell ⟨b3, j, none⟩ (.float .f64 fv)).drew b0 b1 b2 b3 start step n n (layV n (pre ++ [(x, fv)])) cs) := by
          refine ⟨(KeepsOthers.setCell _ _ _).trans (KeepsOthers.drew _), ((Below.refl _ W).setCell (p := ⟨b3, j, none⟩) (by show _ ≤ b3; omega) _).drew, ?_⟩
          obtain ⟨cs', h'⟩ := hF.set j n hjn (layV n (pre ++ [(x, fv)])) (fun i hi hne => ⟨hi, by rw [layV_snoc, if_neg (by rw [← hj]; exact fun h => hne h.symm)]⟩)
          rw [layV_snoc, if_pos hj.symm] at h'
          exact ⟨cs', h'.drew⟩
        clear hseq hj HT
        obtain ⟨z0, z1, _, _, z2⟩ := hF.cells
        obtain ⟨⟨y0, z3⟩, z4⟩ := hF.a3.facts hjn
        gi_wp2
        refine Code.wpIn_mono NoPanic.imp ?_
        refine wpIn_region_any (by kernel_rfl) ?_
        refine wpAnyIn_inRound l rfl (noDefer (by kernel_rfl)) _ _ _ _ ?_
        change wpAnyIn _ _ _ _ _ _ _ _ _ (World.drew _)
        refine wpAnyIn_take (i := 0) (v := ?_) rfl rfl (by kernel_rfl) (by kernel_rfl) (by kernel_rfl) (fun _ _ _ h => h) ⟨Or.inl ⟨by rfl, fun wx => (by go_simp; try (with_reducible rfl))⟩, fun _ => rfl⟩ ?_
        refine wpAnyIn_take (i := 2) (v := ?_) rfl rfl (by kernel_rfl) (by kernel_rfl) (by kernel_rfl) (fun _ _ _ h => h) ⟨Or.inl ⟨by rfl, fun wx => (by go_simp; try (with_reducible rfl))⟩, fun _ => rfl⟩ ?_
        refine wpAnyIn_take (i := 3) (v := ?_) rfl rfl (by kernel_rfl) (by kernel_rfl) (by kernel_rfl) (fun _ _ _ h => h) ⟨Or.inl ⟨by rfl, fun wx => (by go_simp; try (with_reducible rfl))⟩, fun _ => rfl⟩ ?_
        refine wpAnyIn_take (i := 6) (v := ?_) rfl rfl (by kernel_rfl) (by kernel_rfl) (by kernel_rfl) (fun _ _ _ h => h) ⟨Or.inl ⟨by rfl, fun wx => (by go_simp; try (with_reducible rfl))⟩, fun _ => rfl⟩ ?_
        refine wpAnyIn_take (i := 9) (v := ?_) rfl rfl (by kernel_rfl) (by kernel_rfl) (by kernel_rfl) (fun _ _ _ h => h) ⟨Or.inl ⟨by rfl, fun wx => (by go_simp; try (with_reducible rfl))⟩, fun _ => rfl⟩ ?_
        refine wpAnyIn_ready (rs := [1, 4, 7]) (by kernel_rfl) (by simp) ?_
        refine AllReadyIn.cons rfl (fun K hK => ?_) ?_
        · go_simp
          refine hK _ _ ?_
          clear hK K
          refine wpAnyIn_ready (rs := [4, 7]) (by kernel_rfl) (by simp) ?_
          refine AllReadyIn.cons rfl (fun K hK => ?_) ?_
          · go_simp
            refine hK _ _ ?_
            clear hK K
            refine wpAnyIn_take (i := 5) (v := .int .i64 p) rfl rfl (by kernel_rfl) (by kernel_rfl) (by kernel_rfl) (fun _ _ _ h => h) ⟨Or.inl ⟨by rfl, fun wx => (by go_simp; try simp [hw1])⟩, fun _ => rfl⟩ ?_
            refine wpAnyIn_ready (rs := [7]) (by kernel_rfl) (by simp) ?_
            refine AllReadyIn.cons rfl (fun K hK => ?_) ?_
            · go_simp
              refine hK _ _ ?_
              clear hK K
              refine wpAnyIn_take (i := 8) (v := .int .i64 (j : Int)) rfl rfl (by kernel_rfl) (by kernel_rfl) (by kernel_rfl) (fun _ _ _ h => h) ⟨Or.inl ⟨by rfl, fun wx => (by go_simp; try simp [hs0, hw1, hpd, hw3])⟩, fun _ => rfl⟩ ?_
              refine wpAnyIn_take (i := 10) (v := ?_) rfl rfl (by kernel_rfl) (by kernel_rfl) (by kernel_rfl) (fun _ _ _ h => h) ⟨Or.inl ⟨by rfl, fun wx => (by go_simp; try (with_reducible rfl))⟩, fun _ => rfl⟩ ?_
              refine wpAnyIn_ready (rs := [11]) (by kernel_rfl) (by simp) ?_
              refine AllReadyIn.cons rfl (fun K hK => ?_) ?_
              · go_simp
                refine hK _ _ ?_
                clear hK K
                refine wpAnyIn_done (by kernel_rfl) ?_ _
                refine NoPanic.normal ?_
                gi_wp2
                exact hend.out
              exact AllReadyIn.nil
            exact AllReadyIn.nil
          refine AllReadyIn.cons rfl (fun K hK => ?_) ?_
          · go_simp
            refine hK _ _ ?_
            clear hK K
            refine wpAnyIn_ready (rs := [4]) (by kernel_rfl) (by simp) ?_
            refine AllReadyIn.cons rfl (fun K hK => ?_) ?_
            · go_simp
              refine hK _ _ ?_
              clear hK K
              refine wpAnyIn_take (i := 5) (v := .int .i64 p) rfl rfl (by kernel_rfl) (by kernel_rfl) (by kernel_rfl) (fun _ _ _ h => h) ⟨Or.inl ⟨by rfl, fun wx => (by go_simp; try simp [hw1])⟩, fun _ => rfl⟩ ?_
              refine wpAnyIn_take (i := 8) (v := .int .i64 (j : Int)) rfl rfl (by kernel_rfl) (by kernel_rfl) (by kernel_rfl) (fun _ _ _ h => h) ⟨Or.inl ⟨by rfl, fun wx => (by go_simp; try simp [hs0, hw1, hpd, hw3])⟩, fun _ => rfl⟩ ?_
              refine wpAnyIn_take (i := 10) (v := ?_) rfl rfl (by kernel_rfl) (by kernel_rfl) (by kernel_rfl) (fun _ _ _ h => h) ⟨Or.inl ⟨by rfl, fun wx => (by go_simp; try (with_reducible rfl))⟩, fun _ => rfl⟩ ?_
              refine wpAnyIn_ready (rs := [11]) (by kernel_rfl) (by simp) ?_
              refine AllReadyIn.cons rfl (fun K hK => ?_) ?_
              · go_simp
                refine hK _ _ ?_
                clear hK K
                refine wpAnyIn_done (by kernel_rfl) ?_ _
                refine NoPanic.normal ?_
                gi_wp2
                exact hend.out
              exact AllReadyIn.nil
            exact AllReadyIn.nil
          exact AllReadyIn.nil
        refine AllReadyIn.cons rfl (fun K hK => ?_) ?_
        · go_simp
          refine hK _ _ ?_
          clear hK K
          refine wpAnyIn_take (i := 5) (v := .int .i64 p) rfl rfl (by kernel_rfl) (by kernel_rfl) (by kernel_rfl) (fun _ _ _ h => h) ⟨Or.inl ⟨by rfl, fun wx => (by go_simp; try simp [hw1])⟩, fun _ => rfl⟩ ?_
          refine wpAnyIn_ready (rs := [1, 7]) (by kernel_rfl) (by simp) ?_
          refine AllReadyIn.cons rfl (fun K hK => ?_) ?_
          · go_simp
            refine hK _ _ ?_
            clear hK K
            refine wpAnyIn_ready (rs := [7]) (by kernel_rfl) (by simp) ?_
            refine AllReadyIn.cons rfl (fun K hK => ?_) ?_
            · go_simp
              refine hK _ _ ?_
              clear hK K
              refine wpAnyIn_take (i := 8) (v := .int .i64 (j : Int)) rfl rfl (by kernel_rfl) (by kernel_rfl) (by kernel_rfl) (fun _ _ _ h => h) ⟨Or.inl ⟨by rfl, fun wx => (by go_simp; try simp [hs0, hw1, hpd, hw3])⟩, fun _ => rfl⟩ ?_
              refine wpAnyIn_take (i := 10) (v := ?_) rfl rfl (by kernel_rfl) (by kernel_rfl) (by kernel_rfl) (fun _ _ _ h => h) ⟨Or.inl ⟨by rfl, fun wx => (by go_simp; try (with_reducible rfl))⟩, fun _ => rfl⟩ ?_
              refine wpAnyIn_ready (rs := [11]) (by kernel_rfl) (by simp) ?_
              refine AllReadyIn.cons rfl (fun K hK => ?_) ?_
              · go_simp
                refine hK _ _ ?_
                clear hK K
                refine wpAnyIn_done (by kernel_rfl) ?_ _
                refine NoPanic.normal ?_
                gi_wp2
                exact hend.out
              exact AllReadyIn.nil
            exact AllReadyIn.nil
          refine AllReadyIn.cons rfl (fun K hK => ?_) ?_
          · go_simp
            refine hK _ _ ?_
            clear hK K
            refine wpAnyIn_take (i := 8) (v := .int .i64 (j : Int)) rfl rfl (by kernel_rfl) (by kernel_rfl) (by kernel_rfl) (fun _ _ _ h => h) ⟨Or.inl ⟨by rfl, fun wx => (by go_simp; try simp [hs0, hw1, hpd, hw3])⟩, fun _ => rfl⟩ ?_
            refine wpAnyIn_ready (rs := [1]) (by kernel_rfl) (by simp) ?_
            refine AllReadyIn.cons rfl (fun K hK => ?_) ?_
            · go_simp
              refine hK _ _ ?_
              clear hK K
              refine wpAnyIn_take (i := 10) (v := ?_) rfl rfl (by kernel_rfl) (by kernel_rfl) (by kernel_rfl) (fun _ _ _ h => h) ⟨Or.inl ⟨by rfl, fun wx => (by go_simp; try (with_reducible rfl))⟩, fun _ => rfl⟩ ?_
              refine wpAnyIn_ready (rs := [11]) (by kernel_rfl) (by simp) ?_
              refine AllReadyIn.cons rfl (fun K hK => ?_) ?_
              · go_simp
                refine hK _ _ ?_
                clear hK K
                refine wpAnyIn_done (by kernel_rfl) ?_ _
                refine NoPanic.normal ?_
                gi_wp2
                exact hend.out
              exact AllReadyIn.nil
            exact AllReadyIn.nil
          exact AllReadyIn.nil
        refine AllReadyIn.cons rfl (fun K hK => ?_) ?_
        · go_simp
          refine hK _ _ ?_
          clear hK K
          refine wpAnyIn_ready (rs := [1, 4]) (by kernel_rfl) (by simp) ?_
          refine AllReadyIn.cons rfl (fun K hK => ?_) ?_
          · go_simp
            refine hK _ _ ?_
            clear hK K
            refine wpAnyIn_ready (rs := [4]) (by kernel_rfl) (by simp) ?_
            refine AllReadyIn.cons rfl (fun K hK => ?_) ?_
            · go_simp
              refine hK _ _ ?_
              clear hK K
              refine wpAnyIn_take (i := 5) (v := .int .i64 p) rfl rfl (by kernel_rfl) (by kernel_rfl) (by kernel_rfl) (fun _ _ _ h => h) ⟨Or.inl ⟨by rfl, fun wx => (by go_simp; try simp [hw1])⟩, fun _ => rfl⟩ ?_
              refine wpAnyIn_take (i := 8) (v := .int .i64 (j : Int)) rfl rfl (by kernel_rfl) (by kernel_rfl) (by kernel_rfl) (fun _ _ _ h => h) ⟨Or.inl ⟨by rfl, fun wx => (by go_simp; try simp [hs0, hw1, hpd, hw3])⟩, fun _ => rfl⟩ ?_
              refine wpAnyIn_take (i := 10) (v := ?_) rfl rfl (by kernel_rfl) (by kernel_rfl) (by kernel_rfl) (fun _ _ _ h => h) ⟨Or.inl ⟨by rfl, fun wx => (by go_simp; try (with_reducible rfl))⟩, fun _ => rfl⟩ ?_
              refine wpAnyIn_ready (rs := [11]) (by kernel_rfl) (by simp) ?_
              refine AllReadyIn.cons rfl (fun K hK => ?_) ?_
              · go_simp
                refine hK _ _ ?_
                clear hK K
                refine wpAnyIn_done (by kernel_rfl) ?_ _
                refine NoPanic.normal ?_
                gi_wp2
                exact hend.out
              exact AllReadyIn.nil
            exact AllReadyIn.nil
          refine AllReadyIn.cons rfl (fun K hK => ?_) ?_
          · go_simp
            refine hK _ _ ?_
            clear hK K
            refine wpAnyIn_take (i := 5) (v := .int .i64 p) rfl rfl (by kernel_rfl) (by kernel_rfl) (by kernel_rfl) (fun _ _ _ h => h) ⟨Or.inl ⟨by rfl, fun wx => (by go_simp; try simp [hw1])⟩, fun _ => rfl⟩ ?_
            refine wpAnyIn_take (i := 8) (v := .int .i64 (j : Int)) rfl rfl (by kernel_rfl) (by kernel_rfl) (by kernel_rfl) (fun _ _ _ h => h) ⟨Or.inl ⟨by rfl, fun wx => (by go_simp; try simp [hs0, hw1, hpd, hw3])⟩, fun _ => rfl⟩ ?_
            refine wpAnyIn_ready (rs := [1]) (by kernel_rfl) (by simp) ?_
            refine AllReadyIn.cons rfl (fun K hK => ?_) ?_
            · go_simp
              refine hK _ _ ?_
              clear hK K
              refine wpAnyIn_take (i := 10) (v := ?_) rfl rfl (by kernel_rfl) (by kernel_rfl) (by kernel_rfl) (fun _ _ _ h => h) ⟨Or.inl ⟨by rfl, fun wx => (by go_simp; try (with_reducible rfl))⟩, fun _ => rfl⟩ ?_
              refine wpAnyIn_ready (rs := [11]) (by kernel_rfl) (by simp) ?_
              refine AllReadyIn.cons rfl (fun K hK => ?_) ?_
              · go_simp
                refine hK _ _ ?_
                clear hK K
                refine wpAnyIn_done (by kernel_rfl) ?_ _
                refine NoPanic.normal ?_
                gi_wp2
                exact hend.out
              exact AllReadyIn.nil
            exact AllReadyIn.nil
          exact AllReadyIn.nil
        exact AllReadyIn.nil
      case done =>
        rintro D ys W hD rfl ⟨cs, hF⟩ hK
        obtain ⟨_, _, z0, z1, z2⟩ := hF.cells
        have o0 : W.cell? ⟨b1, 0, none⟩ = some (.int .i64 0) := by simpa using cell_of_row W b1 0 _ _ _ hF.a1
        have o1 : W.cell? ⟨b1, 1, none⟩ = some (.int .i64 0) := by simpa using cell_of_row W b1 1 _ _ _ hF.a1
        have o2 : W.cell? ⟨b1, 2, none⟩ = some (.slice none 0 0) := by simpa using cell_of_row W b1 2 _ _ _ hF.a1
        have q0 := frozen_of_row W b1 0 _ _ hF.a1
        have q1 := frozen_of_row W b1 1 _ _ hF.a1
        have q2 := frozen_of_row W b1 2 _ _ hF.a1
        have hDs : w.heap.size ≤ D := Nat.le_trans (Nat.le_trans ‹FillAt w wr b0 b1 b2 b3 start step n n (fun _ => nanV) _›.bel.size (Nat.le_refl _)) hD
        clear hseq HT
        gi_wp2
        obtain ⟨W6, hW6⟩ : ∃ W6, W6 = ((W.setCell ⟨b1, 0, none⟩ (.int .i64 start)).setCell ⟨b1, 1, none⟩ (.int .i64 step)).setCell ⟨b1, 2, none⟩ (.slice (some ⟨b3, 0, none⟩) n n) := ⟨_, rfl⟩
        rw [← hW6]
        have r1 : W6.heap[b1]? = some (.cells #[.int .i64 start, .int .i64 step, .slice (some ⟨b3, 0, none⟩) n n] 50 (0, 0)) := by
          rw [hW6, heap_setCell_same _ _ _ _ _ _ (heap_setCell_same _ _ _ _ _ _ (heap_setCell_same _ _ _ _ _ _ hF.a1))]
          rfl
        have r3 : W6.heap[b3]? = some (.cells cs 32 (0, 0)) := by
          rw [hW6, heap_setCell_other _ _ _ _ (by simp; omega), heap_setCell_other _ _ _ _ (by simp; omega), heap_setCell_other _ _ _ _ (by simp; omega)]
          exact hF.a3.row
        have hK6 : W6.heap[D]? = some (.deferred (some [])) := by
          rw [hW6]
          exact (((KeepsOthers.setCell _ _ _).trans (KeepsOthers.setCell _ _ _)).trans (KeepsOthers.setCell _ _ _)).same D _ hK rfl
        have hB6 : Below w.heap.size w W6 := by
          rw [hW6]
          exact ((hF.bel.setCell (p := ⟨b1, 0, none⟩) (by show _ ≤ b1; omega) _).setCell (p := ⟨b1, 1, none⟩) (by show _ ≤ b1; omega) _).setCell (p := ⟨b1, 2, none⟩) (by show _ ≤ b1; omega) _
        clear hW6 z0 z1 z2 o0 o1 o2 q0 q1 q2 hK
        have k0 : W6.cell? ⟨b1, 0, none⟩ = some (.int .i64 start) := by simpa using cell_of_row W6 b1 0 _ _ _ r1
        have k1 : W6.cell? ⟨b1, 1, none⟩ = some (.int .i64 step) := by simpa using cell_of_row W6 b1 1 _ _ _ r1
        have k2 : W6.cell? ⟨b1, 2, none⟩ = some (.slice (some ⟨b3, 0, none⟩) n n) := by simpa using cell_of_row W6 b1 2 _ _ _ r1
        have hgp := grownBy_putObj' W6 D (.deferred none)
        have hro : ∀ r, some D = some r → ∃ o : Obj, W6.heap[r]? = some o ∧ o.isCells = false := fun r e => by cases e; exact ⟨_, hK6, rfl⟩
        have m0 := cell_kept k0 hgp hro
        have m1 := cell_kept k1 hgp hro
        have m2 := cell_kept k2 hgp hro
        refine ⟨by simp, .inl ⟨_, _, rfl, run_takeDeferred hK6, ?_⟩⟩
        refine ⟨.agg #[.int .i64 start, .int .i64 step, .slice (some ⟨b3, 0, none⟩) n n], ?_, b3, cs, rfl, by omega, ⟨(grownBy_keeps_cells hgp hro r3 rfl).trans r3, hF.a3.size, hF.a3.seg⟩, hB6.trans (belowK_b (w := w) (Nat.le_refl _) W6 D _ _ hDs hK6 rfl rfl)⟩
        simp [results, Try.f38, go_sem, m0, m1, m2]
      case stop =>
        rintro D c pre W _ _ h _
        exact h.elim
end Go.Proofs.Qxb6616513a
