import Derived.Test.Qxb6616513aK
namespace Go.Proofs.Qxb6616513a
open Go.RowKit Go.Shelf

attribute [local go_sem] run_store_float

/-- What is laid over d. -/
def layD (d : Value) (n : Nat) (pre : List (Nat × Nat)) (i : Nat) : Value := pre.foldl (fun v x => if x.1 % n = i then .float .f64 x.2 else v) d
theorem layD_snoc (d : Value) (n : Nat) (pre : List (Nat × Nat)) (x : Nat × Nat) (i : Nat) : layD d n (pre ++ [x]) i = if x.1 % n = i then .float .f64 x.2 else layD d n pre i := by simp [layD]
theorem layD_nan (n : Nat) (pre : List (Nat × Nat)) (i : Nat) : layV n pre i = layD nanV n pre i := rfl

/-- Has a value been laid there? -/
def laid (n : Nat) (pre : List (Nat × Nat)) (i : Nat) : Bool := pre.foldl (fun b x => if x.1 % n = i then true else b) false
theorem laid_snoc (n : Nat) (pre : List (Nat × Nat)) (x : Nat × Nat) (i : Nat) : laid n (pre ++ [x]) i = if x.1 % n = i then true else laid n pre i := by simp [laid]

theorem layD_cases (n : Nat) (i : Nat) (f : Nat → Nat × Nat) (k : Nat) : (laid n (upto f k) i = false ∧ ∀ d, layD d n (upto f k) i = d) ∨ (laid n (upto f k) i = true ∧ ∃ b, ∀ d, layD d n (upto f k) i = .float .f64 b) := by
  induction k with
  | zero => exact Or.inl ⟨rfl, fun _ => rfl⟩
  | succ k ih =>
    rw [upto_succ]
    by_cases e : (f k).1 % n = i
    · exact Or.inr ⟨by rw [laid_snoc, if_pos e], (f k).2, fun d => by rw [layD_snoc, if_pos e]⟩
    · rcases ih with ⟨h1, h2⟩ | ⟨h1, b, h2⟩
      · exact Or.inl ⟨by rw [laid_snoc, if_neg e, h1], fun d => by rw [layD_snoc, if_neg e, h2]⟩
      · exact Or.inr ⟨by rw [laid_snoc, if_neg e, h1], b, fun d => by rw [layD_snoc, if_neg e, h2]⟩

/-- What stands while the tables are laid, k pairs having come. -/
structure St6 (w W : World) (start step : Int) (n len : Nat) (a1 a2 : Option Addr) (g3 g4 g5 : Nat) (f : Nat → Nat × Nat) (k : Nat) (csw csf : Array Value) : Prop where
  bel : Below w.heap.size w W
  ord : w.heap.size ≤ g4 ∧ g4 < g5 ∧ g3 < g4
  v1 : ValsAt W g4 a1 len (fun j => .int .i64 (start + ((f j).1 : Int) * step))
  v2 : ValsAt W g4 a2 len (fun j => .float .f64 (f j).2)
  v3 : ∀ j, j < len → W.cell? ⟨g3, j, none⟩ = some (.int .i64 ((f j).1 : Nat))
  r4 : RowAt W g4 n 32 n (layD (.float .f64 0) n (upto f k)) csw
  r5 : RowAt W g5 n 4 n (fun i => .bool (laid n (upto f k) i)) csf

/-- One pair more. -/
theorem St6.step {w W : World} {start step : Int} {n len : Nat} {a1 a2 : Option Addr} {g3 g4 g5 : Nat} {f : Nat → Nat × Nat} {k : Nat} {csw csf : Array Value} (S : St6 w W start step n len a1 a2 g3 g4 g5 f k csw csf) (hk : (f k).1 < n) :
    ∃ csw' csf', St6 w ((W.setCell ⟨g4, (f k).1, none⟩ (.float .f64 (f k).2)).setCell ⟨g5, (f k).1, none⟩ (.bool true)) start step n len a1 a2 g3 g4 g5 f (k + 1) csw' csf' := by
  have hm : (f k).1 % n = (f k).1 := Nat.mod_eq_of_lt hk
  have o := S.ord
  obtain ⟨csw', R4⟩ := S.r4.set (f k).1 n hk (layD (.float .f64 0) n (upto f (k + 1))) (fun i hi hne => ⟨hi, by rw [upto_succ, layD_snoc, hm, if_neg (fun h => hne h.symm)]⟩)
  rw [upto_succ, layD_snoc, hm, if_pos rfl] at R4
  have R5a : RowAt (W.setCell ⟨g4, (f k).1, none⟩ (.float .f64 (f k).2)) g5 n 4 n (fun i => .bool (laid n (upto f k) i)) csf := S.r5.same (heap_setCell_other _ _ _ _ (by simp; omega))
  obtain ⟨csf', R5⟩ := R5a.set (f k).1 n hk (fun i => .bool (laid n (upto f (k + 1)) i)) (fun i hi hne => ⟨hi, by rw [upto_succ, laid_snoc, hm, if_neg (fun h => hne h.symm)]⟩)
  rw [upto_succ, laid_snoc, hm, if_pos rfl] at R5
  have hB : Below g4 W ((W.setCell ⟨g4, (f k).1, none⟩ (.float .f64 (f k).2)).setCell ⟨g5, (f k).1, none⟩ (.bool true)) := ((Below.refl g4 W).setCell (p := ⟨g4, (f k).1, none⟩) (Nat.le_refl _) _).setCell (p := ⟨g5, (f k).1, none⟩) (by show g4 ≤ g5; omega) _
  refine ⟨csw', csf', S.bel.trans (hB.mono o.1), o, S.v1.below hB, S.v2.below hB, fun j hj => (hB.cell (p := ⟨g3, j, none⟩) o.2.2).trans (S.v3 j hj), ?_, ?_⟩
  · rw [upto_succ]
    exact R4.same (heap_setCell_other _ _ _ _ (by simp; omega))
  · rw [upto_succ]
    exact R5

theorem nan_not_equal : (FloatKind.f64.format.order 9221120237041090561 9221120237041090561 == some Ordering.eq) = false := by kernel_rfl

/-- The slots found, pair by pair, with the values. -/
theorem vals_of_slots {W : World} {B : Nat} {a : Option Addr} {len : Nat} {z : Nat → Int} {start step : Int} {f : Nat → Nat × Nat} (h : ValsAt W B a len (fun j => .int .i64 (z j))) (hz : ∀ j, j < len → start + ((f j).1 : Int) * step = z j) :
    ValsAt W B a len (fun j => .int .i64 (start + ((f j).1 : Int) * step)) := by
  rcases h with h | ⟨b, off, ha, hlt, hc⟩
  · exact Or.inl h
  · exact Or.inr ⟨b, off, ha, hlt, fun j hj => by rw [hc j hj]; dsimp only; rw [hz j hj]⟩

set_option maxRecDepth 100000 in
set_option maxHeartbeats 2000000 in
theorem f6_some_some (start step : Int) (n : Nat) (d1 : Addr) (c1 : Nat) (d2 : Addr) (c2 : Nat) (len : Nat) (hl : len ≤ 65536) (z : Nat → Int) (fl : Nat → Nat) (w : World) (hn : n ≤ 65536) (h1 : 1 ≤ step) (h2 : step ≤ 1099511627776) (h3 : -4611686018427387904 ≤ start) (h4 : start ≤ 4611686018427387904)
    (v1 : ∀ j, j < len → w.cell? (d1.add j) = some (.int .i64 (z j))) (v2 : ∀ j, j < len → w.cell? (d2.add j) = some (.float .f64 (fl j))) :
    Calls Try.prog 6 #[.int .i64 start, .int .i64 step, .int .i64 (n : Int), .slice (some d1) len c1, .slice (some d2) len c2] w (Post6 w) := by
  have q23 := zzBytes23 start step n (some d1) (some d2) len c1 len c2 w (by omega) (by omega)
  rw [decide_eq_true (by omega)] at q23
  obtain ⟨i2, hi2, hz20, hz21, hz22⟩ := info_parts Try.info2
  obtain ⟨i3, hi3, hz30, hz31, hz32⟩ := info_parts Try.info32
  obtain ⟨i4, hi4, hz40, hz41, hz42⟩ := info_parts Try.info4
  have hnil1 := fun wx => Lib.run_eql_slice_nil (P := Try.prog) wx 26 2 (some d1) len c1 0 0 Try.underlying26
  have hnil2 := fun wx => Lib.run_eql_slice_nil (P := Try.prog) wx 27 32 (some d2) len c2 0 0 Try.underlying27
  have hll : (((len : Nat) : Int) != ((len : Nat) : Int)) = false := by simp
  go_enter Try.func6, Try.ntmps6
  go_wp2_with fail
  refine q23.mono ?_
  rintro e w0 ⟨rfl, rfl⟩
  clear q23
  go_wp2_with (at_make; refine wpList_make_full _ rfl _ _ 26 rfl w0.heap.size 2 i2 _ 1 Try.underlying26 hi2 hz20 hz21 _ _ _ _ len rfl rfl rfl rfl (by rw [hz22]; omega) (by unfold maxLen; omega) (by simp) ?_; intro w1 hown hgrow)
  obtain ⟨W1, x1, hrun1, hB1, hs1, V1⟩ : ∃ (W1 : World) (x1 : Value), (Builtin.copy_ #[26, 26] 3 #[.slice (some ⟨w0.heap.size, 0, none⟩) len len, .slice (some d1) len c1]).run Try.prog w1 = .ok x1 W1 ∧ Below w0.heap.size w0 W1 ∧ w0.heap.size < W1.heap.size ∧ ValsAt W1 W1.heap.size (some ⟨w0.heap.size, 0, none⟩) len (fun j => .int .i64 (z j)) := by
    obtain ⟨cs1, R⟩ := made_rowAt rfl hown
    have hB : Below w0.heap.size w0 w1 := (Below.refl _ _).grown hgrow (Nat.le_refl _) (fun k h => by cases h)
    obtain ⟨row1, hcp, R1⟩ := copy_vals w1 26 2 3 Try.underlying26 (by kernel_rfl) w0.heap.size len len d1 c1 cs1 (fun j => .int .i64 (z j)) R.row (fun j hj => by rw [hB.cell (p := d1.add j) (World.block_lt_of_cell? _ _ (v1 j hj))]; exact v1 j hj) (fun _ _ => rfl) R.size
    exact ⟨_, _, hcp, hB.trans (below_setRow _ _ _ (Nat.le_refl _)), R1.lt, R1.vals _ (Nat.le_refl _)⟩
  rw [hrun1]
  clear hown hgrow hrun1 hnil1
  obtain ⟨g1, hg1⟩ : ∃ g1, g1 = w0.heap.size := ⟨_, rfl⟩
  rw [← hg1] at V1 hs1
  rw [← hg1]
  have HB1 : Hid (Below w0.heap.size w0 W1) := hB1
  clear hB1 hg1
  go_wp2_with (at_make; refine wpList_make_full _ rfl _ _ 27 rfl W1.heap.size 32 i3 _ 1 Try.underlying27 hi3 hz30 hz31 _ _ _ _ len rfl rfl rfl rfl (by rw [hz32]; omega) (by unfold maxLen; omega) (by simp) ?_; intro w2 hown2 hgrow2)
  obtain ⟨W2, x2, hrun2, hB2, hs2, V2⟩ : ∃ (W2 : World) (x2 : Value), (Builtin.copy_ #[27, 27] 3 #[.slice (some ⟨W1.heap.size, 0, none⟩) len len, .slice (some d2) len c2]).run Try.prog w2 = .ok x2 W2 ∧ Below W1.heap.size W1 W2 ∧ W1.heap.size < W2.heap.size ∧ ValsAt W2 W2.heap.size (some ⟨W1.heap.size, 0, none⟩) len (fun j => .float .f64 (fl j)) := by
    obtain ⟨cs2, R⟩ := made_rowAt rfl hown2
    have hB : Below W1.heap.size W1 w2 := (Below.refl _ _).grown hgrow2 (Nat.le_refl _) (fun k h => by cases h)
    obtain ⟨row2, hcp, R2⟩ := copy_vals w2 27 32 3 Try.underlying27 (by kernel_rfl) W1.heap.size len len d2 c2 cs2 (fun j => .float .f64 (fl j)) R.row (fun j hj => by rw [hB.cell (p := d2.add j) (Nat.lt_of_lt_of_le (World.block_lt_of_cell? _ _ (v2 j hj)) HB1.out.size), HB1.out.cell (p := d2.add j) (World.block_lt_of_cell? _ _ (v2 j hj))]; exact v2 j hj) (fun _ _ => rfl) R.size
    exact ⟨_, _, hcp, hB.trans (below_setRow _ _ _ (Nat.le_refl _)), R2.lt, R2.vals _ (Nat.le_refl _)⟩
  rw [hrun2]
  clear hown2 hgrow2 hrun2 hnil2
  obtain ⟨g2, hg2⟩ : ∃ g2, g2 = W1.heap.size := ⟨_, rfl⟩
  rw [← hg2] at V2 hs2
  rw [← hg2]
  have HB2 : Hid (Below w0.heap.size w0 W2) := HB1.out.trans (hB2.mono HB1.out.size)
  have V1' := (V1.below hB2).mono hB2.size
  clear hB2 hg2 V1 HB1 hs2
  have q24 := slots_any start step n (some ⟨g1, 0, none⟩) len len z W2 hn h1 h2 h3 h4 (by omega) V1'
  have HV1 : Hid (ValsAt W2 W2.heap.size (some ⟨g1, 0, none⟩) len (fun j => .int .i64 (z j))) := V1'
  have HV2 : Hid (ValsAt W2 W2.heap.size (some ⟨g2, 0, none⟩) len (fun j => .float .f64 (fl j))) := V2
  clear V1' V2
  go_wp2_with fail
  refine q24.mono ?_
  clear q24
  rintro e W3 ⟨hB3, rfl | ⟨g3, cs3, sl, rfl, hge3, R3, hs3⟩⟩
  · have HB3 : Hid (Below w0.heap.size w0 W3) := HB2.out.trans (hB3.mono HB2.out.size)
    clear hB3
    go_wp2_with fail
    go_ret
    exact ⟨rfl, HB3.out⟩
  · have HB3 : Hid (Below w0.heap.size w0 W3) := HB2.out.trans (hB3.mono HB2.out.size)
    obtain ⟨f, hf⟩ : ∃ f : Nat → Nat × Nat, f = fun j => (sl j, fl j) := ⟨_, rfl⟩
    have HV1' : Hid (ValsAt W3 W3.heap.size (some ⟨g1, 0, none⟩) len (fun j => .int .i64 (start + ((f j).1 : Int) * step))) := vals_of_slots ((HV1.out.below hB3).mono hB3.size) (fun j hj => by rw [hf]; exact (hs3 j hj).2)
    have HV2' : Hid (ValsAt W3 W3.heap.size (some ⟨g2, 0, none⟩) len (fun j => .float .f64 (f j).2)) := by rw [hf]; exact (HV2.out.below hB3).mono hB3.size
    have HR3 : Hid (g3 < W3.heap.size ∧ ∀ j, j < len → W3.cell? ⟨g3, j, none⟩ = some (.int .i64 ((f j).1 : Nat))) := ⟨R3.lt, fun j hj => by rw [hf]; exact R3.cell hj⟩
    have HF : Hid (∀ j, j < len → (f j).1 < n) := fun j hj => by rw [hf]; exact (hs3 j hj).1
    clear hB3 HV1 HV2 R3 hs3 hf HB2 hge3
    go_wp2_with (first
      | (at_make; refine wpList_make_full _ rfl _ _ 27 rfl W3.heap.size 32 i3 _ 1 Try.underlying27 hi3 hz30 hz31 _ _ _ _ n rfl rfl rfl rfl (by rw [hz32]; omega) (by unfold maxLen; omega) (by simp) ?_; intro w4 hown4 hgrow4)
      | (at_make; refine wpList_make_full _ rfl _ _ 48 rfl w4.heap.size 4 i4 _ 1 Try.underlying48 hi4 hz40 hz41 _ _ _ _ n rfl rfl rfl rfl (by rw [hz42]; omega) (by unfold maxLen; omega) (by simp) ?_; intro w5 hown5 hgrow5))
    obtain ⟨csw, R4⟩ := made_rowAt rfl hown4
    obtain ⟨csf, R5⟩ := made_rowAt rfl hown5
    have b4 : Below W3.heap.size W3 w4 := (Below.refl _ _).grown hgrow4 (Nat.le_refl _) (fun k h => by cases h)
    have b5 : Below w4.heap.size w4 w5 := (Below.refl _ _).grown hgrow5 (Nat.le_refl _) (fun k h => by cases h)
    have b35 : Below W3.heap.size W3 w5 := b4.trans (b5.mono b4.size)
    have S0 : St6 w0 w5 start step n len (some ⟨g1, 0, none⟩) (some ⟨g2, 0, none⟩) g3 W3.heap.size w4.heap.size f 0 csw csf :=
      ⟨HB3.out.trans (b35.mono HB3.out.size), ⟨HB3.out.size, R4.lt, HR3.out.1⟩, HV1'.out.below b35, HV2'.out.below b35, fun j hj => (b35.cell (p := ⟨g3, j, none⟩) HR3.out.1).trans (HR3.out.2 j hj), ⟨(b5.block _ R4.lt).trans R4.row, R4.size, R4.seg⟩, R5⟩
    obtain ⟨g4, hg4⟩ : ∃ g4, g4 = W3.heap.size := ⟨_, rfl⟩
    obtain ⟨g5, hg5⟩ : ∃ g5, g5 = w4.heap.size := ⟨_, rfl⟩
    rw [← hg4, ← hg5] at S0
    rw [← hg4, ← hg5]
    clear hg4 hg5 hown4 hown5 hgrow4 hgrow5 R4 R5 b4 b5 b35 HB3 HV1' HV2' HR3 hi2 hz20 hz21 hz22 hi3 hz30 hz31 hz32 hi4 hz40 hz41 hz42
    go_loopw [17] (fun i wr => ∃ (k : Nat) (csw csf : Array Value), k ≤ len ∧ i = .int .i64 k ∧ St6 w0 wr start step n len (some ⟨g1, 0, none⟩) (some ⟨g2, 0, none⟩) g3 g4 g5 f k csw csf) (fun i _ => len - (intOf i).toNat)
    case atStart => exact ⟨0, csw, csf, Nat.zero_le _, rfl, S0⟩
    case round =>
      clear S0
      obtain ⟨k, csw, csf, hk, rfl, S⟩ := hrel
      by_cases hlt : k < len
      · have hfk := HF.out k hlt
        have e3 := S.v3 k hlt
        have e2 : wr.cell? ⟨g2, k, none⟩ = some (.float .f64 (f k).2) := by
          rcases S.v2 with h | ⟨b, off, hab, _, hc⟩
          · omega
          · simp only [Option.some.injEq, Addr.mk.injEq, and_true] at hab
            obtain ⟨h1, h2⟩ := hab
            subst h1 h2
            simpa using hc k hlt
        obtain ⟨⟨x4, e4⟩, f4⟩ := S.r4.facts hfk
        obtain ⟨⟨x5, e5⟩, f5⟩ := S.r5.facts hfk
        have Sd : St6 w0 wr.drew start step n len (some ⟨g1, 0, none⟩) (some ⟨g2, 0, none⟩) g3 g4 g5 f k csw csf := ⟨S.bel.drew, S.ord, S.v1, S.v2, S.v3, ⟨S.r4.row, S.r4.size, S.r4.seg⟩, ⟨S.r5.row, S.r5.size, S.r5.seg⟩⟩
        obtain ⟨csw', csf', S'⟩ := Sd.step hfk
        have hne : g3 < g4 ∧ g5 ≠ g4 := by have := S.ord; omega
        have HS : Hid (∃ csw' csf', St6 w0 ((wr.drew.setCell ⟨g4, (f k).1, none⟩ (.float .f64 (f k).2)).setCell ⟨g5, (f k).1, none⟩ (.bool true)) start step n len (some ⟨g1, 0, none⟩) (some ⟨g2, 0, none⟩) g3 g4 g5 f (k + 1) csw' csf') := ⟨csw', csf', S'⟩
        clear S S' Sd
        obtain ⟨s, hs⟩ : ∃ s, s = (f k).1 := ⟨_, rfl⟩
        obtain ⟨y, hy⟩ : ∃ y, y = (f k).2 := ⟨_, rfl⟩
        rw [← hs] at hfk e3 e4 f4 e5 f5 HS
        rw [← hy] at e2 HS
        clear hs hy
        go_wp2_with fail
        go_region
        all_goals
          have w3' : (wr.drew.setCell ⟨g4, s, none⟩ (.float .f64 y)).cell? ⟨g3, k, none⟩ = some (.int .i64 (s : Nat)) := (((Below.refl g4 wr).drew.setCell (p := ⟨g4, s, none⟩) (Nat.le_refl _) _).cell (p := ⟨g3, k, none⟩) hne.1).trans e3
          have w5' : ∃ x, (wr.drew.setCell ⟨g4, s, none⟩ (.float .f64 y)).cell? ⟨g5, s, none⟩ = some x := ⟨x5, (World.cell?_of_block (heap_setCell_other _ _ _ _ hne.2)).trans e5⟩
          have z5' : (wr.drew.setCell ⟨g4, s, none⟩ (.float .f64 y)).frozen? ⟨g5, s, none⟩ = false := (World.frozen?_of_block (heap_setCell_other _ _ _ _ hne.2)).trans f5
          obtain ⟨x6, w5'⟩ := w5'
          obtain ⟨W', hW'⟩ : ∃ W', W' = wr.drew.setCell ⟨g4, s, none⟩ (.float .f64 y) := ⟨_, rfl⟩
          rw [← hW'] at w3' w5' z5' HS
          first
            | rw [← hW']
            | (have hWd : (wr.setCell ⟨g4, s, none⟩ (.float .f64 y)).drew = W' := hW'.symm
               rw [hWd])
          clear hW'
          go_wp2_with fail
          go_roundw
          case rel =>
            obtain ⟨csw', csf', S'⟩ := HS.out
            exact ⟨k + 1, csw', csf', by omega, by go_num, S'⟩
          case measure => simp [intOf]; omega
      · obtain rfl : len = k := by omega
        have q25 := zzfill_any start step n hn h1 h2 (some ⟨g1, 0, none⟩) (some ⟨g2, 0, none⟩) len len len f (by omega) wr (S.v1.mono (Nat.le_of_lt S.r4.lt)) (S.v2.mono (Nat.le_of_lt S.r4.lt)) HF.out
        have HS : Hid (St6 w0 wr start step n len (some ⟨g1, 0, none⟩) (some ⟨g2, 0, none⟩) g3 g4 g5 f len csw csf) := S
        have s1 : (start != start) = false := by simp
        have s2 : (step != step) = false := by simp
        have s3 : ((n : Int) != (n : Int)) = false := by simp
        clear S
        go_wp2_with fail
        refine q25.mono ?_
        clear q25
        rintro e W6 ⟨sv, rfl, hB6, hsv⟩
        have R4 : RowAt W6 g4 n 32 n (layD (.float .f64 0) n (upto f len)) csw := HS.out.r4.same (hB6.block _ HS.out.r4.lt)
        have R5 : RowAt W6 g5 n 4 n (fun i => .bool (laid n (upto f len) i)) csf := HS.out.r5.same (hB6.block _ HS.out.r5.lt)
        have HBW : Hid (Below w0.heap.size w0 W6) := HS.out.bel.trans (hB6.mono HS.out.bel.size)
        clear hB6 HS
        rcases hsv with ⟨rfl, rfl⟩ | ⟨hn1, b, csb, rfl, hgeb, R6⟩
        · clear R4 R5
          go_wp2_with fail
          refine wp_loop_rounds 1 ?_
          rw [rounds_succ]
          go_wp2_with fail
          go_ret
          exact ⟨rfl, HBW.out.alloc HBW.out.size _⟩
        · have R4' := R4.same (Below.heap_alloc W6 (.cells #[.int .i64 start, .int .i64 step, .slice (some ⟨b, 0, none⟩) n n] 50) _ R4.lt)
          have R5' := R5.same (Below.heap_alloc W6 (.cells #[.int .i64 start, .int .i64 step, .slice (some ⟨b, 0, none⟩) n n] 50) _ R5.lt)
          have R6' := R6.same (Below.heap_alloc W6 (.cells #[.int .i64 start, .int .i64 step, .slice (some ⟨b, 0, none⟩) n n] 50) _ R6.lt)
          have hgot : (W6.alloc (.cells #[.int .i64 start, .int .i64 step, .slice (some ⟨b, 0, none⟩) n n] 50)).cell? ⟨W6.heap.size, 2, none⟩ = some (.slice (some ⟨b, 0, none⟩) n n) := by
            exact (cell_of_row _ _ 2 _ _ _ (World.alloc_heap_new W6 (.cells #[.int .i64 start, .int .i64 step, .slice (some ⟨b, 0, none⟩) n n] 50))).trans rfl
          have HB7 : Hid (Below w0.heap.size w0 (W6.alloc (.cells #[.int .i64 start, .int .i64 step, .slice (some ⟨b, 0, none⟩) n n] 50))) := HBW.out.alloc HBW.out.size _
          clear R4 R5 R6 HBW
          go_wp2_with fail
          obtain ⟨W7, hW7⟩ : ∃ W7, W7 = W6.alloc (.cells #[.int .i64 start, .int .i64 step, .slice (some ⟨b, 0, none⟩) n n] 50) := ⟨_, rfl⟩
          rw [← hW7] at R4' R5' R6' hgot HB7
          rw [← hW7]
          clear hW7
          obtain ⟨gb, hgb⟩ : ∃ gb, gb = W6.heap.size := ⟨_, rfl⟩
          rw [← hgb] at hgot
          rw [← hgb]
          clear hgb
          go_loopw [19] (fun i wr => ∃ (k : Nat), k ≤ n ∧ i = .int .i64 k ∧ wr = W7) (fun i _ => n - (intOf i).toNat)
          case atStart => exact ⟨0, Nat.zero_le _, rfl, rfl⟩
          case round =>
            obtain ⟨k, hk, rfl, rfl⟩ := hrel
            by_cases hlt : k < n
            · have c4 := R4'.cell hlt
              have c5 := R5'.cell hlt
              have c6 := R6'.cell hlt
              rw [layD_nan] at c6
              rcases layD_cases n k f len with ⟨h0, hd⟩ | ⟨h0, bb, hd⟩
              · rw [hd] at c4 c6
                rw [h0] at c5
                unfold nanV at c6
                have hnn := nan_not_equal
                clear R4' R5' R6' hd h0
                go_wp2_with fail
                go_roundw
                case rel => exact ⟨k + 1, by omega, by go_num, trivial⟩
                case measure => simp [intOf]; omega
              · rw [hd] at c4 c6
                rw [h0] at c5
                have q18 := sameFloat_refl bb wr
                clear R4' R5' R6' hd h0
                go_wp2_with fail
                refine q18.mono ?_
                rintro e w9 ⟨rfl, rfl⟩
                go_wp2_with fail
                go_roundw
                case rel => exact ⟨k + 1, by omega, by go_num, trivial⟩
                case measure => simp [intOf]; omega
            · clear R4' R5' R6'
              go_wp2_with fail
              go_ret
              exact ⟨rfl, HB7.out⟩

end Go.Proofs.Qxb6616513a

