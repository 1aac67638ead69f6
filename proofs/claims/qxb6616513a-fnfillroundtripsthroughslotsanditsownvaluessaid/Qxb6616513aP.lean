import Derived.Test.Qxb6616513aO
import Derived.Laws.StructEq
import Derived.Deep.RegionHeld3
namespace Go.Proofs.Qxb6616513a
open Go.RowKit Go.Shelf

attribute [local go_sem] run_store_float

theorem stood53 : Try.prog.stoodInHeld 53 = false := by kernel_rfl

/-- What stands once the series is filled: the slots' box, the series' box, its values; the pairs and their slots. -/
structure Out7 (w W : World) (bs bo : Nat) (start step : Int) (n len : Nat) (a2 a6 : Option Addr) (g3 : Nat) (f : Nat → Nat × Nat) : Prop where
  bel : Below w.heap.size w W
  rs : W.heap[bs]? = some (.cells #[.int .i64 start, .int .i64 step, .int .i64 (n : Int)] 53 (0, 0))
  ro : W.heap[bo]? = some (.cells #[.int .i64 start, .int .i64 step, .slice a6 n n] 50 (0, 0))
  v2 : ValsAt W W.heap.size a2 len (fun j => .float .f64 (f j).2)
  v3 : g3 < W.heap.size ∧ ∀ j, j < len → W.cell? ⟨g3, j, none⟩ = some (.int .i64 ((f j).1 : Nat))
  v6 : ValsAt W W.heap.size a6 n (layV n (upto f len))

theorem Out7.below {w W W' : World} {bs bo : Nat} {start step : Int} {n len : Nat} {a2 a6 : Option Addr} {g3 : Nat} {f : Nat → Nat × Nat} (h : Out7 w W bs bo start step n len a2 a6 g3 f) (hb : Below W.heap.size W W') : Out7 w W' bs bo start step n len a2 a6 g3 f :=
  ⟨h.bel.trans (hb.mono h.bel.size), (hb.block _ (Array.getElem?_eq_some_iff.1 h.rs).1).trans h.rs, (hb.block _ (Array.getElem?_eq_some_iff.1 h.ro).1).trans h.ro, (h.v2.below hb).mono hb.size,
    ⟨Nat.lt_of_lt_of_le h.v3.1 hb.size, fun j hj => (hb.cell (p := ⟨g3, j, none⟩) h.v3.1).trans (h.v3.2 j hj)⟩, (h.v6.below hb).mono hb.size⟩

theorem Out7.drewN {w W : World} {bs bo : Nat} {start step : Int} {n len : Nat} {a2 a6 : Option Addr} {g3 : Nat} {f : Nat → Nat × Nat} (h : Out7 w W bs bo start step n len a2 a6 g3 f) (q : Nat) : Out7 w (W.drewN q) bs bo start step n len a2 a6 g3 f :=
  h.below ⟨rfl, rfl, rfl, Nat.le_refl _, fun _ _ => rfl⟩

/-- Not a NaN. -/
def notNaN (b : Nat) : Bool := FloatKind.f64.format.order b b == some Ordering.eq

/-- The places below k whose value is no NaN, with the values. -/
def kept (v : Nat → Nat) : Nat → List (Nat × Nat)
  | 0 => []
  | k + 1 => if notNaN (v k) = true then kept v k ++ [(k, v k)] else kept v k

theorem kept_length (v : Nat → Nat) (k : Nat) : (kept v k).length ≤ k := by
  induction k with
  | zero => exact Nat.le_refl _
  | succ k ih =>
    unfold kept
    split
    · simp; omega
    · omega

theorem layV_bits (n : Nat) (f : Nat → Nat × Nat) (k : Nat) : ∃ vb : Nat → Nat, ∀ i, layV n (upto f k) i = .float .f64 (vb i) := by
  have h : ∀ i, ∃ b, layV n (upto f k) i = .float .f64 b := fun i => by
    rw [layD_nan]
    rcases layD_cases n i f k with ⟨_, hd⟩ | ⟨_, b, hd⟩
    · exact ⟨9221120237041090561, by rw [hd]; rfl⟩
    · exact ⟨b, hd _⟩
  exact ⟨fun i => Classical.choose (h i), fun i => Classical.choose_spec (h i)⟩

theorem other_row {w : World} {base : Nat} {t v : Value} {n m : Nat} {xs ys : List Value} {e1 e2 : TypeId} (he : e1 ≠ e2) (h1 : w.ownsRow base e1 1 t n xs) (h2 : w.ownsRow base e2 1 v m ys) : t.ownBlock = none ∨ t.ownBlock ≠ v.ownBlock := by
  rcases h1.2 with ⟨rfl, _⟩ | ⟨g, cap, cur, rfl, _, hg, _⟩
  · exact Or.inl rfl
  · right
    rcases h2.2 with ⟨rfl, _⟩ | ⟨g', cap', cur', rfl, _, hg', _⟩
    · intro h; cases h
    · intro h
      have e : g = g' := Option.some.inj h
      subst e
      rw [hg] at hg'
      simp at hg'
      exact he hg'.2

theorem keep_other {wr w4 : World} {o : Obj} {B : Nat} {t v : Value} {n m : Nat} {xs ys : List Value} (hr2 : wr.ownsRow B 32 1 v m ys) (hr1 : wr.ownsRow B 2 1 t n xs) (grow : (wr.alloc o).grownBy w4 t.ownBlock) : w4.ownsRow B 32 1 v m ys :=
  (hr2.alloc o).kept grow (other_row (by decide) (hr2.alloc o) (hr1.alloc o))
theorem keep_other2 {wr w4 : World} {o : Obj} {B : Nat} {t v : Value} {n m : Nat} {xs ys : List Value} (hr1 : wr.ownsRow B 2 1 t n xs) (hr2 : wr.ownsRow B 32 1 v m ys) (grow : (wr.alloc o).grownBy w4 v.ownBlock) : w4.ownsRow B 2 1 t n xs :=
  (hr1.alloc o).kept grow (other_row (by decide) (hr1.alloc o) (hr2.alloc o))
theorem keep_size {wr w4 : World} {o o' : Obj} {B : Nat} {row : Option Nat} (h : B ≤ wr.heap.size) (grow : (wr.alloc o).grownBy w4 row) : B ≤ (w4.alloc o').heap.size := by
  have h4 := grow.size
  simp at h4 ⊢
  omega

theorem own_ge {w : World} {base : Nat} {v : Value} {m : Nat} {ys : List Value} {e : TypeId} (h : w.ownsRow base e 1 v m ys) : ∀ k, v.ownBlock = some k → base ≤ k := by
  rcases h.2 with ⟨rfl, _⟩ | ⟨g, cap, cur, rfl, hb, _⟩
  · intro k h; cases h
  · intro k h; cases h; exact hb

theorem Out7.cells {w W : World} {bs bo : Nat} {start step : Int} {n len : Nat} {a2 a6 : Option Addr} {g3 : Nat} {f : Nat → Nat × Nat} (h : Out7 w W bs bo start step n len a2 a6 g3 f) :
    W.cell? ⟨bs, 0, none⟩ = some (.int .i64 start) ∧ W.cell? ⟨bs, 1, none⟩ = some (.int .i64 step) ∧ W.cell? ⟨bs, 2, none⟩ = some (.int .i64 (n : Int)) ∧
    W.cell? ⟨bo, 0, none⟩ = some (.int .i64 start) ∧ W.cell? ⟨bo, 1, none⟩ = some (.int .i64 step) ∧ W.cell? ⟨bo, 2, none⟩ = some (.slice a6 n n) := by
  refine ⟨?_, ?_, ?_, ?_, ?_, ?_⟩
  · simpa using cell_of_row W bs 0 _ _ _ h.rs
  · simpa using cell_of_row W bs 1 _ _ _ h.rs
  · simpa using cell_of_row W bs 2 _ _ _ h.rs
  · simpa using cell_of_row W bo 0 _ _ _ h.ro
  · simpa using cell_of_row W bo 1 _ _ _ h.ro
  · simpa using cell_of_row W bo 2 _ _ _ h.ro

theorem row_vals {w : World} {base : Nat} {e : TypeId} {v : Value} {n : Nat} {xs : List Value} (h : w.ownsRow base e 1 v n xs) (g : Nat → Value) (hg : ∀ j, j < n → xs[j]? = some (g j)) : ∃ a c, v = .slice a n c ∧ ValsAt w w.heap.size a n g := by
  rcases h.2 with ⟨rfl, rfl⟩ | ⟨b, cap, cur, rfl, _, hb, _⟩
  · exact ⟨none, 0, rfl, Or.inl rfl⟩
  · refine ⟨some ⟨b, 0, none⟩, cap, rfl, Or.inr ⟨b, 0, rfl, (Array.getElem?_eq_some_iff.1 hb).1, fun j hj => ?_⟩⟩
    have := h.cells (g := b) rfl j (g j) (hg j hj)
    have e : (⟨b, 0, none⟩ : Addr).add j = ⟨b, 0 + j, none⟩ := by simp [Addr.add]; intro h; exact h.symm
    rw [← e]; exact this

theorem kept_fun (vb : Nat → Nat) (n : Nat) : ∃ f2 : Nat → Nat × Nat, (∀ j, j < (kept vb n).length → (kept vb n)[j]? = some (f2 j)) ∧ upto f2 (kept vb n).length = kept vb n := by
  have h : ∀ j, j < (kept vb n).length → (kept vb n)[j]? = some ((kept vb n).getD j (0, 0)) := fun j hj => by
    simp [List.getD, List.getElem?_eq_getElem hj]
  refine ⟨fun j => (kept vb n).getD j (0, 0), h, ?_⟩
  refine List.ext_getElem? fun j => ?_
  unfold upto
  rw [List.getElem?_map]
  by_cases hj : j < (kept vb n).length
  · rw [h j hj, List.getElem?_range hj]; rfl
  · rw [List.getElem?_eq_none (by simp; omega), List.getElem?_eq_none (by omega)]; rfl

theorem kept_lt (vb : Nat → Nat) (k : Nat) : ∀ x ∈ kept vb k, x.1 < k := by
  induction k with
  | zero => intro x hx; simp [kept] at hx
  | succ k ih =>
    intro x hx
    unfold kept at hx
    split at hx
    · simp at hx
      rcases hx with hx | rfl
      · have := ih x hx; omega
      · simp
    · have := ih x hx; omega

theorem layV_kept (vb : Nat → Nat) (n i : Nat) (hi : i < n) (k : Nat) (hk : k ≤ n) : layV n (kept vb k) i = if i < k ∧ notNaN (vb i) = true then .float .f64 (vb i) else nanV := by
  induction k with
  | zero => simp [kept, layV]
  | succ k ih =>
    have ih := ih (by omega)
    have hm : k % n = k := Nat.mod_eq_of_lt (by omega)
    unfold kept
    by_cases hn : notNaN (vb k) = true
    · rw [if_pos hn, layV_snoc, ih]
      dsimp only
      rw [hm]
      by_cases e : k = i
      · subst e; rw [if_pos rfl, if_pos ⟨by omega, hn⟩]
      · rw [if_neg e]
        by_cases h : i < k ∧ notNaN (vb i) = true
        · rw [if_pos h, if_pos ⟨by omega, h.2⟩]
        · rw [if_neg h, if_neg (fun h' => h ⟨by omega, h'.2⟩)]
    · rw [if_neg hn, ih]
      by_cases h : i < k ∧ notNaN (vb i) = true
      · rw [if_pos h, if_pos ⟨by omega, h.2⟩]
      · rw [if_neg h, if_neg]
        intro h'
        by_cases e : i = k
        · subst e; exact hn h'.2
        · exact h ⟨by omega, h'.2⟩

/-- What stands once the series is filled again. -/
structure Out8 (w W : World) (bo b9 : Nat) (start step : Int) (n : Nat) (a6 a9 : Option Addr) (vb : Nat → Nat) : Prop where
  bel : Below w.heap.size w W
  ro : W.heap[bo]? = some (.cells #[.int .i64 start, .int .i64 step, .slice a6 n n] 50 (0, 0))
  r9 : W.heap[b9]? = some (.cells #[.int .i64 start, .int .i64 step, .slice a9 n n] 50 (0, 0))
  v6 : ValsAt W W.heap.size a6 n (fun i => .float .f64 (vb i))
  v9 : ValsAt W W.heap.size a9 n (fun i => if notNaN (vb i) = true then .float .f64 (vb i) else nanV)

theorem Out8.below {w W W' : World} {bo b9 : Nat} {start step : Int} {n : Nat} {a6 a9 : Option Addr} {vb : Nat → Nat} (h : Out8 w W bo b9 start step n a6 a9 vb) (hb : Below W.heap.size W W') : Out8 w W' bo b9 start step n a6 a9 vb :=
  ⟨h.bel.trans (hb.mono h.bel.size), (hb.block _ (Array.getElem?_eq_some_iff.1 h.ro).1).trans h.ro, (hb.block _ (Array.getElem?_eq_some_iff.1 h.r9).1).trans h.r9, (h.v6.below hb).mono hb.size, (h.v9.below hb).mono hb.size⟩

theorem Out8.cells {w W : World} {bo b9 : Nat} {start step : Int} {n : Nat} {a6 a9 : Option Addr} {vb : Nat → Nat} (h : Out8 w W bo b9 start step n a6 a9 vb) :
    W.cell? ⟨b9, 0, none⟩ = some (.int .i64 start) ∧ W.cell? ⟨b9, 1, none⟩ = some (.int .i64 step) ∧ W.cell? ⟨b9, 2, none⟩ = some (.slice a9 n n) ∧
    W.cell? ⟨bo, 0, none⟩ = some (.int .i64 start) ∧ W.cell? ⟨bo, 1, none⟩ = some (.int .i64 step) ∧ W.cell? ⟨bo, 2, none⟩ = some (.slice a6 n n) := by
  refine ⟨?_, ?_, ?_, ?_, ?_, ?_⟩
  · simpa using cell_of_row W b9 0 _ _ _ h.r9
  · simpa using cell_of_row W b9 1 _ _ _ h.r9
  · simpa using cell_of_row W b9 2 _ _ _ h.r9
  · simpa using cell_of_row W bo 0 _ _ _ h.ro
  · simpa using cell_of_row W bo 1 _ _ _ h.ro
  · simpa using cell_of_row W bo 2 _ _ _ h.ro

set_option maxRecDepth 100000 in
set_option maxHeartbeats 2000000 in
theorem f7_some_some (start step : Int) (n : Nat) (d1 : Addr) (c1 : Nat) (d2 : Addr) (c2 : Nat) (len : Nat) (hl : len ≤ 65536) (z : Nat → Int) (fl : Nat → Nat) (w : World) (hn : n ≤ 65536) (h1 : 1 ≤ step) (h2 : step ≤ 1099511627776) (h3 : -4611686018427387904 ≤ start) (h4 : start ≤ 4611686018427387904)
    (v1 : ∀ j, j < len → w.cell? (d1.add j) = some (.int .i64 (z j))) (v2 : ∀ j, j < len → w.cell? (d2.add j) = some (.float .f64 (fl j))) :
    Calls Try.prog 7 #[.int .i64 start, .int .i64 step, .int .i64 (n : Int), .slice (some d1) len c1, .slice (some d2) len c2] w (Post6 w) := by
  have q23 := zzBytes26 start step n (some d1) (some d2) len c1 len c2 w (by omega) (by omega)
  rw [decide_eq_true (by omega)] at q23
  obtain ⟨i2, hi2, hz20, hz21, hz22⟩ := info_parts Try.info2
  obtain ⟨i3, hi3, hz30, hz31, hz32⟩ := info_parts Try.info32
  obtain ⟨i4, hi4, hz40, hz41, hz42⟩ := info_parts Try.info4
  have hnil1 := fun wx => Lib.run_eql_slice_nil (P := Try.prog) wx 26 2 (some d1) len c1 0 0 Try.underlying26
  have hnil2 := fun wx => Lib.run_eql_slice_nil (P := Try.prog) wx 27 32 (some d2) len c2 0 0 Try.underlying27
  have hll : (((len : Nat) : Int) != ((len : Nat) : Int)) = false := by simp
  go_enter Try.func7, Try.ntmps7
  go_wp2_with fail
  refine q23.mono ?_
  rintro e w0 ⟨rfl, rfl⟩
  clear q23
  go_wp2_with (at_make; refine wpList_make_full _ rfl _ _ 26 rfl w0.heap.size 2 i2 _ 1 Try.underlying26 hi2 hz20 hz21 _ _ _ _ len rfl rfl rfl rfl (by rw [hz22]; omega) (by unfold maxLen; omega) (by simp) ?_; intro w1 hown hgrow)
  obtain ⟨W1, x1, hrun1, hB1, hs1, V1⟩ : ∃ (W1 : World) (x1 : Value), (Builtin.copy_ #[26, 26] 3 #[.slice (some ⟨w0.heap.size, 0, none⟩) len len, .slice (some d1) len c1]).run Try.prog w1 = .ok x1 W1 ∧ Below w0.heap.size w0 W1 ∧ w0.heap.size < W1.heap.size ∧ ValsAt W1 W1.heap.size (some ⟨w0.heap.size, 0, none⟩) len (fun j => .int .i64 (z j)) := by
    obtain ⟨cs1, R⟩ := made_rowAt rfl hown
    have hB : Below w0.heap.size w0 w1 := (Below.refl _ _).grown hgrow (Nat.le_refl _) (fun k h => by cases h)
    obtain ⟨row1, hcp, R1⟩ := copy_vals w1 26 2 3 Try.underlying26 (by kernel_rfl) w0.heap.size len len d1 c1 cs1 (fun j => .int .i64 (z j)) R.row (fun j hj => by rw [hB.cell (p := d1.add j) (World.block_lt_of_cell? _ _ (v1 j hj))]; exact v1 j hj) (fun _ _ => rfl) R.size
    exact ⟨_, _, hcp, hB.trans (below_setRow _ _ _ (Nat.le_refl _)), R1.lt, R1.vals _ (Nat.le_refl _)⟩
  rw [hrun1]
  clear hown hgrow hrun1 hnil1
  obtain ⟨g1, hg1⟩ : ∃ g1, g1 = w0.heap.size := ⟨_, rfl⟩
  rw [← hg1] at V1 hs1
  rw [← hg1]
  have HB1 : Hid (Below w0.heap.size w0 W1) := hB1
  clear hB1 hg1
  go_wp2_with (at_make; refine wpList_make_full _ rfl _ _ 27 rfl W1.heap.size 32 i3 _ 1 Try.underlying27 hi3 hz30 hz31 _ _ _ _ len rfl rfl rfl rfl (by rw [hz32]; omega) (by unfold maxLen; omega) (by simp) ?_; intro w2 hown2 hgrow2)
  obtain ⟨W2, x2, hrun2, hB2, hs2, V2⟩ : ∃ (W2 : World) (x2 : Value), (Builtin.copy_ #[27, 27] 3 #[.slice (some ⟨W1.heap.size, 0, none⟩) len len, .slice (some d2) len c2]).run Try.prog w2 = .ok x2 W2 ∧ Below W1.heap.size W1 W2 ∧ W1.heap.size < W2.heap.size ∧ ValsAt W2 W2.heap.size (some ⟨W1.heap.size, 0, none⟩) len (fun j => .float .f64 (fl j)) := by
    obtain ⟨cs2, R⟩ := made_rowAt rfl hown2
    have hB : Below W1.heap.size W1 w2 := (Below.refl _ _).grown hgrow2 (Nat.le_refl _) (fun k h => by cases h)
    obtain ⟨row2, hcp, R2⟩ := copy_vals w2 27 32 3 Try.underlying27 (by kernel_rfl) W1.heap.size len len d2 c2 cs2 (fun j => .float .f64 (fl j)) R.row (fun j hj => by rw [hB.cell (p := d2.add j) (Nat.lt_of_lt_of_le (World.block_lt_of_cell? _ _ (v2 j hj)) HB1.out.size), HB1.out.cell (p := d2.add j) (World.block_lt_of_cell? _ _ (v2 j hj))]; exact v2 j hj) (fun _ _ => rfl) R.size
    exact ⟨_, _, hcp, hB.trans (below_setRow _ _ _ (Nat.le_refl _)), R2.lt, R2.vals _ (Nat.le_refl _)⟩
  rw [hrun2]
  clear hown2 hgrow2 hrun2 hnil2
  obtain ⟨g2, hg2⟩ : ∃ g2, g2 = W1.heap.size := ⟨_, rfl⟩
  rw [← hg2] at V2 hs2
  rw [← hg2]
  have HB2 : Hid (Below w0.heap.size w0 W2) := HB1.out.trans (hB2.mono HB1.out.size)
  have V1' := (V1.below hB2).mono hB2.size
  clear hB2 hg2 V1 HB1 hs2
  have q24 := slots_any start step n (some ⟨g1, 0, none⟩) len len z W2 hn h1 h2 h3 h4 (by omega) V1'
  have HV1 : Hid (ValsAt W2 W2.heap.size (some ⟨g1, 0, none⟩) len (fun j => .int .i64 (z j))) := V1'
  have HV2 : Hid (ValsAt W2 W2.heap.size (some ⟨g2, 0, none⟩) len (fun j => .float .f64 (fl j))) := V2
  clear V1' V2
  go_wp2_with fail
  refine q24.mono ?_
  clear q24
  rintro e W3 ⟨hB3, rfl | ⟨g3, cs3, sl, rfl, hge3, R3, hs3⟩⟩
  · have HB3 : Hid (Below w0.heap.size w0 W3) := HB2.out.trans (hB3.mono HB2.out.size)
    clear hB3
    go_wp2_with fail
    go_ret
    exact ⟨rfl, HB3.out⟩
  · have HB3 : Hid (Below w0.heap.size w0 W3) := HB2.out.trans (hB3.mono HB2.out.size)
    obtain ⟨f, hf⟩ : ∃ f : Nat → Nat × Nat, f = fun j => (sl j, fl j) := ⟨_, rfl⟩
    have HV1' : Hid (ValsAt W3 W3.heap.size (some ⟨g1, 0, none⟩) len (fun j => .int .i64 (start + ((f j).1 : Int) * step))) := vals_of_slots ((HV1.out.below hB3).mono hB3.size) (fun j hj => by rw [hf]; exact (hs3 j hj).2)
    have HV2' : Hid (ValsAt W3 W3.heap.size (some ⟨g2, 0, none⟩) len (fun j => .float .f64 (f j).2)) := by rw [hf]; exact (HV2.out.below hB3).mono hB3.size
    have HR3 : Hid (g3 < W3.heap.size ∧ ∀ j, j < len → W3.cell? ⟨g3, j, none⟩ = some (.int .i64 ((f j).1 : Nat))) := ⟨R3.lt, fun j hj => by rw [hf]; exact R3.cell hj⟩
    have HF : Hid (∀ j, j < len → (f j).1 < n) := fun j hj => by rw [hf]; exact (hs3 j hj).1
    clear hB3 HV1 HV2 R3 hs3 hf HB2 hge3
    have q25 : Calls Try.prog 25 #[.agg #[.int .i64 start, .int .i64 step, .int .i64 (n : Int)], .slice (some ⟨g1, 0, none⟩) len len, .slice (some ⟨g2, 0, none⟩) len len] (W3.alloc (.cells #[.int .i64 start, .int .i64 step, .int .i64 (n : Int)] 53)) (Post25 start step n (upto f len) (W3.alloc (.cells #[.int .i64 start, .int .i64 step, .int .i64 (n : Int)] 53))) := by
      have hb : Below W3.heap.size W3 (W3.alloc (.cells #[.int .i64 start, .int .i64 step, .int .i64 (n : Int)] 53)) := (Below.refl _ _).alloc (Nat.le_refl _) _
      exact zzfill_any start step n hn h1 h2 (some ⟨g1, 0, none⟩) (some ⟨g2, 0, none⟩) len len len f (by omega) _ ((HV1'.out.below hb).mono hb.size) ((HV2'.out.below hb).mono hb.size) HF.out
    go_wp2_with fail
    refine q25.mono ?_
    clear q25
    rintro e W6 ⟨sv, rfl, hB6, hsv⟩
    obtain ⟨a6, rfl, HV6⟩ : ∃ a6, sv = .slice a6 n n ∧ Hid (ValsAt W6 W6.heap.size a6 n (layV n (upto f len))) := by
      rcases hsv with ⟨h0, rfl⟩ | ⟨_, b, cs, rfl, _, R⟩
      · exact ⟨none, by rw [h0], Or.inl h0⟩
      · exact ⟨some ⟨b, 0, none⟩, rfl, R.vals n (Nat.le_refl _)⟩
    have O7 : Out7 w0 (W6.alloc (.cells #[.int .i64 start, .int .i64 step, .slice a6 n n] 50)) W3.heap.size W6.heap.size start step n len (some ⟨g2, 0, none⟩) a6 g3 f := by
      have hb3 : Below W3.heap.size W3 (W3.alloc (.cells #[.int .i64 start, .int .i64 step, .int .i64 (n : Int)] 53)) := (Below.refl _ _).alloc (Nat.le_refl _) _
      have hb6 : Below W3.heap.size W3 W6 := hb3.trans (hB6.mono hb3.size)
      have hb7 : Below W6.heap.size W6 (W6.alloc (.cells #[.int .i64 start, .int .i64 step, .slice a6 n n] 50)) := (Below.refl _ _).alloc (Nat.le_refl _) _
      have hbb : Below W3.heap.size W3 (W6.alloc (.cells #[.int .i64 start, .int .i64 step, .slice a6 n n] 50)) := hb6.trans (hb7.mono hb6.size)
      have l3 : W3.heap.size < W6.heap.size := Nat.lt_of_lt_of_le (by simp) hB6.size
      refine ⟨HB3.out.trans (hbb.mono HB3.out.size), ?_, World.alloc_heap_new _ _, (HV2'.out.below hbb).mono hbb.size, ⟨Nat.lt_of_lt_of_le HR3.out.1 hbb.size, fun j hj => (hbb.cell (p := ⟨g3, j, none⟩) HR3.out.1).trans (HR3.out.2 j hj)⟩, (HV6.out.below hb7).mono hb7.size⟩
      exact (hb7.block _ l3).trans ((hB6.block _ (by simp)).trans (World.alloc_heap_new _ _))
    have HO7 : Hid (Out7 w0 (W6.alloc (.cells #[.int .i64 start, .int .i64 step, .slice a6 n n] 50)) W3.heap.size W6.heap.size start step n len (some ⟨g2, 0, none⟩) a6 g3 f) := O7
    clear O7 hB6 hsv HV6 HB3 HV1' HV2' HR3
    go_wp2_with fail
    obtain ⟨W7, hW7⟩ : ∃ W7, W7 = W6.alloc (.cells #[.int .i64 start, .int .i64 step, .slice a6 n n] 50) := ⟨_, rfl⟩
    rw [← hW7] at HO7
    rw [← hW7]
    obtain ⟨bs, hbs⟩ : ∃ bs, bs = W3.heap.size := ⟨_, rfl⟩
    obtain ⟨bo, hbo⟩ : ∃ bo, bo = W6.heap.size := ⟨_, rfl⟩
    rw [← hbs, ← hbo] at HO7
    rw [← hbs, ← hbo]
    clear hW7 hbs hbo
    obtain ⟨e0, e1, e2, e3, e4, e5⟩ := HO7.out.cells
    have hst := stood53
    have hO8 : ∀ W', W' = (W7.drew.alloc (.cells #[.int .i64 start, .int .i64 step, .slice a6 n n] 50)).alloc (.cells #[.int .i64 start, .int .i64 step, .int .i64 (n : Int)] 53) → Out7 w0 W' bs bo start step n len (some ⟨g2, 0, none⟩) a6 g3 f := by
      rintro W' rfl
      exact HO7.out.below (((Below.refl _ W7).drew.alloc (Nat.le_refl _) _).alloc (by simp) _)
    have HO8 : Hid (∀ W', W' = (W7.drew.alloc (.cells #[.int .i64 start, .int .i64 step, .slice a6 n n] 50)).alloc (.cells #[.int .i64 start, .int .i64 step, .int .i64 (n : Int)] 53) → Out7 w0 W' bs bo start step n len (some ⟨g2, 0, none⟩) a6 g3 f) := hO8
    clear hO8
    go_region_held3 (fun w' => w'.cell? ⟨bs, 0, none⟩ = some (.int .i64 start) ∧ w'.cell? ⟨bs, 1, none⟩ = some (.int .i64 step) ∧ w'.cell? ⟨bs, 2, none⟩ = some (.int .i64 (n : Int)) ∧ w'.cell? ⟨bo, 0, none⟩ = some (.int .i64 start) ∧ w'.cell? ⟨bo, 1, none⟩ = some (.int .i64 step) ∧ w'.cell? ⟨bo, 2, none⟩ = some (.slice a6 n n)) (go_keep)
      ((go_at_call 27; refine (slotsM_any start step a6 n n _).mono ?_; rintro e w8 ⟨rfl, hw8⟩; have o8 := HO8.out w8 hw8; obtain ⟨j0, j1, j2, j3, j4, j5⟩ := o8.cells; clear hw8))
    rename_i hHeld
    clear hHeld HO8 HO7 e0 e1 e2 e3 e4 e5
    have HO : Hid (Out7 w0 w8 bs bo start step n len (some ⟨g2, 0, none⟩) a6 g3 f) := o8
    clear o8
    have s1 : (start == start) = true := by simp
    have s2 : (step == step) = true := by simp
    have s3 : ((n : Int) == (n : Int)) = true := by simp
    have s4 : ((n : Int) != (n : Int)) = false := by simp
    by_cases hl0 : len = 0
    · have hl0' : ¬ (0 : Int) < ((len : Nat) : Int) := by omega
      go_wp2_with fail
      obtain ⟨V, hV⟩ : ∃ V, V = w8 := ⟨_, rfl⟩
      rw [← hV]
      have O : Out7 w0 V bs bo start step n len (some ⟨g2, 0, none⟩) a6 g3 f := by rw [hV]; exact HO.out
      clear hV j0 j1 j2 j3 j4 j5
      obtain ⟨vb, hvb⟩ := layV_bits n f len
      go_loopw [18, 19, 20] (fun t v i wr => ∃ (k : Nat), k ≤ n ∧ i = .int .i64 k ∧ Below V.heap.size V wr ∧ wr.ownsRow V.heap.size 2 1 t (kept vb k).length ((kept vb k).map fun x => .int .i64 (start + (x.1 : Int) * step)) ∧ wr.ownsRow V.heap.size 32 1 v (kept vb k).length ((kept vb k).map fun x => .float .f64 x.2)) (fun _ _ i _ => n - (intOf i).toNat)
      case atStart => exact ⟨0, Nat.zero_le _, rfl, Below.refl _ _, ⟨rfl, Or.inl ⟨rfl, rfl⟩⟩, ⟨rfl, Or.inl ⟨rfl, rfl⟩⟩⟩
      case round =>
        obtain ⟨k, hk, rfl, hB, hr1, hr2⟩ := hrel
        have hkl := kept_length vb k
        have HOr : Hid (Out7 w0 wr bs bo start step n len (some ⟨g2, 0, none⟩) a6 g3 f) := O.below hB
        have HB : Hid (Below V.heap.size V wr) := hB
        by_cases hlt : k < n
        · obtain ⟨_, _, _, _, _, y5⟩ := HOr.out.cells
          obtain ⟨b6, o6, ha6, c6⟩ : ∃ b6 o6, a6 = some ⟨b6, o6, none⟩ ∧ wr.cell? ⟨b6, o6 + k, none⟩ = some (.float .f64 (vb k)) := by
            rcases HOr.out.v6 with h | ⟨b, off, hab, _, hc⟩
            · omega
            · exact ⟨b, off, hab, by rw [hc k hlt, hvb]⟩
          rw [ha6] at y5
          clear ha6
          have hp0 : 0 ≤ (k : Int) * step := Int.mul_nonneg (by omega) (by omega)
          have hp1 : (k : Int) * step ≤ 65536 * 1099511627776 := Int.mul_le_mul (by omega) h2 (by omega) (by omega)
          cases hnn : notNaN (vb k) with
          | false =>
            have hnn' : (FloatKind.f64.format.order (vb k) (vb k) == some Ordering.eq) = false := hnn
            have ek : kept vb (k + 1) = kept vb k := by rw [kept, if_neg (by rw [hnn]; decide)]
            have HR : Hid (wr.ownsRow V.heap.size 2 1 u18 (kept vb k).length ((kept vb k).map fun x => .int .i64 (start + (x.1 : Int) * step)) ∧ wr.ownsRow V.heap.size 32 1 u19 (kept vb k).length ((kept vb k).map fun x => .float .f64 x.2)) := ⟨hr1, hr2⟩
            clear hr1 hr2 hB O hvb
            go_wp2_with fail
            go_roundw
            case rel => exact ⟨k + 1, by omega, by go_num, HB.out, by rw [ek]; exact HR.out.1, by rw [ek]; exact HR.out.2⟩
            case measure => simp [intOf]; omega
          | true =>
            have hnn' : (FloatKind.f64.format.order (vb k) (vb k) == some Ordering.eq) = true := hnn
            have ek : kept vb (k + 1) = kept vb k ++ [(k, vb k)] := by rw [kept, if_pos hnn]
            clear O hvb
            have hle1 : V.heap.size ≤ wr.heap.size := hB.size
            go_wp2_with (first
              | (at_builtin; refine wpList_append_own _ rfl (.tmp 148) (.tmp 154) 26 rfl V.heap.size 2 i2 (.int .i64 0) 1 8 Try.underlying26 hi2 hz20 hz21 hz22 rfl (by decide) _ _ _ rfl (hr1.alloc _) ⟨wr.heap.size, 0, none⟩ 1 1 [.int .i64 (start + (k : Int) * step)] rfl rfl (by intro t u ht; match t, ht with | 0, ht => simp at ht; subst ht; simp [Addr.add]) (by intro u hu; simp at hu; subst hu; rfl) (by unfold maxLen; omega) (by omega) (by simp; omega) ?_; intro t' w4 own4 grow4 _)
              | (at_builtin; refine wpList_append_own _ rfl (.tmp 156) (.tmp 158) 27 rfl V.heap.size 32 i3 (.float .f64 0) 1 8 Try.underlying27 hi3 hz30 hz31 hz32 rfl (by decide) _ _ _ rfl ((keep_other hr2 hr1 grow4).alloc _) ⟨w4.heap.size, 0, none⟩ 1 1 [.float .f64 (vb k)] rfl rfl (by intro t u ht; match t, ht with | 0, ht => simp at ht; subst ht; simp [Addr.add]) (by intro u hu; simp at hu; subst hu; rfl) (by unfold maxLen; omega) (by omega) (keep_size hle1 grow4) ?_; intro v' w5 own5 grow5 _))
            go_roundw
            case rel =>
              have keep2 := keep_other hr2 hr1 grow4
              have hle4 : V.heap.size ≤ w4.heap.size := by have h4 := grow4.size; simp at h4; omega
              have own4' := keep_other2 own4 keep2 grow5
              have b4 : Below V.heap.size V w4 := (HB.out.alloc hle1 _).grown grow4 (by simp; omega) (own_ge hr1)
              have b5 : Below V.heap.size V w5 := (b4.alloc hle4 _).grown grow5 (by simp; omega) (own_ge keep2)
              refine ⟨k + 1, by omega, by go_num, b5, ?_, ?_⟩
              · rw [ek]; simpa using own4'
              · rw [ek]; simpa using own5
      
      
            case measure => simp [intOf]; omega
        · obtain rfl : n = k := by omega
          obtain ⟨f2, hf2, hu2⟩ := kept_fun vb n
          obtain ⟨a7, c7, rfl, V7⟩ := row_vals hr1 (fun j => .int .i64 (start + ((f2 j).1 : Int) * step)) (fun j hj => by rw [List.getElem?_map, hf2 j hj]; rfl)
          obtain ⟨a8, c8, rfl, V8⟩ := row_vals hr2 (fun j => .float .f64 (f2 j).2) (fun j hj => by rw [List.getElem?_map, hf2 j hj]; rfl)
          have hlay : ∀ i, i < n → layV n (upto f2 (kept vb n).length) i = if notNaN (vb i) = true then .float .f64 (vb i) else nanV := fun i hi => by
            rw [hu2, layV_kept vb n i hi n (Nat.le_refl _)]
            simp [hi]
          have hlt2 : ∀ j, j < (kept vb n).length → (f2 j).1 < n := fun j hj => kept_lt vb n _ (List.mem_of_getElem? (hf2 j hj))
          obtain ⟨L, hL⟩ : ∃ L, L = (kept vb n).length := ⟨_, rfl⟩
          rw [← hL] at V7 V8 hlay hlt2 hkl
          rw [← hL]
          clear hf2 hu2 hr1 hr2 hL hB
          have q25 : ∀ w9, w9 = (wr.alloc (.cells #[.int .i64 start, .int .i64 step, .slice a6 n n] 50)).alloc (.cells #[.int .i64 start, .int .i64 step, .int .i64 (n : Int)] 53) → Out7 w0 w9 bs bo start step n len (some ⟨g2, 0, none⟩) a6 g3 f ∧ Calls Try.prog 25 #[.agg #[.int .i64 start, .int .i64 step, .int .i64 (n : Int)], .slice a7 L c7, .slice a8 L c8] w9 (Post25 start step n (upto f2 L) w9) := by
            rintro w9 rfl
            have hb : Below wr.heap.size wr ((wr.alloc (.cells #[.int .i64 start, .int .i64 step, .slice a6 n n] 50)).alloc (.cells #[.int .i64 start, .int .i64 step, .int .i64 (n : Int)] 53)) := ((Below.refl _ _).alloc (Nat.le_refl _) _).alloc (by simp) _
            exact ⟨HOr.out.below hb, zzfill_any start step n hn h1 h2 a7 a8 c7 c8 L f2 (by omega) _ ((V7.below hb).mono hb.size) ((V8.below hb).mono hb.size) hlt2⟩
          have HQ : Hid (∀ w9, w9 = (wr.alloc (.cells #[.int .i64 start, .int .i64 step, .slice a6 n n] 50)).alloc (.cells #[.int .i64 start, .int .i64 step, .int .i64 (n : Int)] 53) → Out7 w0 w9 bs bo start step n len (some ⟨g2, 0, none⟩) a6 g3 f ∧ Calls Try.prog 25 #[.agg #[.int .i64 start, .int .i64 step, .int .i64 (n : Int)], .slice a7 L c7, .slice a8 L c8] w9 (Post25 start step n (upto f2 L) w9)) := q25
          have HLay : Hid (∀ i, i < n → layV n (upto f2 L) i = if notNaN (vb i) = true then .float .f64 (vb i) else nanV) := hlay
          have HVb : Hid (∀ i, layV n (upto f len) i = .float .f64 (vb i)) := hvb
          obtain ⟨_, _, _, y3, y4, y5⟩ := HOr.out.cells
          clear q25 hlay hlt2 V7 V8 hvb O HB
          go_wp2_with fail
          refine (slotsM_any start step a6 n n _).mono ?_
          rintro e w9 ⟨rfl, hw9⟩
          obtain ⟨o9, q25⟩ := HQ.out w9 hw9
          have HO9 : Hid (Out7 w0 w9 bs bo start step n len (some ⟨g2, 0, none⟩) a6 g3 f) := o9
          clear hw9 HQ o9 HOr y3 y4 y5
          go_wp2_with fail
          refine q25.mono ?_
          clear q25
          rintro e W10 ⟨sv, rfl, hB10, hsv⟩
          obtain ⟨a9, rfl, HV9⟩ : ∃ a9, sv = .slice a9 n n ∧ Hid (ValsAt W10 W10.heap.size a9 n (fun i => if notNaN (vb i) = true then .float .f64 (vb i) else nanV)) := by
            rcases hsv with ⟨h0, rfl⟩ | ⟨_, b, cs, rfl, _, R⟩
            · exact ⟨none, by rw [h0], Or.inl h0⟩
            · refine ⟨some ⟨b, 0, none⟩, rfl, ?_⟩
              rcases R.vals n (Nat.le_refl _) with h | ⟨b', off, hab, hlt, hc⟩
              · exact Or.inl h
              · exact Or.inr ⟨b', off, hab, hlt, fun j hj => by rw [hc j hj, HLay.out j hj]⟩
          have O8 : Out8 w0 (W10.alloc (.cells #[.int .i64 start, .int .i64 step, .slice a9 n n] 50)) bo W10.heap.size start step n a6 a9 vb := by
            have hb := HO9.out.below hB10
            have hb7 : Below W10.heap.size W10 (W10.alloc (.cells #[.int .i64 start, .int .i64 step, .slice a9 n n] 50)) := (Below.refl _ _).alloc (Nat.le_refl _) _
            have hb8 := hb.below hb7
            refine ⟨hb8.bel, hb8.ro, World.alloc_heap_new _ _, ?_, (HV9.out.below hb7).mono hb7.size⟩
            rcases hb8.v6 with h | ⟨b', off, hab, hlt, hc⟩
            · exact Or.inl h
            · exact Or.inr ⟨b', off, hab, hlt, fun j hj => by rw [hc j hj, HVb.out j]⟩
          have HO8 : Hid (Out8 w0 (W10.alloc (.cells #[.int .i64 start, .int .i64 step, .slice a9 n n] 50)) bo W10.heap.size start step n a6 a9 vb) := O8
          clear O8 HV9 hsv hB10 HO9 HLay HVb
          obtain ⟨y0, y1, y2, y3, y4, y5⟩ := HO8.out.cells
          have t1 : (start != start) = false := by simp
          have t2 : (step != step) = false := by simp
          go_wp2_with fail
          obtain ⟨b9, hb9⟩ : ∃ b9, b9 = W10.heap.size := ⟨_, rfl⟩
          obtain ⟨W11, hW11⟩ : ∃ W11, W11 = W10.alloc (.cells #[.int .i64 start, .int .i64 step, .slice a9 n n] 50) := ⟨_, rfl⟩
          rw [← hb9, ← hW11] at HO8
          rw [← hb9, ← hW11]
          clear hb9 hW11 y0 y1 y2 y3 y4 y5
          go_loopw [23] (fun i wr => ∃ (k : Nat), k ≤ n ∧ i = .int .i64 k ∧ Below W11.heap.size W11 wr) (fun i _ => n - (intOf i).toNat)
          case atStart => exact ⟨0, Nat.zero_le _, rfl, Below.refl _ _⟩
          case round =>
            obtain ⟨k, hk, rfl, hB⟩ := hrel
            have HOk : Hid (Out8 w0 wr bo b9 start step n a6 a9 vb) := HO8.out.below hB
            have HBk : Hid (Below W11.heap.size W11 wr) := hB
            clear hB
            obtain ⟨y0, y1, y2, y3, y4, y5⟩ := HOk.out.cells
            by_cases hlt : k < n
            · obtain ⟨b6, o6, ha6, c6⟩ : ∃ b6 o6, a6 = some ⟨b6, o6, none⟩ ∧ wr.cell? ⟨b6, o6 + k, none⟩ = some (.float .f64 (vb k)) := by
                rcases HOk.out.v6 with h | ⟨b, off, hab, _, hc⟩
                · omega
                · exact ⟨b, off, hab, hc k hlt⟩
              obtain ⟨b7, o7, ha7, z, c7, q18⟩ : ∃ b7 o7, a9 = some ⟨b7, o7, none⟩ ∧ ∃ z, wr.cell? ⟨b7, o7 + k, none⟩ = some (.float .f64 z) ∧ ∀ w, Calls Try.prog 18 #[.float .f64 z, .float .f64 (vb k)] w fun e w' => e = .returned (.bool true) ∧ w' = w := by
                rcases HOk.out.v9 with h | ⟨b, off, hab, _, hc⟩
                · omega
                · cases hnn : notNaN (vb k) with
                  | true => exact ⟨b, off, hab, vb k, by rw [hc k hlt]; dsimp only; rw [if_pos hnn], sameFloat_refl _⟩
                  | false =>
                    refine ⟨b, off, hab, 9221120237041090561, by rw [hc k hlt]; dsimp only; rw [hnn]; rfl, fun w => sameFloat_nan _ _ w ?_ ?_⟩
                    · have := nan_not_equal; rw [bne, this]; rfl
                    · have hnn' : (FloatKind.f64.format.order (vb k) (vb k) == some Ordering.eq) = false := hnn
                      rw [bne, hnn']; rfl
              rw [ha6] at y5
              clear ha6
              rw [ha7] at y2
              clear ha7 y0 y1 y3 y4
              go_wp2_with fail
              go_quiet ((go_at_call 18; exact Calls.quiet_of_same (q18 _)))
              go_wp2_with fail
              go_roundw
              case rel => exact ⟨k + 1, by omega, by go_num, HBk.out.trans ⟨rfl, rfl, rfl, Nat.le_refl _, fun _ _ => rfl⟩⟩
              case measure => simp [intOf]; omega
            · clear y0 y1 y2 y3 y4
              go_wp2_with fail
              go_ret
              exact ⟨rfl, HOk.out.bel⟩
    · obtain ⟨m, hm⟩ : ∃ m, len = m + 1 := ⟨len - 1, by omega⟩
      have hm1 : ((len : Nat) : Int) - 1 = (m : Int) := by omega
      have hml : m < len := by omega
      have hpos : (0 : Int) < ((len : Nat) : Int) := by omega
      have hposd : decide ((0 : Int) < ((len : Nat) : Int)) = true := decide_eq_true hpos
      have hfm := HF.out m hml
      have c3 := HO.out.v3.2 m hml
      have c2 : w8.cell? ⟨g2, m, none⟩ = some (.float .f64 (f m).2) := by
        rcases HO.out.v2 with h | ⟨b, off, hab, _, hc⟩
        · omega
        · simp only [Option.some.injEq, Addr.mk.injEq, and_true] at hab
          obtain ⟨h1, h2⟩ := hab
          subst h1 h2
          simpa using hc m hml
      obtain ⟨b6, o6, ha6, c6⟩ : ∃ b6 o6, a6 = some ⟨b6, o6, none⟩ ∧ w8.cell? ⟨b6, o6 + (f m).1, none⟩ = some (.float .f64 (f m).2) := by
        rcases HO.out.v6 with h | ⟨b, off, hab, _, hc⟩
        · omega
        · refine ⟨b, off, hab, ?_⟩
          rw [hc _ hfm, hm, upto_succ, layV_snoc, if_pos (Nat.mod_eq_of_lt hfm)]
      subst ha6
      obtain ⟨s, hs⟩ : ∃ s, s = (f m).1 := ⟨_, rfl⟩
      obtain ⟨y, hy⟩ : ∃ y, y = (f m).2 := ⟨_, rfl⟩
      rw [← hs] at hfm c3 c6
      rw [← hy] at c2 c6
      have HM : Hid (len = m + 1) := hm
      have q18 := sameFloat_refl y
      clear hs hy hm
      go_wp2_with fail
      go_quiet ((go_at_call 18; exact Calls.quiet_of_same (q18 _)))
      go_wp2_with fail
      clear hpos hposd hm1 hml hfm c2 c3 c6 q18 hl0
      generalize decide (0 < len) = d117
      obtain ⟨V, hV⟩ : ∃ V, V = w8.drewN nq := ⟨_, rfl⟩
      rw [← hV]
      have O : Out7 w0 V bs bo start step n len (some ⟨g2, 0, none⟩) (some ⟨b6, o6, none⟩) g3 f := by rw [hV]; exact HO.out.drewN nq
      clear hV j0 j1 j2 j3 j4 j5
      obtain ⟨vb, hvb⟩ := layV_bits n f len
      go_loopw [18, 19, 20] (fun t v i wr => ∃ (k : Nat), k ≤ n ∧ i = .int .i64 k ∧ Below V.heap.size V wr ∧ wr.ownsRow V.heap.size 2 1 t (kept vb k).length ((kept vb k).map fun x => .int .i64 (start + (x.1 : Int) * step)) ∧ wr.ownsRow V.heap.size 32 1 v (kept vb k).length ((kept vb k).map fun x => .float .f64 x.2)) (fun _ _ i _ => n - (intOf i).toNat)
      case atStart => exact ⟨0, Nat.zero_le _, rfl, Below.refl _ _, ⟨rfl, Or.inl ⟨rfl, rfl⟩⟩, ⟨rfl, Or.inl ⟨rfl, rfl⟩⟩⟩
      case round =>
        obtain ⟨k, hk, rfl, hB, hr1, hr2⟩ := hrel
        have hkl := kept_length vb k
        have HOr : Hid (Out7 w0 wr bs bo start step n len (some ⟨g2, 0, none⟩) (some ⟨b6, o6, none⟩) g3 f) := O.below hB
        have HB : Hid (Below V.heap.size V wr) := hB
        by_cases hlt : k < n
        · obtain ⟨_, _, _, _, _, y5⟩ := HOr.out.cells
          have c6 : wr.cell? ⟨b6, o6 + k, none⟩ = some (.float .f64 (vb k)) := by
            rcases HOr.out.v6 with h | ⟨b, off, hab, _, hc⟩
            · omega
            · simp only [Option.some.injEq, Addr.mk.injEq, and_true] at hab
              obtain ⟨rfl, rfl⟩ := hab
              rw [hc k hlt, hvb]
          have hp0 : 0 ≤ (k : Int) * step := Int.mul_nonneg (by omega) (by omega)
          have hp1 : (k : Int) * step ≤ 65536 * 1099511627776 := Int.mul_le_mul (by omega) h2 (by omega) (by omega)
          cases hnn : notNaN (vb k) with
          | false =>
            have hnn' : (FloatKind.f64.format.order (vb k) (vb k) == some Ordering.eq) = false := hnn
            have ek : kept vb (k + 1) = kept vb k := by rw [kept, if_neg (by rw [hnn]; decide)]
            have HR : Hid (wr.ownsRow V.heap.size 2 1 u18 (kept vb k).length ((kept vb k).map fun x => .int .i64 (start + (x.1 : Int) * step)) ∧ wr.ownsRow V.heap.size 32 1 u19 (kept vb k).length ((kept vb k).map fun x => .float .f64 x.2)) := ⟨hr1, hr2⟩
            clear hr1 hr2 hB O hvb
            go_wp2_with fail
            go_roundw
            case rel => exact ⟨k + 1, by omega, by go_num, HB.out, by rw [ek]; exact HR.out.1, by rw [ek]; exact HR.out.2⟩
            case measure => simp [intOf]; omega
          | true =>
            have hnn' : (FloatKind.f64.format.order (vb k) (vb k) == some Ordering.eq) = true := hnn
            have ek : kept vb (k + 1) = kept vb k ++ [(k, vb k)] := by rw [kept, if_pos hnn]
            clear O hvb
            have hle1 : V.heap.size ≤ wr.heap.size := hB.size
            go_wp2_with (first
              | (at_builtin; refine wpList_append_own _ rfl (.tmp 148) (.tmp 154) 26 rfl V.heap.size 2 i2 (.int .i64 0) 1 8 Try.underlying26 hi2 hz20 hz21 hz22 rfl (by decide) _ _ _ rfl (hr1.alloc _) ⟨wr.heap.size, 0, none⟩ 1 1 [.int .i64 (start + (k : Int) * step)] rfl rfl (by intro t u ht; match t, ht with | 0, ht => simp at ht; subst ht; simp [Addr.add]) (by intro u hu; simp at hu; subst hu; rfl) (by unfold maxLen; omega) (by omega) (by simp; omega) ?_; intro t' w4 own4 grow4 _)
              | (at_builtin; refine wpList_append_own _ rfl (.tmp 156) (.tmp 158) 27 rfl V.heap.size 32 i3 (.float .f64 0) 1 8 Try.underlying27 hi3 hz30 hz31 hz32 rfl (by decide) _ _ _ rfl ((keep_other hr2 hr1 grow4).alloc _) ⟨w4.heap.size, 0, none⟩ 1 1 [.float .f64 (vb k)] rfl rfl (by intro t u ht; match t, ht with | 0, ht => simp at ht; subst ht; simp [Addr.add]) (by intro u hu; simp at hu; subst hu; rfl) (by unfold maxLen; omega) (by omega) (keep_size hle1 grow4) ?_; intro v' w5 own5 grow5 _))
            go_roundw
            case rel =>
              have keep2 := keep_other hr2 hr1 grow4
              have hle4 : V.heap.size ≤ w4.heap.size := by have h4 := grow4.size; simp at h4; omega
              have own4' := keep_other2 own4 keep2 grow5
              have b4 : Below V.heap.size V w4 := (HB.out.alloc hle1 _).grown grow4 (by simp; omega) (own_ge hr1)
              have b5 : Below V.heap.size V w5 := (b4.alloc hle4 _).grown grow5 (by simp; omega) (own_ge keep2)
              refine ⟨k + 1, by omega, by go_num, b5, ?_, ?_⟩
              · rw [ek]; simpa using own4'
              · rw [ek]; simpa using own5
      
      
            case measure => simp [intOf]; omega
        · obtain rfl : n = k := by omega
          obtain ⟨f2, hf2, hu2⟩ := kept_fun vb n
          obtain ⟨a7, c7, rfl, V7⟩ := row_vals hr1 (fun j => .int .i64 (start + ((f2 j).1 : Int) * step)) (fun j hj => by rw [List.getElem?_map, hf2 j hj]; rfl)
          obtain ⟨a8, c8, rfl, V8⟩ := row_vals hr2 (fun j => .float .f64 (f2 j).2) (fun j hj => by rw [List.getElem?_map, hf2 j hj]; rfl)
          have hlay : ∀ i, i < n → layV n (upto f2 (kept vb n).length) i = if notNaN (vb i) = true then .float .f64 (vb i) else nanV := fun i hi => by
            rw [hu2, layV_kept vb n i hi n (Nat.le_refl _)]
            simp [hi]
          have hlt2 : ∀ j, j < (kept vb n).length → (f2 j).1 < n := fun j hj => kept_lt vb n _ (List.mem_of_getElem? (hf2 j hj))
          obtain ⟨L, hL⟩ : ∃ L, L = (kept vb n).length := ⟨_, rfl⟩
          rw [← hL] at V7 V8 hlay hlt2 hkl
          rw [← hL]
          clear hf2 hu2 hr1 hr2 hL hB
          have q25 : ∀ w9, w9 = (wr.alloc (.cells #[.int .i64 start, .int .i64 step, .slice (some ⟨b6, o6, none⟩) n n] 50)).alloc (.cells #[.int .i64 start, .int .i64 step, .int .i64 (n : Int)] 53) → Out7 w0 w9 bs bo start step n len (some ⟨g2, 0, none⟩) (some ⟨b6, o6, none⟩) g3 f ∧ Calls Try.prog 25 #[.agg #[.int .i64 start, .int .i64 step, .int .i64 (n : Int)], .slice a7 L c7, .slice a8 L c8] w9 (Post25 start step n (upto f2 L) w9) := by
            rintro w9 rfl
            have hb : Below wr.heap.size wr ((wr.alloc (.cells #[.int .i64 start, .int .i64 step, .slice (some ⟨b6, o6, none⟩) n n] 50)).alloc (.cells #[.int .i64 start, .int .i64 step, .int .i64 (n : Int)] 53)) := ((Below.refl _ _).alloc (Nat.le_refl _) _).alloc (by simp) _
            exact ⟨HOr.out.below hb, zzfill_any start step n hn h1 h2 a7 a8 c7 c8 L f2 (by omega) _ ((V7.below hb).mono hb.size) ((V8.below hb).mono hb.size) hlt2⟩
          have HQ : Hid (∀ w9, w9 = (wr.alloc (.cells #[.int .i64 start, .int .i64 step, .slice (some ⟨b6, o6, none⟩) n n] 50)).alloc (.cells #[.int .i64 start, .int .i64 step, .int .i64 (n : Int)] 53) → Out7 w0 w9 bs bo start step n len (some ⟨g2, 0, none⟩) (some ⟨b6, o6, none⟩) g3 f ∧ Calls Try.prog 25 #[.agg #[.int .i64 start, .int .i64 step, .int .i64 (n : Int)], .slice a7 L c7, .slice a8 L c8] w9 (Post25 start step n (upto f2 L) w9)) := q25
          have HLay : Hid (∀ i, i < n → layV n (upto f2 L) i = if notNaN (vb i) = true then .float .f64 (vb i) else nanV) := hlay
          have HVb : Hid (∀ i, layV n (upto f len) i = .float .f64 (vb i)) := hvb
          obtain ⟨_, _, _, y3, y4, y5⟩ := HOr.out.cells
          clear q25 hlay hlt2 V7 V8 hvb O HB
          go_wp2_with fail
          refine (slotsM_any start step (some ⟨b6, o6, none⟩) n n _).mono ?_
          rintro e w9 ⟨rfl, hw9⟩
          obtain ⟨o9, q25⟩ := HQ.out w9 hw9
          have HO9 : Hid (Out7 w0 w9 bs bo start step n len (some ⟨g2, 0, none⟩) (some ⟨b6, o6, none⟩) g3 f) := o9
          clear hw9 HQ o9 HOr y3 y4 y5
          go_wp2_with fail
          refine q25.mono ?_
          clear q25
          rintro e W10 ⟨sv, rfl, hB10, hsv⟩
          obtain ⟨a9, rfl, HV9⟩ : ∃ a9, sv = .slice a9 n n ∧ Hid (ValsAt W10 W10.heap.size a9 n (fun i => if notNaN (vb i) = true then .float .f64 (vb i) else nanV)) := by
            rcases hsv with ⟨h0, rfl⟩ | ⟨_, b, cs, rfl, _, R⟩
            · exact ⟨none, by rw [h0], Or.inl h0⟩
            · refine ⟨some ⟨b, 0, none⟩, rfl, ?_⟩
              rcases R.vals n (Nat.le_refl _) with h | ⟨b', off, hab, hlt, hc⟩
              · exact Or.inl h
              · exact Or.inr ⟨b', off, hab, hlt, fun j hj => by rw [hc j hj, HLay.out j hj]⟩
          have O8 : Out8 w0 (W10.alloc (.cells #[.int .i64 start, .int .i64 step, .slice a9 n n] 50)) bo W10.heap.size start step n (some ⟨b6, o6, none⟩) a9 vb := by
            have hb := HO9.out.below hB10
            have hb7 : Below W10.heap.size W10 (W10.alloc (.cells #[.int .i64 start, .int .i64 step, .slice a9 n n] 50)) := (Below.refl _ _).alloc (Nat.le_refl _) _
            have hb8 := hb.below hb7
            refine ⟨hb8.bel, hb8.ro, World.alloc_heap_new _ _, ?_, (HV9.out.below hb7).mono hb7.size⟩
            rcases hb8.v6 with h | ⟨b', off, hab, hlt, hc⟩
            · exact Or.inl h
            · exact Or.inr ⟨b', off, hab, hlt, fun j hj => by rw [hc j hj, HVb.out j]⟩
          have HO8 : Hid (Out8 w0 (W10.alloc (.cells #[.int .i64 start, .int .i64 step, .slice a9 n n] 50)) bo W10.heap.size start step n (some ⟨b6, o6, none⟩) a9 vb) := O8
          clear O8 HV9 hsv hB10 HO9 HLay HVb
          obtain ⟨y0, y1, y2, y3, y4, y5⟩ := HO8.out.cells
          have t1 : (start != start) = false := by simp
          have t2 : (step != step) = false := by simp
          go_wp2_with fail
          obtain ⟨b9, hb9⟩ : ∃ b9, b9 = W10.heap.size := ⟨_, rfl⟩
          obtain ⟨W11, hW11⟩ : ∃ W11, W11 = W10.alloc (.cells #[.int .i64 start, .int .i64 step, .slice a9 n n] 50) := ⟨_, rfl⟩
          rw [← hb9, ← hW11] at HO8
          rw [← hb9, ← hW11]
          clear hb9 hW11 y0 y1 y2 y3 y4 y5
          go_loopw [23] (fun i wr => ∃ (k : Nat), k ≤ n ∧ i = .int .i64 k ∧ Below W11.heap.size W11 wr) (fun i _ => n - (intOf i).toNat)
          case atStart => exact ⟨0, Nat.zero_le _, rfl, Below.refl _ _⟩
          case round =>
            obtain ⟨k, hk, rfl, hB⟩ := hrel
            have HOk : Hid (Out8 w0 wr bo b9 start step n (some ⟨b6, o6, none⟩) a9 vb) := HO8.out.below hB
            have HBk : Hid (Below W11.heap.size W11 wr) := hB
            clear hB
            obtain ⟨y0, y1, y2, y3, y4, y5⟩ := HOk.out.cells
            by_cases hlt : k < n
            · have c6 : wr.cell? ⟨b6, o6 + k, none⟩ = some (.float .f64 (vb k)) := by
                rcases HOk.out.v6 with h | ⟨b, off, hab, _, hc⟩
                · omega
                · simp only [Option.some.injEq, Addr.mk.injEq, and_true] at hab
                  obtain ⟨rfl, rfl⟩ := hab
                  exact hc k hlt
              obtain ⟨b7, o7, ha7, z, c7, q18⟩ : ∃ b7 o7, a9 = some ⟨b7, o7, none⟩ ∧ ∃ z, wr.cell? ⟨b7, o7 + k, none⟩ = some (.float .f64 z) ∧ ∀ w, Calls Try.prog 18 #[.float .f64 z, .float .f64 (vb k)] w fun e w' => e = .returned (.bool true) ∧ w' = w := by
                rcases HOk.out.v9 with h | ⟨b, off, hab, _, hc⟩
                · omega
                · cases hnn : notNaN (vb k) with
                  | true => exact ⟨b, off, hab, vb k, by rw [hc k hlt]; dsimp only; rw [if_pos hnn], sameFloat_refl _⟩
                  | false =>
                    refine ⟨b, off, hab, 9221120237041090561, by rw [hc k hlt]; dsimp only; rw [hnn]; rfl, fun w => sameFloat_nan _ _ w ?_ ?_⟩
                    · have := nan_not_equal; rw [bne, this]; rfl
                    · have hnn' : (FloatKind.f64.format.order (vb k) (vb k) == some Ordering.eq) = false := hnn
                      rw [bne, hnn']; rfl
              rw [ha7] at y2
              clear ha7 y0 y1 y3 y4
              go_wp2_with fail
              go_quiet ((go_at_call 18; exact Calls.quiet_of_same (q18 _)))
              go_wp2_with fail
              go_roundw
              case rel => exact ⟨k + 1, by omega, by go_num, HBk.out.trans ⟨rfl, rfl, rfl, Nat.le_refl _, fun _ _ => rfl⟩⟩
              case measure => simp [intOf]; omega
            · clear y0 y1 y2 y3 y4
              go_wp2_with fail
              go_ret
              exact ⟨rfl, HOk.out.bel⟩

end Go.Proofs.Qxb6616513a

