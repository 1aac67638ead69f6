import Derived.Test.Qxb6616513aA
import Derived.Laws.AppendOwn
import Derived.Laws.MakeOwn
import Derived.OwnWalk
namespace Go.Proofs.Qxb6616513a
open Go.RowKit

/-- n cells from place o on hold the bytes z k, z (k + 1), .. -/
def Seg (cs : Array Value) (o n : Nat) (z : Nat → Int) (k : Nat) : Prop := ∀ i, i < n → cs[o + i]? = some (.int .u8 (z (k + i)))

theorem Try.info5 : (Try.prog.info? 5).map (fun i => (i.zero, i.size, i.bytes)) = some (some (.int .u8 0), 1, 1) := by kernel_rfl

/-- The row behind an append that has room. -/
theorem append_run (w : World) (ty : TypeId) (g n cap : Nat) (b p sc : Nat) (row : Array Value) (z : Nat → Int) (k : Nat) (m : Nat)
    (hg : w.heap[g]? = some (.cells row 5 (0, 0))) (hsrc : ∀ j, j < m → w.cell? ⟨b, p + j, none⟩ = some (.int .u8 (z (k + j)))) (hroom : n + m ≤ cap) (hfit : n + m ≤ row.size) :
    ∃ row', (Builtin.append_ #[22, 22] ty #[.slice (some ⟨g, 0, none⟩) n cap, .slice (some ⟨b, p, none⟩) m sc]).run Try.prog w = .ok (.slice (some ⟨g, 0, none⟩) (n + m) cap) (w.setRow g row') ∧
      row'.size = row.size ∧ Seg row' n m z k ∧ ∀ i, i < n → row'[i]? = row[i]? := by
  obtain ⟨i0, hi, hz0, hz1, hz2⟩ := info_parts Try.info5
  have hlen : (((List.range m).map fun j => Value.int .u8 (z (k + j)))).length = m := by simp
  have hrun := run_append_room (P := Try.prog) w 22 ty 5 i0 Try.underlying22 hi g n cap row hg ⟨b, p, none⟩ m sc ((List.range m).map fun j => Value.int .u8 (z (k + j))) (by rw [hlen, hz1, Nat.mul_one])
    (by
      intro j v hj
      rw [List.getElem?_map] at hj
      by_cases hjm : j < m
      · rw [List.getElem?_range hjm] at hj
        simp only [Option.map_some, Option.some.injEq] at hj
        subst hj
        rw [Go.WideShapes.add_plain]
        exact hsrc j hjm
      · rw [List.getElem?_eq_none (by simp; omega)] at hj
        simp at hj)
    (by intro v hv; simp only [List.mem_map] at hv; obtain ⟨j, _, rfl⟩ := hv; rfl) hroom (by rw [hlen, hz1, Nat.mul_one]; exact hfit)
  rw [hz1, Nat.mul_one, hlen] at hrun
  refine ⟨_, hrun, ?_, ?_, ?_⟩
  · simp
    omega
  · intro i hi
    simp only [List.getElem?_toArray, List.append_assoc]
    rw [List.getElem?_append_right (by simp; omega)]
    rw [List.getElem?_append_left (by simp; omega)]
    simp only [List.length_take, Array.length_toList, List.getElem?_map]
    rw [List.getElem?_range (by omega)]
    simp only [Option.map_some]
    rw [show n + i - min n row.size = i by omega]
  · intro i hi
    simp only [List.getElem?_toArray, List.append_assoc]
    rw [List.getElem?_append_left (by simp; omega)]
    simp [hi]

/-- Nothing appended. -/
theorem append_none (w : World) (ty : TypeId) (g n cap : Nat) (a : Option Addr) (sc : Nat) (hn : n ≤ cap) :
    (Builtin.append_ #[22, 22] ty #[.slice (some ⟨g, 0, none⟩) n cap, .slice a 0 sc]).run Try.prog w = .ok (.slice (some ⟨g, 0, none⟩) n cap) w := by
  obtain ⟨i0, hi, _⟩ := info_parts Try.info5
  cases a <;> simp [Builtin.append_, run_underlying Try.underlying22, sizeOf, typeInfo, hi, Builtin.lenOf, Builtin.firstCells, hn, storeCells, loadCells, loadCellsFrom]

def Post3 (w : World) (e : Ending) (w' : World) : Prop := e = .returned (.bool true) ∧ Below w.heap.size w w'

theorem made_row {w1 : World} {B g len : Nat} {xs : List Value} (hown : w1.ownsRow B 5 1 (.slice (some ⟨g, 0, none⟩) len len) len xs) : ∃ cs, w1.heap[g]? = some (.cells cs 5 (0, 0)) ∧ cs.size = len := by
  rcases hown.2 with ⟨h, _⟩ | ⟨g', cap, cur, hv, _, hh, _, _, hcs, _⟩
  · cases h
  · simp only [Value.slice.injEq, Option.some.injEq, Addr.mk.injEq, and_true, true_and] at hv
    obtain ⟨h1, h2⟩ := hv
    subst h1 h2
    exact ⟨cur, hh, by omega⟩

theorem copy_run (w : World) (ty : TypeId) (g o n cap : Nat) (ad : Addr) (sl sc : Nat) (row : Array Value) (z : Nat → Int) (k : Nat) (m : Nat) (hm : m = Nat.min sl n)
    (hg : w.heap[g]? = some (.cells row 5 (0, 0))) (hsrc : ∀ j, j < m → w.cell? (ad.add j) = some (.int .u8 (z (k + j)))) (hfit : o + m ≤ row.size) :
    ∃ row', (Builtin.copy_ #[22, 22] ty #[.slice (some ⟨g, o, none⟩) n cap, .slice (some ad) sl sc]).run Try.prog w = .ok (.int .i64 (m : Int)) (w.setRow g row') ∧
      row'.size = row.size ∧ Seg row' o m z k ∧ ∀ i, i < o → row'[i]? = row[i]? := by
  have hlen : (((List.range m).map fun j => Value.int .u8 (z (k + j)))).length = m := by simp
  have hrun := run_copy_row (P := Try.prog) w 22 22 ty 5 g o n cap ad sl sc row 5 ((List.range m).map fun j => Value.int .u8 (z (k + j))) Try.underlying22 (by kernel_rfl) hg (by rw [hlen]; exact hm)
    (by
      intro j v hj
      rw [List.getElem?_map] at hj
      by_cases hjm : j < m
      · rw [List.getElem?_range hjm] at hj
        simp only [Option.map_some, Option.some.injEq] at hj
        subst hj
        exact hsrc j hjm
      · rw [List.getElem?_eq_none (by simp; omega)] at hj
        simp at hj)
    (by rw [hlen]; exact hfit)
    (by intro v hv; simp only [List.mem_map] at hv; obtain ⟨j, _, rfl⟩ := hv; rfl)
  rw [hlen] at hrun
  refine ⟨_, hrun, ?_, ?_, ?_⟩
  · simp
    omega
  · intro i hi
    simp only [List.getElem?_toArray, List.append_assoc]
    rw [List.getElem?_append_right (by simp; omega)]
    rw [List.getElem?_append_left (by simp; omega)]
    simp only [List.length_take, Array.length_toList, List.getElem?_map]
    rw [List.getElem?_range (by omega)]
    simp only [Option.map_some]
    rw [show o + i - min o row.size = i by omega]
  · intro i hi
    simp only [List.getElem?_toArray, List.append_assoc]
    rw [List.getElem?_append_left (by simp; omega)]
    simp [hi]

set_option maxRecDepth 100000 in
set_option maxHeartbeats 400000 in
theorem f3_guard (a : Option Addr) (len cap : Nat) (m k : Int) (w : World) (hl : len ≤ 9223372036854775807) (h : 1048576 < len ∨ m < 0 ∨ (len : Int) < m) :
    Calls Try.prog 3 #[.slice a len cap, .int .i64 m, .int .u8 k] w (Post3 w) := by
  have q8 := zzBytes_any a len cap m k w hl
  by_cases h1 : 1048576 < len
  · rw [decide_eq_false (by omega)] at q8
    go_enter Try.func3, Try.ntmps3
    go_wp2_with fail
    refine q8.mono ?_
    rintro e w0 ⟨rfl, rfl⟩
    go_wp2_with fail
    go_ret
    exact ⟨rfl, Below.refl _ _⟩
  · rw [decide_eq_true (by omega)] at q8
    by_cases h2 : m < 0
    · go_enter Try.func3, Try.ntmps3
      go_wp2_with fail
      refine q8.mono ?_
      rintro e w0 ⟨rfl, rfl⟩
      go_wp2_with fail
      go_ret
      exact ⟨rfl, Below.refl _ _⟩
    · have h3 : (len : Int) < m := by omega
      go_enter Try.func3, Try.ntmps3
      go_wp2_with fail
      refine q8.mono ?_
      rintro e w0 ⟨rfl, rfl⟩
      go_wp2_with fail
      go_ret
      exact ⟨rfl, Below.refl _ _⟩

theorem below_setRow (w : World) (g : Nat) (cs : Array Value) {B : Nat} (h : B ≤ g) : Below B w (w.setRow g cs) :=
  ⟨rfl, rfl, rfl, by simp [World.setRow], fun k hk => setRow_other _ _ _ _ (by omega)⟩

theorem cells_to {w : World} {b l i : Nat} {k : IntKind} {A : List Int} (hA : A.length = l) (hil : i ≤ l) (hcell : ∀ t, t < l → w.cell? ⟨b, 0 + t, none⟩ = some (.int k (A.getD t 0))) :
    ∀ ad, some (⟨b, 0, none⟩ : Addr) = some ad → ∀ t u, ((A.take i).map (Value.int k))[t]? = some u → w.cell? (ad.add t) = some u := by
  intro ad had t u hu
  have ht : t < i := by
    have := (List.getElem?_eq_some_iff.1 hu).1
    simp at this
    omega
  obtain rfl := Option.some.inj had
  rw [Addr.add_lit, hcell t (by omega)]
  have e : ((A.take i).map (Value.int k))[t]? = some (.int k (A.getD t 0)) := by
    simp [List.getD, ht, show t < A.length by omega]
  rw [e] at hu
  exact hu

/-- A cell of an old block behind the make, the first two appends and the one-element row. -/
theorem four {W w2 w3 w4 : World} {o : Obj} {g0 j : Nat} {v : Value} (hlt : g0 < W.heap.size) (h2 : W.grownBy w2 none) (h3 : w2.grownBy w3 (some W.heap.size)) (h4 : (w3.alloc o).grownBy w4 (some W.heap.size)) (h : W.cell? ⟨g0, j, none⟩ = some v) : w4.cell? ⟨g0, j, none⟩ = some v := by
  have hn : ∀ x, some g0 = some x → x ≠ W.heap.size := by intro x hx; cases hx; omega
  have c2 := h2.cell h (fun e => by cases e)
  have c3 := h3.cell c2 (fun e => by have := Option.some.inj e; simp at this; omega)
  refine h4.cell ?_ (fun e => by have := Option.some.inj e; simp at this; omega)
  rw [World.cell?_of_block (w := w3) (Below.heap_alloc _ _ _ (World.block_lt_of_cell? _ _ c3))]
  exact c3

/-- z with k put in at place i. -/
def put (z : Nat → Int) (k : Int) (i : Nat) : Nat → Int := fun j => if j < i then z j else if j = i then k else z (j - 1)

theorem nz_iff (z : Nat → Int) (n : Nat) : nz z n = true ↔ ∃ j, j < n ∧ z j ≠ 0 := by
  constructor
  · intro h
    induction n with
    | zero => cases h
    | succ n ih =>
      unfold nz at h
      rcases Bool.or_eq_true_iff.1 h with h | h
      · obtain ⟨j, hj, hz⟩ := ih h
        exact ⟨j, by omega, hz⟩
      · exact ⟨n, by omega, by simpa using h⟩
  · rintro ⟨j, hj, hz⟩
    exact nz_of z n j hj hz

theorem nz_put (z : Nat → Int) (k : Int) (i n : Nat) (hi : i ≤ n) : nz (put z k i) (n + 1) = (nz z n || (k != 0)) := by
  rw [Bool.eq_iff_iff, Bool.or_eq_true, nz_iff, nz_iff, bne_iff_ne]
  constructor
  · rintro ⟨j, hj, hz⟩
    unfold put at hz
    by_cases h1 : j < i
    · rw [if_pos h1] at hz
      exact Or.inl ⟨j, by omega, hz⟩
    · rw [if_neg h1] at hz
      by_cases h2 : j = i
      · rw [if_pos h2] at hz
        exact Or.inr hz
      · rw [if_neg h2] at hz
        exact Or.inl ⟨j - 1, by omega, hz⟩
  · rintro (⟨j, hj, hz⟩ | hk)
    · by_cases h1 : j < i
      · exact ⟨j, by omega, by unfold put; rw [if_pos h1]; exact hz⟩
      · exact ⟨j + 1, by omega, by unfold put; rw [if_neg (by omega), if_neg (by omega)]; exact hz⟩
    · exact ⟨i, by omega, by unfold put; rw [if_neg (by omega), if_pos rfl]; exact hk⟩

theorem tail_old {W w2 w3 w4 w5 : World} {o : Obj} {g0 len : Nat} {z : Nat → Int} {A : List Int} (hlt : g0 < W.heap.size) (hAz : ∀ j, j < len → A.getD j 0 = z j) (h2 : W.grownBy w2 none) (h3 : w2.grownBy w3 (some W.heap.size)) (h4 : (w3.alloc o).grownBy w4 (some W.heap.size)) (h5 : w4.grownBy w5 (some W.heap.size))
    (hc : ∀ t, t < len → W.cell? ⟨g0, 0 + t, none⟩ = some (.int .u8 (A.getD t 0))) : SliceAt w5 (some ⟨g0, 0, none⟩) len z :=
  Or.inr ⟨g0, 0, rfl, fun j hj => by rw [← hAz j hj]; exact h5.cell (four hlt h2 h3 h4 (hc j hj)) (fun e => by have := Option.some.inj e; simp at this; omega)⟩

theorem tail_new {w5 : World} {B g i len cap N : Nat} {k : Int} {z : Nat → Int} {A : List Int} (hi : i ≤ len) (hAl : A.length = len) (hAz : ∀ j, j < len → A.getD j 0 = z j) (hN : N = len + 1)
    (h : w5.ownsRow B 5 1 (.slice (some ⟨g, 0, none⟩) N cap) N ((A.take i).map (Value.int .u8) ++ [.int .u8 k] ++ (A.drop i).map (Value.int .u8))) : SliceAt w5 (some ⟨g, 0, none⟩) N (put z k i) := by
  refine Or.inr ⟨g, 0, rfl, fun j hj => ?_⟩
  rw [Nat.zero_add, h.cellAt j (by omega)]
  unfold put
  by_cases h1 : j < i
  · rw [if_pos h1, List.append_assoc, List.getElem?_append_left (by simp; omega), ← hAz j (by omega)]
    simp [List.getD, h1, show j < A.length by omega]
  · rw [if_neg h1]
    by_cases h2 : j = i
    · subst h2
      rw [if_pos rfl, List.append_assoc, List.getElem?_append_right (by simp; omega)]
      simp [hAl, Nat.min_eq_left hi]
    · rw [if_neg h2, List.getElem?_append_right (by simp; omega), ← hAz (j - 1) (by omega)]
      have e : j - ((A.take i).map (Value.int .u8) ++ [Value.int .u8 k]).length = j - i - 1 := by simp [hAl, Nat.min_eq_left hi]; omega
      rw [e]
      simp [List.getD, show i + (j - i - 1) = j - 1 by omega, show j - 1 < A.length by omega]

theorem tail_below {w0 W w2 w3 w4 w5 : World} {o : Obj} {B : Nat} (h : Below B w0 W) (h2 : W.grownBy w2 none) (h3 : w2.grownBy w3 (some W.heap.size)) (h4 : (w3.alloc o).grownBy w4 (some W.heap.size)) (h5 : w4.grownBy w5 (some W.heap.size)) (hB : B ≤ W.heap.size) : Below B w0 w5 := by
  have s2 := h2.size
  have s3 := h3.size
  have s4 := h4.size
  have s3' : (w3.alloc o).heap.size = w3.heap.size + 1 := by simp
  have b2 := h.grown h2 hB (fun k h => by cases h)
  have b3 := b2.grown h3 (by omega) (fun k h => by cases h; exact hB)
  have b4 := (b3.alloc (by omega) o).grown h4 (by omega) (fun k h => by cases h; exact hB)
  exact b4.grown h5 (by omega) (fun k h => by cases h; exact hB)

set_option maxRecDepth 100000 in
set_option maxHeartbeats 400000 in
theorem f3_some (ad : Addr) (len cap i : Nat) (k : Int) (z : Nat → Int) (w : World) (hl : len ≤ 1048576) (hi : i ≤ len) (hc : ∀ j, j < len → w.cell? (ad.add j) = some (.int .u8 (z j))) :
    Calls Try.prog 3 #[.slice (some ad) len cap, .int .i64 (i : Int), .int .u8 k] w (Post3 w) := by
  have q8 := zzBytes_any (some ad) len cap i k w (by omega)
  rw [decide_eq_true hl] at q8
  obtain ⟨i0, hi0, hz0, hz1, hz2⟩ := info_parts Try.info5
  have hnil := fun wx => Lib.run_eql_slice_nil (P := Try.prog) wx 22 5 (some ad) len cap 0 0 Try.underlying22
  go_enter Try.func3, Try.ntmps3
  go_wp2_with fail
  refine q8.mono ?_
  rintro e w0 ⟨rfl, rfl⟩
  go_wp2_with (at_make; refine wpList_make_full _ rfl _ _ 22 rfl w0.heap.size 5 i0 _ 1 Try.underlying22 hi0 hz0 hz1 _ _ _ _ len rfl rfl rfl rfl (by rw [hz2]; omega) (by unfold maxLen; omega) (by simp) ?_; intro w1 hown hgrow)
  obtain ⟨cs, hrow, hsz⟩ := made_row hown
  have hB : Below w0.heap.size w0 w1 := (Below.refl _ _).grown hgrow (Nat.le_refl _) (fun k h => by cases h)
  obtain ⟨row1, hcp, hsz1, hsg1, _⟩ := copy_run w1 3 w0.heap.size 0 len len ad len cap cs z 0 len (by exact (Nat.min_self _).symm) hrow
    (fun j hj => by rw [hB.cell (p := ad.add j) (World.block_lt_of_cell? _ _ (hc j hj)), Nat.zero_add]; exact hc j hj) (by omega)
  rw [hcp]
  have hB2 : Below w0.heap.size w0 (w1.setRow w0.heap.size row1) := hB.trans (below_setRow _ _ _ (Nat.le_refl _))
  have hcW : ∀ t, t < len → (w1.setRow w0.heap.size row1).cell? ⟨w0.heap.size, 0 + t, none⟩ = some (.int .u8 (((List.range len).map z).getD t 0)) := by
    intro t ht
    rw [cell_of_row _ _ _ _ _ _ (setRow_heap _ _ _ _ _ _ hrow), hsg1 t ht]
    simp [List.getD, ht]
  obtain ⟨A, hA⟩ : ∃ A, A = (List.range len).map z := ⟨_, rfl⟩
  have hAl : A.length = len := by rw [hA]; simp
  have hAz : ∀ j, j < len → A.getD j 0 = z j := by intro j hj; rw [hA]; simp [List.getD, hj]
  rw [← hA] at hcW
  obtain ⟨g0, hg0e, hgge⟩ : ∃ g0, g0 = w0.heap.size ∧ w0.heap.size ≤ g0 := ⟨_, rfl, Nat.le_refl _⟩
  rw [← hg0e] at hcW hB2
  rw [← hg0e]
  obtain ⟨W, hW⟩ : ∃ W, W = w1.setRow g0 row1 := ⟨_, rfl⟩
  have hlt : g0 < W.heap.size := by rw [hW, hg0e]; simpa [World.setRow] using (Array.getElem?_eq_some_iff.1 hrow).1
  rw [← hW] at hcW hB2
  rw [← hW]
  have HB : Hid (Below w0.heap.size w0 W) := by rw [hg0e] at hB2; exact hB2
  clear hW hcp hown hgrow hrow hB hnil q8 hsz hsz1 hsg1 hB2 hg0e hA
  obtain ⟨g1, hg1⟩ : ∃ g1, g1 = W.heap.size := ⟨_, rfl⟩
  go_wp2_with (first
    | (at_make; refine wpList_make_own _ rfl _ _ 22 rfl W.heap.size 5 i0 (.int .u8 0) 1 Try.underlying22 hi0 hz0 hz1 _ _ _ (len + 1) rfl rfl (by omega) (by rw [hz2]; omega) (by unfold maxLen; omega) (Nat.le_refl _) ?_; intro w2 hown2 hgrow2)
    | (at_builtin; refine wpList_append_fits_any _ rfl (.tmp 40) (.tmp 43) 22 rfl W.heap.size 5 i0 1 Try.underlying22 hi0 hz1 W.heap.size 0 (len + 1) _ rfl hown2 _ i _ ((A.take i).map (Value.int .u8)) rfl (by simp [hAl]; omega) (by intro h; cases h)
        (cells_to hAl hi (fun t ht => hgrow2.cell (hcW t ht) (fun e => by cases e))) (ints_oneCell _ _) (by omega) ?_; intro w3 hown3 hgrow3; simp only [Nat.zero_add, List.nil_append] at hown3)
    | (at_builtin; refine wpList_append_fits _ rfl (.tmp 45) (.tmp 47) 22 rfl W.heap.size 5 i0 1 Try.underlying22 hi0 hz1 W.heap.size _ (len + 1) _ rfl (hown3.alloc _) ⟨w3.heap.size, 0, none⟩ 1 1 [.int .u8 k] rfl rfl (by intro t u ht; match t, ht with | 0, ht => simp at ht; subst ht; simp [Addr.add]) (by intro u hu; simp at hu; subst hu; rfl) (by omega) ?_; intro w4 hown4 hgrow4)
    | (at_builtin; refine wpList_append_fits_any _ rfl (.tmp 49) (.tmp 52) 22 rfl W.heap.size 5 i0 1 Try.underlying22 hi0 hz1 W.heap.size _ (len + 1) _ rfl hown4 _ (len - i) _ ((A.drop i).map (Value.int .u8)) rfl (by simp [hAl]) (by intro h; first | cases h | (split at h <;> cases h))
        (cells_from hAl (Nat.le_refl _) (fun t ht => four hlt hgrow2 hgrow3 hgrow4 (hcW t ht)) (by intro h; first | rfl | simp [h])) (ints_oneCell _ _) (by omega) ?_; intro w5 hown5 hgrow5)
    | fail)
  · subst h
    have e : len + 1 + (len - len) = len + 1 := by omega
    rw [e] at hown5
    have q1 := zznonzero_any (some ⟨g0, 0, none⟩) len len z w5 (by omega) (tail_old hlt hAz hgrow2 hgrow3 hgrow4 hgrow5 hcW)
    have hnew := tail_new (Nat.le_refl _) hAl hAz rfl hown5
    have hb5 := tail_below HB.out hgrow2 hgrow3 hgrow4 hgrow5 (by omega)
    have q3 := zeros_any (some ⟨g0, 0, none⟩) len len z w5 (by omega) (tail_old hlt hAz hgrow2 hgrow3 hgrow4 hgrow5 hcW)
    have hzl := nz_zeros z len
    have hput := nz_put z k len len (Nat.le_refl _)
    clear hown2 hown3 hown4 hown5 hgrow2 hgrow3 hgrow4 hgrow5 hcW
    obtain ⟨g2, hg2⟩ : ∃ g2, g2 = W.heap.size := ⟨_, rfl⟩
    rw [← hg2] at hnew
    rw [← hg2]
    clear hg2 hg1
    have q2 := zznonzero_any (some ⟨g2, 0, none⟩) (len + 1) (len + 1) (put z k len) w5 (by omega) hnew
    clear hnew
    rw [hput] at q2
    have hy := zeros_le z len
    obtain ⟨y, hye⟩ : ∃ y, y = zeros z len := ⟨_, rfl⟩
    rw [← hye] at hzl q3 hy
    obtain ⟨C, hC⟩ : ∃ C, C = (k != 0) := ⟨_, rfl⟩
    rw [← hC] at q2
    obtain ⟨D, hD⟩ : ∃ D, D = nz z len := ⟨_, rfl⟩
    rw [← hD] at q1 q2 hzl
    clear hye hD hput hc
    have hb5' : Hid (Below w0.heap.size w0 w5) := hb5
    clear hb5 HB
    refine q1.mono ?_
    rintro e w6 ⟨rfl, rfl⟩
    clear q1
    go_wp2_with fail
    refine q2.mono ?_
    rintro e w7 ⟨rfl, rfl⟩
    clear q2
    cases D
    · have h1 : ¬ y < len := by intro h; rw [decide_eq_true h] at hzl; cases hzl
      have h2 : decide (y < len) = false := decide_eq_false h1
      clear hzl
      cases C
      · have hC' : (k != 0) = false := hC.symm
        have hk : k = 0 := by simpa using hC'
        subst hk
        clear hC hC'
        go_wp2_with fail
        refine q3.mono ?_
        rintro e w8 ⟨rfl, rfl⟩
        go_wp2_with fail
        go_ret
        exact ⟨rfl, hb5'.out⟩
      · have hC' : (k != 0) = true := hC.symm
        have hk : ¬ k = 0 := by simpa using hC'
        clear hC
        go_wp2_with fail
        refine q3.mono ?_
        rintro e w8 ⟨rfl, rfl⟩
        go_wp2_with fail
        go_ret
        exact ⟨rfl, hb5'.out⟩
    · have h1 : y < len := by
        rcases Nat.lt_or_ge y len with h | h
        · exact h
        · rw [decide_eq_false (by omega)] at hzl; cases hzl
      have h2 : decide (y < len) = true := decide_eq_true h1
      clear hzl
      go_wp2_with fail
      refine q3.mono ?_
      rintro e w8 ⟨rfl, rfl⟩
      go_wp2_with fail
      go_ret
      exact ⟨rfl, hb5'.out⟩
  · have e : i + 1 + (len - i) = len + 1 := by omega
    rw [e] at hown5
    rw [e]
    have q1 := zznonzero_any (some ⟨g0, 0, none⟩) len len z w5 (by omega) (tail_old hlt hAz hgrow2 hgrow3 hgrow4 hgrow5 hcW)
    have hnew := tail_new hi hAl hAz rfl hown5
    have hb5 := tail_below HB.out hgrow2 hgrow3 hgrow4 hgrow5 (by omega)
    have q3 := zeros_any (some ⟨g0, 0, none⟩) len len z w5 (by omega) (tail_old hlt hAz hgrow2 hgrow3 hgrow4 hgrow5 hcW)
    have hzl := nz_zeros z len
    have hput := nz_put z k i len hi
    clear hown2 hown3 hown4 hown5 hgrow2 hgrow3 hgrow4 hgrow5 hcW
    obtain ⟨g2, hg2⟩ : ∃ g2, g2 = W.heap.size := ⟨_, rfl⟩
    rw [← hg2] at hnew
    rw [← hg2]
    clear hg2 hg1
    have q2 := zznonzero_any (some ⟨g2, 0, none⟩) (len + 1) (len + 1) (put z k i) w5 (by omega) hnew
    clear hnew
    rw [hput] at q2
    have hy := zeros_le z len
    obtain ⟨y, hye⟩ : ∃ y, y = zeros z len := ⟨_, rfl⟩
    rw [← hye] at hzl q3 hy
    obtain ⟨C, hC⟩ : ∃ C, C = (k != 0) := ⟨_, rfl⟩
    rw [← hC] at q2
    obtain ⟨D, hD⟩ : ∃ D, D = nz z len := ⟨_, rfl⟩
    rw [← hD] at q1 q2 hzl
    clear hye hD hput hc
    have hb5' : Hid (Below w0.heap.size w0 w5) := hb5
    clear hb5 HB
    refine q1.mono ?_
    rintro e w6 ⟨rfl, rfl⟩
    clear q1
    go_wp2_with fail
    refine q2.mono ?_
    rintro e w7 ⟨rfl, rfl⟩
    clear q2
    cases D
    · have h1 : ¬ y < len := by intro h; rw [decide_eq_true h] at hzl; cases hzl
      have h2 : decide (y < len) = false := decide_eq_false h1
      clear hzl
      cases C
      · have hC' : (k != 0) = false := hC.symm
        have hk : k = 0 := by simpa using hC'
        subst hk
        clear hC hC'
        go_wp2_with fail
        refine q3.mono ?_
        rintro e w8 ⟨rfl, rfl⟩
        go_wp2_with fail
        go_ret
        exact ⟨rfl, hb5'.out⟩
      · have hC' : (k != 0) = true := hC.symm
        have hk : ¬ k = 0 := by simpa using hC'
        clear hC
        go_wp2_with fail
        refine q3.mono ?_
        rintro e w8 ⟨rfl, rfl⟩
        go_wp2_with fail
        go_ret
        exact ⟨rfl, hb5'.out⟩
    · have h1 : y < len := by
        rcases Nat.lt_or_ge y len with h | h
        · exact h
        · rw [decide_eq_false (by omega)] at hzl; cases hzl
      have h2 : decide (y < len) = true := decide_eq_true h1
      clear hzl
      go_wp2_with fail
      refine q3.mono ?_
      rintro e w8 ⟨rfl, rfl⟩
      go_wp2_with fail
      go_ret
      exact ⟨rfl, hb5'.out⟩

set_option maxRecDepth 100000 in
set_option maxHeartbeats 400000 in
theorem f3_nil (k : Int) (w : World) : Calls Try.prog 3 #[.slice none 0 0, .int .i64 0, .int .u8 k] w (Post3 w) := by
  have q8 := zzBytes_any none 0 0 0 k w (by omega)
  rw [decide_eq_true (by omega)] at q8
  obtain ⟨i0, hi0, hz0, hz1, hz2⟩ := info_parts Try.info5
  have hnil := fun wx => Lib.run_eql_slice_nil (P := Try.prog) wx 22 5 none 0 0 0 0 Try.underlying22
  go_enter Try.func3, Try.ntmps3
  go_wp2_with fail
  refine q8.mono ?_
  rintro e w0 ⟨rfl, rfl⟩
  clear q8
  go_wp2_with (first
    | (at_make; refine wpList_make_own _ rfl _ _ 22 rfl w0.heap.size 5 i0 (.int .u8 0) 1 Try.underlying22 hi0 hz0 hz1 _ _ _ 1 rfl rfl (by omega) (by rw [hz2]; omega) (by unfold maxLen; omega) (Nat.le_refl _) ?_; intro w2 hown2 hgrow2)
    | (at_builtin; refine wpList_append_fits_any _ rfl (.tmp 40) (.tmp 43) 22 rfl w0.heap.size 5 i0 1 Try.underlying22 hi0 hz1 w0.heap.size 0 1 _ rfl hown2 _ 0 0 [] rfl rfl (fun _ => ⟨rfl, rfl⟩) (by intro _ _ _ _ h; simp at h) (by intro _ h; simp at h) (by omega) ?_; intro w3 hown3 hgrow3; simp only [Nat.zero_add, List.append_nil] at hown3)
    | (at_builtin; refine wpList_append_fits _ rfl (.tmp 45) (.tmp 47) 22 rfl w0.heap.size 5 i0 1 Try.underlying22 hi0 hz1 w0.heap.size _ 1 _ rfl (hown3.alloc _) ⟨w3.heap.size, 0, none⟩ 1 1 [.int .u8 k] rfl rfl (by intro t u ht; match t, ht with | 0, ht => simp at ht; subst ht; simp [Addr.add]) (by intro u hu; simp at hu; subst hu; rfl) (by omega) ?_; intro w4 hown4 hgrow4; simp only [Nat.zero_add, List.nil_append] at hown4)
    | (at_builtin; refine wpList_append_fits_any _ rfl (.tmp 49) (.tmp 52) 22 rfl w0.heap.size 5 i0 1 Try.underlying22 hi0 hz1 w0.heap.size _ 1 _ rfl hown4 _ 0 0 [] rfl rfl (fun _ => ⟨rfl, rfl⟩) (by intro _ _ _ _ h; simp at h) (by intro _ h; simp at h) (by omega) ?_; intro w5 hown5 hgrow5; simp only [Nat.add_zero, List.append_nil] at hown5)
    | fail)
  have q1 := zznonzero_any none 0 0 (fun _ => k) w5 (by omega) (Or.inl rfl)
  have q2 := zznonzero_any (some ⟨w0.heap.size, 0, none⟩) 1 1 (fun _ => k) w5 (by omega) (Or.inr ⟨w0.heap.size, 0, rfl, fun j hj => by
    obtain rfl : j = 0 := by omega
    rw [hown5.cellAt 0 (by omega)]; rfl⟩)
  have q3 := zeros_any none 0 0 (fun _ => k) w5 (by omega) (Or.inl rfl)
  have hb5 : Hid (Below w0.heap.size w0 w5) := tail_below (Below.refl _ _) hgrow2 hgrow3 hgrow4 hgrow5 (Nat.le_refl _)
  clear hown2 hown3 hown4 hown5 hgrow2 hgrow3 hgrow4 hgrow5
  obtain ⟨g2, hg2⟩ : ∃ g2, g2 = w0.heap.size := ⟨_, rfl⟩
  rw [← hg2] at q2
  rw [← hg2]
  clear hg2
  have e0 : nz (fun _ => k) 0 = false := rfl
  have e1 : nz (fun _ => k) 1 = (k != 0) := by simp [nz]
  have e3 : zeros (fun _ => k) 0 = 0 := rfl
  rw [e0] at q1
  rw [e1] at q2
  rw [e3] at q3
  clear e0 e1 e3
  refine q1.mono ?_
  rintro e w6 ⟨rfl, rfl⟩
  clear q1
  go_wp2_with fail
  refine q2.mono ?_
  rintro e w7 ⟨rfl, rfl⟩
  clear q2
  by_cases hk : k = 0
  · subst hk
    have hb : ((0 : Int) != 0) = false := rfl
    rw [hb]
    go_wp2_with fail
    refine q3.mono ?_
    rintro e w8 ⟨rfl, rfl⟩
    go_wp2_with fail
    go_ret
    exact ⟨rfl, hb5.out⟩
  · have hb : (k != 0) = true := by simp [hk]
    rw [hb]
    go_wp2_with fail
    refine q3.mono ?_
    rintro e w8 ⟨rfl, rfl⟩
    go_wp2_with fail
    go_ret
    exact ⟨rfl, hb5.out⟩
end Go.Proofs.Qxb6616513a
