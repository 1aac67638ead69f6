import Derived.Test.Qxb6616336aFmtA
namespace Go.Proofs.Qxb6616336aFmt
open Go.RowKit

theorem Tryf.info59 : (Tryf.prog.info? 59).map (fun i => (i.zero, i.size, i.bytes)) = some (some (.agg #[.string ⟨#[]⟩, .slice none 0 0, .nilIface]), 3, 56) := by kernel_rfl
theorem Tryf.info45 : (Tryf.prog.info? 45).map (fun i => (i.zero, i.size, i.bytes)) = some (some (.agg #[.string ⟨#[]⟩, .slice none 0 0]), 2, 40) := by kernel_rfl

structure Inv13 (w wr : World) (s : ByteArray) (sl : Value) (len k : Nat) (r : Nat → ByteArray) : Prop where
  bel : Below w.heap.size w wr
  box : wr.heap[w.heap.size]? = some (.cells #[.string s, sl] 30 (0, 0))
  res : ∃ y0 y1, wr.heap[w.heap.size + 1]? = some (.cells #[y0, y1] 45 (0, 0))
  row : ∃ cs, wr.heap[w.heap.size + 1 + 1]? = some (.cells cs 59 (0, 0)) ∧ cs.size = len * 3 ∧ ∀ j, j < k → cs[j * 3]? = some (.string (r j))

theorem Inv13.start {w w1 : World} {s : ByteArray} {sl y0 y1 : Value} {len : Nat} {r : Nat → ByteArray} {xs : List Value}
    (hown : w1.ownsRow w.heap.size 59 3 (.slice (some ⟨w.heap.size + 1 + 1, 0, none⟩) len len) len xs)
    (hgrow : ((w.alloc (.cells #[.string s, sl] 30)).alloc (.cells #[y0, y1] 45)).grownBy w1 none) : Inv13 w w1 s sl len 0 r where
  bel := (((Below.refl w.heap.size w).alloc (Nat.le_refl _) _).alloc (by simp) _).grown hgrow (by simp; omega) (fun k h => by cases h)
  box := (hgrow.block _ (by simp; omega) (by simp)).trans (heap_alloc2_old w _ _)
  res := ⟨y0, y1, (hgrow.block _ (by simp) (by simp)).trans (heap_alloc2_new w _ _)⟩
  row := by
    rcases hown.2 with ⟨h, _⟩ | ⟨g, cap, cur, hv, _, hh, _, _, hcs, _⟩
    · cases h
    · simp only [Value.slice.injEq, Option.some.injEq, Addr.mk.injEq, and_true, true_and] at hv
      obtain ⟨h1, h2⟩ := hv
      subst h1 h2
      exact ⟨cur, hh, hcs, fun j hj => absurd hj (by omega)⟩

theorem Inv13.facts {w w1 : World} {s : ByteArray} {sl : Value} {len k : Nat} {r : Nat → ByteArray} (I : Inv13 w w1 s sl len k r) :
    w1.cell? ⟨w.heap.size, 0, none⟩ = some (.string s) ∧ w1.cell? ⟨w.heap.size, 1, none⟩ = some sl ∧ (∃ y0, w1.cell? ⟨w.heap.size + 1, 0, none⟩ = some y0) ∧ (∃ y1, w1.cell? ⟨w.heap.size + 1, 1, none⟩ = some y1) ∧
    w1.frozen? ⟨w.heap.size + 1, 0, none⟩ = false ∧ w1.frozen? ⟨w.heap.size + 1, 1, none⟩ = false := by
  obtain ⟨y0, y1, hres⟩ := I.res
  refine ⟨?_, ?_, ⟨y0, ?_⟩, ⟨y1, ?_⟩, frozen_of_row w1 (w.heap.size + 1) 0 _ _ hres, frozen_of_row w1 (w.heap.size + 1) 1 _ _ hres⟩
  · simpa using cell_of_row w1 w.heap.size 0 _ _ _ I.box
  · simpa using cell_of_row w1 w.heap.size 1 _ _ _ I.box
  · simpa using cell_of_row w1 (w.heap.size + 1) 0 _ _ _ hres
  · simpa using cell_of_row w1 (w.heap.size + 1) 1 _ _ _ hres

theorem Inv13.rowFacts {w w1 : World} {s : ByteArray} {sl : Value} {len k : Nat} {r : Nat → ByteArray} (I : Inv13 w w1 s sl len k r) (j : Nat) (hj : j < len * 3) :
    (∃ x, w1.cell? ⟨w.heap.size + 1 + 1, j, none⟩ = some x) ∧ w1.frozen? ⟨w.heap.size + 1 + 1, j, none⟩ = false := by
  obtain ⟨cs, hh, hsz, _⟩ := I.row
  refine ⟨⟨cs[j]'(by omega), ?_⟩, frozen_of_row w1 _ j _ _ hh⟩
  rw [cell_of_row w1 _ j _ _ _ hh]
  exact Array.getElem?_eq_getElem (by omega)

theorem Inv13.step {w w1 : World} {s : ByteArray} {sl : Value} {len k : Nat} {r : Nat → ByteArray} (I : Inv13 w w1 s sl len k r) (hk : k < len) (v1 v2 : Value) :
    Inv13 w (((w1.setCell ⟨w.heap.size + 1 + 1, k * 3, none⟩ (.string (r k))).setCell ⟨w.heap.size + 1 + 1, k * 3 + 1, none⟩ v1).setCell ⟨w.heap.size + 1 + 1, k * 3 + 2, none⟩ v2) s sl len (k + 1) r where
  bel := ((I.bel.setCell (by simp; omega) _).setCell (by simp; omega) _).setCell (by simp; omega) _
  box := by
    rw [heap_setCell_other _ _ _ _ (by simp; omega), heap_setCell_other _ _ _ _ (by simp; omega), heap_setCell_other _ _ _ _ (by simp; omega)]
    exact I.box
  res := by
    obtain ⟨y0, y1, h⟩ := I.res
    exact ⟨y0, y1, by rw [heap_setCell_other _ _ _ _ (by simp), heap_setCell_other _ _ _ _ (by simp), heap_setCell_other _ _ _ _ (by simp)]; exact h⟩
  row := by
    obtain ⟨cs, hh, hsz, hc⟩ := I.row
    have h1 := heap_setCell_same w1 _ (k * 3) cs 59 (.string (r k)) hh
    have h2 := heap_setCell_same _ _ (k * 3 + 1) _ 59 v1 h1
    have h3 := heap_setCell_same _ _ (k * 3 + 2) _ 59 v2 h2
    refine ⟨_, h3, by simpa using hsz, fun j hj => ?_⟩
    rw [Array.getElem?_setIfInBounds, if_neg (by omega), Array.getElem?_setIfInBounds, if_neg (by omega), Array.getElem?_setIfInBounds]
    by_cases e : k = j
    · subst e
      rw [if_pos rfl, if_pos (by omega)]
    · rw [if_neg (by omega)]
      exact hc j (by omega)

theorem Inv13.last {w w1 : World} {s : ByteArray} {sl : Value} {len : Nat} {r : Nat → ByteArray} (I : Inv13 w w1 s sl len len r) (v1 v2 : Value) (w' : World)
    (hw : w' = (w1.setCell ⟨w.heap.size + 1, 0, none⟩ v1).setCell ⟨w.heap.size + 1, 1, none⟩ v2) :
    Below w.heap.size w w' ∧ w.heap.size + 1 + 1 < w'.heap.size ∧ (∃ cs, w'.heap[w.heap.size + 1 + 1]? = some (.cells cs 59 (0, 0))) ∧ ∀ j, j < len → w'.cell? ⟨w.heap.size + 1 + 1, j * 3, none⟩ = some (.string (r j)) := by
  subst hw
  obtain ⟨cs, hh, hsz, hc⟩ := I.row
  have h1 : ((w1.setCell ⟨w.heap.size + 1, 0, none⟩ v1).setCell ⟨w.heap.size + 1, 1, none⟩ v2).heap[w.heap.size + 1 + 1]? = some (.cells cs 59 (0, 0)) := by
    rw [heap_setCell_other _ _ _ _ (by simp), heap_setCell_other _ _ _ _ (by simp)]
    exact hh
  refine ⟨(I.bel.setCell (by simp) _).setCell (by simp) _, (Array.getElem?_eq_some_iff.1 h1).1, ⟨cs, h1⟩, fun j hj => ?_⟩
  rw [cell_of_row _ _ _ _ _ _ h1]
  exact hc j hj

/-- What 'toModelType' leaves. -/
def Post13 (s : ByteArray) (len : Nat) (r : Nat → ByteArray) (w : World) (e : Ending) (w' : World) : Prop :=
  ∃ br, e = .returned (.agg #[.string s, .slice (some ⟨br, 0, none⟩) len len]) ∧ w.heap.size ≤ br ∧ br < w'.heap.size ∧ Below w.heap.size w w' ∧ (∃ cs, w'.heap[br]? = some (.cells cs 59 (0, 0))) ∧ ∀ j, j < len → w'.cell? ⟨br, j * 3, none⟩ = some (.string (r j))

theorem Inv13.post {w w1 : World} {s : ByteArray} {sl : Value} {len : Nat} {r : Nat → ByteArray} (I : Inv13 w w1 s sl len len r) (v1 v2 : Value) :
    Post13 s len r w (.returned (.agg #[.string s, .slice (some ⟨w.heap.size + 1 + 1, 0, none⟩) len len])) ((w1.setCell ⟨w.heap.size + 1, 0, none⟩ v1).setCell ⟨w.heap.size + 1, 1, none⟩ v2) := by
  obtain ⟨h1, h2, h3, h4⟩ := I.last v1 v2 _ rfl
  exact ⟨_, rfl, by omega, h2, h1, h3, h4⟩

set_option maxRecDepth 100000 in
set_option maxHeartbeats 400000 in
theorem toModel_any (s : ByteArray) (a : Option Addr) (len cap : Nat) (r : Nat → ByteArray) (w : World) (hl : len ≤ 1048576) (hc : StrsAt w a len r) :
    Calls Tryf.prog 13 #[.agg #[.string s, .slice a len cap]] w (Post13 s len r w) := by
  obtain ⟨i0, hi, hz0, hz1, hz2⟩ := info_parts Tryf.info59
  rcases hc with rfl | ⟨b, off, rfl, hbl, hcell⟩
  · go_enter Tryf.func13, Tryf.ntmps13
    go_wp2_with (at_make; refine wpList_make_full _ rfl _ _ 43 rfl w.heap.size 59 i0 _ 3 Tryf.underlying43 hi hz0 hz1 _ _ _ _ 0 rfl rfl rfl rfl (by omega) (by unfold maxLen; omega) (by simp; omega) ?_; intro w1 hown hgrow)
    have I := Inv13.start (r := r) (sl := .slice a 0 cap) (s := s) (by simpa using hown) (by simpa using hgrow)
    clear hown hgrow
    obtain ⟨c0, c1, ⟨y0, d0⟩, ⟨y1, d1⟩, f0, f1⟩ := I.facts
    refine wp_loop_rounds 1 ?_
    rw [rounds_succ]
    go_wp2_with fail
    exact bodyPost_ret (v := .agg #[.string s, .slice (some ⟨w.heap.size + 1 + 1, 0, none⟩) 0 0]) (by simp [results, Tryf.results13, go_sem, d0, d1]) rfl (I.post _ _)
  · go_enter Tryf.func13, Tryf.ntmps13
    go_wp2_with (at_make; refine wpList_make_full _ rfl _ _ 43 rfl w.heap.size 59 i0 _ 3 Tryf.underlying43 hi hz0 hz1 _ _ _ _ len rfl rfl rfl rfl (by rw [hz2]; omega) (by unfold maxLen; omega) (by simp; omega) ?_; intro w1 hown hgrow)
    have I := Inv13.start (r := r) (sl := .slice (some ⟨b, off, none⟩) len cap) (s := s) (by simpa using hown) (by simpa using hgrow)
    clear hown hgrow
    go_loopw [4] (fun i wr => ∃ k : Nat, k ≤ len ∧ i = .int .i64 k ∧ Inv13 w wr s (.slice (some ⟨b, off, none⟩) len cap) len k r) (fun i _ => len - (intOf i).toNat)
    case atStart => exact ⟨0, Nat.zero_le _, rfl, I⟩
    case round =>
      obtain ⟨k, hk, rfl, J⟩ := hrel
      clear I
      obtain ⟨c0, c1, ⟨y0, d0⟩, ⟨y1, d1⟩, f0, f1⟩ := J.facts
      by_cases hlt : k < len
      · have hck := (J.bel.cell (p := ⟨b, off + k, none⟩) hbl).trans (hcell k hlt)
        obtain ⟨⟨x0, e0⟩, z0⟩ := J.rowFacts (k * 3) (by omega)
        obtain ⟨⟨x1, e1⟩, z1⟩ := J.rowFacts (k * 3 + 1) (by omega)
        obtain ⟨⟨x2, e2⟩, z2⟩ := J.rowFacts (k * 3 + 2) (by omega)
        clear hcell
        go_wp2_with fail
        go_roundw
        case rel => exact ⟨k + 1, by omega, by go_num, J.step hlt _ _⟩
        case measure => simp [intOf]; omega
      · obtain rfl : k = len := by omega
        clear hcell
        go_wp2_with fail
        exact bodyPost_ret (v := .agg #[.string s, .slice (some ⟨w.heap.size + 1 + 1, 0, none⟩) k k]) (by simp [results, Tryf.results13, go_sem, d0, d1]) rfl (J.post _ _)
end Go.Proofs.Qxb6616336aFmt
