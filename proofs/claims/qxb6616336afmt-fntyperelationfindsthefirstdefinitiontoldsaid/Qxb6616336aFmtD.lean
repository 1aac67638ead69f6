import Derived.Test.Qxb6616336aFmtC
namespace Go.Proofs.Qxb6616336aFmt
open Go.RowKit

/-- A model in memory. -/
structure ModelAt (w : World) (bm bt : Nat) (br : Nat → Nat) (len : Nat) (nm : Nat → ByteArray) (rl : Nat → Nat) (rn : Nat → Nat → ByteArray) : Prop where
  bmlt : bm < w.heap.size
  btlt : bt < w.heap.size
  brlt : ∀ i, i < len → br i < w.heap.size
  top : w.cell? ⟨bm, 0, none⟩ = some (.slice (some ⟨bt, 0, none⟩) len len)
  name : ∀ i, i < len → w.cell? ⟨bt, i * 2, none⟩ = some (.string (nm i))
  rels : ∀ i, i < len → w.cell? ⟨bt, i * 2 + 1, none⟩ = some (.slice (some ⟨br i, 0, none⟩) (rl i) (rl i))
  rel : ∀ i, i < len → ∀ j, j < rl i → w.cell? ⟨br i, j * 3, none⟩ = some (.string (rn i j))
  mono : ∀ i i', i < i' → i' < len → br i < br i'
  brow : ∀ i, i < len → ∃ cs, w.heap[br i]? = some (.cells cs 59 (0, 0))

theorem ModelAt.below {w w' : World} {bm bt : Nat} {br : Nat → Nat} {len : Nat} {nm : Nat → ByteArray} {rl : Nat → Nat} {rn : Nat → Nat → ByteArray}
    (h : ModelAt w bm bt br len nm rl rn) (hb : Below w.heap.size w w') : ModelAt w' bm bt br len nm rl rn where
  bmlt := Nat.lt_of_lt_of_le h.bmlt hb.size
  btlt := Nat.lt_of_lt_of_le h.btlt hb.size
  brlt := fun i hi => Nat.lt_of_lt_of_le (h.brlt i hi) hb.size
  top := (hb.cell (p := ⟨bm, 0, none⟩) h.bmlt).trans h.top
  name := fun i hi => (hb.cell (p := ⟨bt, i * 2, none⟩) h.btlt).trans (h.name i hi)
  rels := fun i hi => (hb.cell (p := ⟨bt, i * 2 + 1, none⟩) h.btlt).trans (h.rels i hi)
  rel := fun i hi j hj => (hb.cell (p := ⟨br i, j * 3, none⟩) (h.brlt i hi)).trans (h.rel i hi j hj)
  mono := h.mono
  brow := fun i hi => by
    obtain ⟨cs, hcs⟩ := h.brow i hi
    exact ⟨cs, (hb.block _ (h.brlt i hi)).trans hcs⟩

/-- The types' row while it is filled. -/
structure Inv7 (w wr : World) (g : Nat) (br : Nat → Nat) (len k : Nat) (nm : Nat → ByteArray) (rl : Nat → Nat) (rn : Nat → Nat → ByteArray) (cs : Array Value) : Prop where
  bel : Below w.heap.size w wr
  gge : w.heap.size ≤ g
  row : wr.heap[g]? = some (.cells cs 45 (0, 0))
  size : cs.size = len * 2
  name : ∀ i, i < k → cs[i * 2]? = some (.string (nm i))
  rels : ∀ i, i < k → cs[i * 2 + 1]? = some (.slice (some ⟨br i, 0, none⟩) (rl i) (rl i))
  rel : ∀ i, i < k → ∀ j, j < rl i → wr.cell? ⟨br i, j * 3, none⟩ = some (.string (rn i j))
  brlt : ∀ i, i < k → g < br i ∧ br i < wr.heap.size
  mono : ∀ i i', i < i' → i' < k → br i < br i'
  brow : ∀ i, i < k → ∃ cs, wr.heap[br i]? = some (.cells cs 59 (0, 0))

theorem Inv7.start {w w1 : World} {o : Obj} {len : Nat} {nm : Nat → ByteArray} {rl : Nat → Nat} {rn : Nat → Nat → ByteArray} {xs : List Value}
    (hown : w1.ownsRow w.heap.size 45 2 (.slice (some ⟨w.heap.size + 1, 0, none⟩) len len) len xs)
    (hgrow : (w.alloc o).grownBy w1 none) : ∃ br cs, Inv7 w w1 (w.heap.size + 1) br len 0 nm rl rn cs := by
  rcases hown.2 with ⟨h, _⟩ | ⟨g, cap, cur, hv, _, hh, _, _, hcs, _⟩
  · cases h
  · simp only [Value.slice.injEq, Option.some.injEq, Addr.mk.injEq, and_true, true_and] at hv
    obtain ⟨h1, h2⟩ := hv
    subst h1 h2
    exact ⟨fun _ => 0, cur, ((Below.refl w.heap.size w).alloc (Nat.le_refl _) _).grown hgrow (by simp) (fun k h => by cases h), by omega, hh, hcs,
      fun i hi => absurd hi (by omega), fun i hi => absurd hi (by omega), fun i hi => absurd hi (by omega), fun i hi => absurd hi (by omega), fun i i' _ hi => absurd hi (by omega), fun i hi => absurd hi (by omega)⟩

theorem Inv7.step {w wr w2 : World} {g br0 : Nat} {br : Nat → Nat} {len k : Nat} {nm : Nat → ByteArray} {rl : Nat → Nat} {rn : Nat → Nat → ByteArray} {cs : Array Value}
    (I : Inv7 w wr g br len k nm rl rn cs) (hk : k < len) (hb : Below wr.heap.size wr w2) (hge : wr.heap.size ≤ br0) (hlt : br0 < w2.heap.size) (hrow : ∃ cs, w2.heap[br0]? = some (.cells cs 59 (0, 0))) (hc : ∀ j, j < rl k → w2.cell? ⟨br0, j * 3, none⟩ = some (.string (rn k j))) :
    ∃ br' cs', Inv7 w ((w2.setCell ⟨g, k * 2, none⟩ (.string (nm k))).setCell ⟨g, k * 2 + 1, none⟩ (.slice (some ⟨br0, 0, none⟩) (rl k) (rl k))) g br' len (k + 1) nm rl rn cs' := by
  have hg : g < wr.heap.size := (Array.getElem?_eq_some_iff.1 I.row).1
  have hg2 : w2.heap[g]? = some (.cells cs 45 (0, 0)) := (hb.block g hg).trans I.row
  have h1 := heap_setCell_same w2 g (k * 2) cs 45 (.string (nm k)) hg2
  have h2 := heap_setCell_same _ g (k * 2 + 1) _ 45 (.slice (some ⟨br0, 0, none⟩) (rl k) (rl k)) h1
  have other : ∀ b o, b ≠ g → ((w2.setCell ⟨g, k * 2, none⟩ (.string (nm k))).setCell ⟨g, k * 2 + 1, none⟩ (.slice (some ⟨br0, 0, none⟩) (rl k) (rl k))).cell? ⟨b, o, none⟩ = w2.cell? ⟨b, o, none⟩ := by
    intro b o hne
    refine World.cell?_of_block ?_
    rw [heap_setCell_other _ _ _ _ (by simpa using hne), heap_setCell_other _ _ _ _ (by simpa using hne)]
  refine ⟨fun i => if i = k then br0 else br i, _, ⟨((I.bel.trans (hb.mono I.bel.size)).setCell I.gge _).setCell I.gge _, I.gge, h2, ?_, ?_, ?_, ?_, ?_, ?_, ?_⟩⟩
  · simpa using I.size
  · intro i hi
    rw [Array.getElem?_setIfInBounds, if_neg (by omega), Array.getElem?_setIfInBounds]
    by_cases e : i = k
    · subst e
      rw [if_pos rfl, if_pos (by have := I.size; omega)]
    · rw [if_neg (by omega)]
      exact I.name i (by omega)
  · intro i hi
    rw [Array.getElem?_setIfInBounds]
    by_cases e : i = k
    · subst e
      rw [if_pos rfl, if_pos (by have := I.size; simp; omega)]
      simp
    · rw [if_neg (by omega), Array.getElem?_setIfInBounds, if_neg (by omega), if_neg e]
      exact I.rels i (by omega)
  · intro i hi j hj
    by_cases e : i = k
    · subst e
      simp only [if_true]
      rw [other _ _ (by omega)]
      exact hc j hj
    · simp only [if_neg e]
      have hbi := I.brlt i (by omega)
      rw [other _ _ (by omega)]
      exact (hb.cell (p := ⟨br i, j * 3, none⟩) hbi.2).trans (I.rel i (by omega) j hj)
  · intro i hi
    have hs : ((w2.setCell ⟨g, k * 2, none⟩ (.string (nm k))).setCell ⟨g, k * 2 + 1, none⟩ (.slice (some ⟨br0, 0, none⟩) (rl k) (rl k))).heap.size = w2.heap.size := by simp [World.setCell]
    rw [hs]
    by_cases e : i = k
    · simp only [if_pos e]; omega
    · simp only [if_neg e]
      have hbi := I.brlt i (by omega)
      have := hb.size
      omega
  · intro i i' hii hi'
    by_cases e : i' = k
    · simp only [if_pos e, if_neg (show ¬ i = k by omega)]
      have hbi := I.brlt i (by omega)
      omega
    · simp only [if_neg e, if_neg (show ¬ i = k by omega)]
      exact I.mono i i' hii (by omega)
  · intro i hi
    by_cases e : i = k
    · simp only [if_pos e]
      rw [heap_setCell_other _ _ _ _ (by simp; omega), heap_setCell_other _ _ _ _ (by simp; omega)]
      exact hrow
    · simp only [if_neg e]
      have hbi := I.brlt i (by omega)
      rw [heap_setCell_other _ _ _ _ (by simp; omega), heap_setCell_other _ _ _ _ (by simp; omega), hb.block _ hbi.2]
      exact I.brow i (by omega)

theorem Inv7.rowFacts {w w1 : World} {g : Nat} {br : Nat → Nat} {len k : Nat} {nm : Nat → ByteArray} {rl : Nat → Nat} {rn : Nat → Nat → ByteArray} {cs : Array Value}
    (I : Inv7 w w1 g br len k nm rl rn cs) {w2 : World} (hb : Below w1.heap.size w1 w2) (j : Nat) (hj : j < len * 2) :
    (∃ x, w2.cell? ⟨g, j, none⟩ = some x) ∧ w2.frozen? ⟨g, j, none⟩ = false := by
  have hg : g < w1.heap.size := (Array.getElem?_eq_some_iff.1 I.row).1
  have hh : w2.heap[g]? = some (.cells cs 45 (0, 0)) := (hb.block g hg).trans I.row
  refine ⟨⟨cs[j]'(by have := I.size; omega), ?_⟩, frozen_of_row w2 _ j _ _ hh⟩
  rw [cell_of_row w2 _ j _ _ _ hh]
  exact Array.getElem?_eq_getElem (by have := I.size; omega)

/-- What 'buildModel' leaves. -/
def Post7 (len : Nat) (nm : Nat → ByteArray) (rl : Nat → Nat) (rn : Nat → Nat → ByteArray) (w : World) (e : Ending) (w' : World) : Prop :=
  ∃ bm bt br, e = .returned (.pointer (some ⟨bm, 0, none⟩)) ∧ Below w.heap.size w w' ∧ ModelAt w' bm bt br len nm rl rn

theorem Inv7.post {w w1 : World} {g : Nat} {br : Nat → Nat} {len : Nat} {nm : Nat → ByteArray} {rl : Nat → Nat} {rn : Nat → Nat → ByteArray} {cs : Array Value}
    (I : Inv7 w w1 g br len len nm rl rn cs) :
    Post7 len nm rl rn w (.returned (.pointer (some ⟨w1.heap.size, 0, none⟩))) (w1.alloc (.cells #[.slice (some ⟨g, 0, none⟩) len len] 48)) := by
  have hg : g < w1.heap.size := (Array.getElem?_eq_some_iff.1 I.row).1
  have hb : Below w1.heap.size w1 (w1.alloc (.cells #[.slice (some ⟨g, 0, none⟩) len len] 48)) := (Below.refl _ _).alloc (Nat.le_refl _) _
  have hh := (hb.block g hg).trans I.row
  refine ⟨w1.heap.size, g, br, rfl, I.bel.trans (hb.mono I.bel.size), ⟨by simp, by simp; omega, fun i hi => by have := I.brlt i hi; simp; omega, ?_, ?_, ?_, ?_, I.mono, ?_⟩⟩
  · simp
  · intro i hi
    rw [cell_of_row _ _ _ _ _ _ hh]; exact I.name i hi
  · intro i hi
    rw [cell_of_row _ _ _ _ _ _ hh]; exact I.rels i hi
  · intro i hi j hj
    exact (hb.cell (p := ⟨br i, j * 3, none⟩) (I.brlt i hi).2).trans (I.rel i hi j hj)
  · intro i hi
    rw [hb.block _ (I.brlt i hi).2]
    exact I.brow i hi

set_option maxRecDepth 100000 in
set_option maxHeartbeats 400000 in
theorem build_any (a : Option Addr) (len cap : Nat) (nm : Nat → ByteArray) (ra : Nat → Option Addr) (rl rc : Nat → Nat) (rn : Nat → Nat → ByteArray) (w : World)
    (hl : len ≤ 1048576) (hrl : ∀ i, i < len → rl i ≤ 1048576) (hc : TypesAt w a len nm ra rl rc rn) :
    Calls Tryf.prog 7 #[.slice a len cap, .bool false, .agg #[.string ⟨#[]⟩, .slice none 0 0]] w (Post7 len nm rl rn w) := by
  obtain ⟨i0, hi, hz0, hz1, hz2⟩ := info_parts Tryf.info45
  rcases hc with rfl | ⟨b, off, rfl, hbs, hcell⟩
  · go_enter Tryf.func7, Tryf.ntmps7
    go_wp2_with (at_make; refine wpList_make_full _ rfl _ _ 42 rfl w.heap.size 45 i0 _ 2 Tryf.underlying42 hi hz0 hz1 _ _ _ _ 0 rfl rfl rfl rfl (by omega) (by unfold maxLen; omega) (by simp) ?_; intro w1 hown hgrow)
    obtain ⟨br, cs, I⟩ := Inv7.start (nm := nm) (rl := rl) (rn := rn) (by simpa using hown) (by simpa using hgrow)
    clear hown hgrow
    refine wp_loop_rounds 1 ?_
    rw [rounds_succ]
    go_wp2_with fail
    go_ret
    exact I.post
  · go_enter Tryf.func7, Tryf.ntmps7
    go_wp2_with (at_make; refine wpList_make_full _ rfl _ _ 42 rfl w.heap.size 45 i0 _ 2 Tryf.underlying42 hi hz0 hz1 _ _ _ _ len rfl rfl rfl rfl (by rw [hz2]; omega) (by unfold maxLen; omega) (by simp) ?_; intro w1 hown hgrow)
    obtain ⟨br, cs, I⟩ := Inv7.start (nm := nm) (rl := rl) (rn := rn) (by simpa using hown) (by simpa using hgrow)
    clear hown hgrow
    go_loopw [9] (fun i wr => ∃ (k : Nat) (br : Nat → Nat) (cs : Array Value), k ≤ len ∧ i = .int .i64 k ∧ Inv7 w wr (w.heap.size + 1) br len k nm rl rn cs) (fun i _ => len - (intOf i).toNat)
    case atStart => exact ⟨0, br, cs, Nat.zero_le _, rfl, I⟩
    case round =>
      clear I
      obtain ⟨k, br, cs, hk, rfl, J⟩ := hrel
      by_cases hlt : k < len
      · obtain ⟨h1, h2, h3⟩ := hcell k hlt
        have h1' := (J.bel.cell (p := ⟨b, off + k * 2, none⟩) hbs).trans h1
        have h2' := (J.bel.cell (p := ⟨b, off + k * 2 + 1, none⟩) hbs).trans h2
        have h3' := h3.below J.bel
        have g2 := hrl k hlt
        clear h1 h2 h3 hcell hrl
        go_wp2_with (go_at_call 13; refine (toModel_any _ _ _ _ (rn k) _ g2 h3').mono ?_; rintro e w2 ⟨b0, rfl, hge, hb0, hb, hrw, hcc⟩; obtain ⟨⟨x0, e0⟩, z0⟩ := J.rowFacts hb (k * 2) (by omega); obtain ⟨⟨x1, e1⟩, z1⟩ := J.rowFacts hb (k * 2 + 1) (by omega))
        go_roundw
        case rel =>
          obtain ⟨br', cs', J'⟩ := J.step hlt hb hge hb0 hrw hcc
          exact ⟨k + 1, br', cs', by omega, by go_num, J'⟩
        case measure => simp [intOf]; omega
      · obtain rfl : k = len := by omega
        clear hcell hrl
        go_wp2_with fail
        go_ret
        exact J.post
end Go.Proofs.Qxb6616336aFmt
