import Derived.Test.Qxb6616513aT20
namespace Go.Proofs.Qxb6616513a
open Go.RowKit

theorem Try.inf3 : (Try.prog.info? 3).map (fun i => (i.zero, i.size, i.bytes)) = some (some (.int .i64 0), 1, 8) := by kernel_rfl

/-- The ints of an argument. -/
def IntsAt (w : World) (a : Option Addr) (n : Nat) (z : Nat → Int) : Prop := n = 0 ∨ ∃ d : Addr, a = some d ∧ ∀ j, j < n → w.cell? (d.add j) = some (.int .i64 (z j))

theorem IntsAt.below {w w' : World} {a : Option Addr} {n : Nat} {z : Nat → Int} (h : IntsAt w a n z) (hb : Below w.heap.size w w') : IntsAt w' a n z := by
  rcases h with h | ⟨d, rfl, hc⟩
  · exact Or.inl h
  · exact Or.inr ⟨d, rfl, fun j hj => (hb.cell (p := d.add j) (World.block_lt_of_cell? _ _ (hc j hj))).trans (hc j hj)⟩

/-- A row of places. -/
def IR (W : World) (B g n : Nat) (l : List Nat) : Prop := W.ownsRow B 3 1 (.slice (some ⟨g, 0, none⟩) n n) n (l.map fun i => .int .i64 (i : Nat))

theorem IR.len {W : World} {B g n : Nat} {l : List Nat} (h : IR W B g n l) : l.length = n := by have := h.1; simpa using this
theorem IR.cell {W : World} {B g n : Nat} {l : List Nat} (h : IR W B g n l) {j x : Nat} (hx : l[j]? = some x) : W.cell? ⟨g, j, none⟩ = some (.int .i64 (x : Nat)) := by
  have hl := (List.getElem?_eq_some_iff.1 hx).1
  have := World.ownsRow.cellAt h j (by rw [← h.len]; omega)
  rw [this, List.getElem?_map, hx]; rfl
theorem IR.frozen {W : World} {B g n : Nat} {l : List Nat} (h : IR W B g n l) (j : Nat) : W.frozen? ⟨g, j, none⟩ = false := World.ownsRow.frozenAt h j
theorem IR.set {W : World} {B g n : Nat} {l : List Nat} (h : IR W B g n l) (j x : Nat) : IR (W.setCell ⟨g, j, none⟩ (.int .i64 (x : Nat))) B g n (l.set j x) := by
  have := (World.ownsRow.stored h j (.int .i64 (x : Nat))).1
  unfold IR
  rw [List.map_set]
  exact this
theorem IR.other {W : World} {B g g' n : Nat} {l : List Nat} (h : IR W B g n l) (hne : g ≠ g') (j : Nat) (u : Value) : IR (W.setCell ⟨g', j, none⟩ u) B g n l :=
  ownsRow_same h fun b hb => Below.heap_setCell W _ _ b (fun e => hne ((Option.some.inj hb).trans e))
theorem IR.same {W W' : World} {B g n : Nat} {l : List Nat} (h : IR W B g n l) (s : W'.heap = W.heap) : IR W' B g n l := ownsRow_same h fun b _ => by rw [s]
theorem IR.ge {W : World} {B g n : Nat} {l : List Nat} (h : IR W B g n l) : B ≤ g := (World.ownsRow.lt h g rfl).1

/-- Each piece of W places is in order. -/
def BlockSorted (z : Nat → Int) (n W : Nat) (l : List Nat) : Prop := ∀ m, m * W < n → Good z l (m * W) (min ((m + 1) * W) n)

def SortPost (w : World) (n : Nat) (z : Nat → Int) (e : Ending) (w' : World) : Prop :=
  ∃ g l, e = .returned (.slice (some ⟨g, 0, none⟩) n n) ∧ IR w' w.heap.size g n l ∧ l.Perm (List.range n) ∧ l.Pairwise (Lex z) ∧ Below w.heap.size w w'

theorem good_one {z : Nat → Int} {l : List Nat} {n : Nat} (h : ∀ j, j < n → l[j]? = some j) : BlockSorted z n 1 l := by
  intro m hm
  rw [Nat.mul_one] at hm
  have e1 : m * 1 = m := by omega
  have e2 : min ((m + 1) * 1) n = m + 1 := by omega
  rw [e1, e2]
  unfold Good
  rw [seg_cons (h m hm) (by omega), seg_nil (Nat.le_refl _)]
  refine ⟨?_, by simp⟩
  rw [show m + 1 - m = 1 by omega]
  simp

theorem seg_mem {l : List Nat} {lo hi j x : Nat} (hx : l[j]? = some x) (h1 : lo ≤ j) (h2 : j < hi) : x ∈ seg l lo hi := by
  unfold seg
  refine List.mem_of_getElem? (i := j - lo) ?_
  rw [List.getElem?_drop, List.getElem?_take, show lo + (j - lo) = j by omega, if_pos h2]
  exact hx

theorem bs_lt {z : Nat → Int} {n W : Nat} {l : List Nat} (h : BlockSorted z n W l) (hW : 1 ≤ W) {j x : Nat} (hj : j < n) (hx : l[j]? = some x) : x < n := by
  have hd : j / W * W ≤ j := Nat.div_mul_le_self j W
  have hd2 : j < (j / W + 1) * W := by
    have := Nat.lt_div_mul_add (a := j) (b := W) (by omega)
    rw [Nat.add_mul]; omega
  have hg := h (j / W) (by omega)
  have hm := hg.1.mem_iff.1 (seg_mem hx hd (by omega))
  simp only [List.mem_range'_1] at hm
  omega

/-- The state of the merge of one pair of pieces. -/
structure Mg (z : Nat → Int) (k W m lo mid hi : Nat) (la lb M : List Nat) (i j q : Nat) : Prop where
  h1 : lo ≤ i
  h2 : i ≤ mid
  h3 : mid ≤ j
  h4 : j ≤ hi
  h5 : q + mid = i + j
  hM : seg lb lo q ++ mrg z (seg la i mid) (seg la j hi) = M
  hG : ∀ m', m' < m → Good z lb (m' * (2 * W)) (min ((m' + 1) * (2 * W)) k)

theorem good_keep {z : Nat → Int} {k W m lo q x : Nat} {lb : List Nat} (hlo : lo = m * (2 * W)) (hq : lo ≤ q) (hG : ∀ m', m' < m → Good z lb (m' * (2 * W)) (min ((m' + 1) * (2 * W)) k)) : ∀ m', m' < m → Good z (lb.set q x) (m' * (2 * W)) (min ((m' + 1) * (2 * W)) k) := fun m' hm' => by
  have hle : (m' + 1) * (2 * W) ≤ lo := by rw [hlo]; exact Nat.mul_le_mul_right _ hm'
  have := hG m' hm'
  unfold Good at this ⊢
  rw [seg_set_before (by omega)]
  exact this

theorem Mg.right {z : Nat → Int} {k W m lo mid hi : Nat} {la lb M : List Nat} {i j q x y : Nat} (h : Mg z k W m lo mid hi la lb M i j q) (hlo : lo = m * (2 * W)) (hi' : i < mid) (hj : j < hi) (hx : la[i]? = some x) (hy : la[j]? = some y) (hlt : z y < z x) (hql : q < lb.length) : Mg z k W m lo mid hi la (lb.set q y) M i (j + 1) (q + 1) := by
  have h1 := h.h1; have h2 := h.h2; have h3 := h.h3; have h4 := h.h4; have h5 := h.h5
  refine ⟨h1, h2, by omega, by omega, by omega, ?_, good_keep hlo (by omega) h.hG⟩
  rw [seg_snoc y hql (by omega), ← h.hM, List.append_assoc]
  congr 1
  rw [seg_cons hx hi', seg_cons hy hj, mrg_cons, if_pos hlt]
  rfl
theorem Mg.left {z : Nat → Int} {k W m lo mid hi : Nat} {la lb M : List Nat} {i j q x y : Nat} (h : Mg z k W m lo mid hi la lb M i j q) (hlo : lo = m * (2 * W)) (hi' : i < mid) (hj : j < hi) (hx : la[i]? = some x) (hy : la[j]? = some y) (hlt : ¬ z y < z x) (hql : q < lb.length) : Mg z k W m lo mid hi la (lb.set q x) M (i + 1) j (q + 1) := by
  have h1 := h.h1; have h2 := h.h2; have h3 := h.h3; have h4 := h.h4; have h5 := h.h5
  refine ⟨by omega, by omega, h3, h4, by omega, ?_, good_keep hlo (by omega) h.hG⟩
  rw [seg_snoc x hql (by omega), ← h.hM, List.append_assoc]
  congr 1
  rw [seg_cons hx hi', seg_cons hy hj, mrg_cons, if_neg hlt]
  rfl
theorem Mg.restL {z : Nat → Int} {k W m lo mid hi : Nat} {la lb M : List Nat} {i j q x : Nat} (h : Mg z k W m lo mid hi la lb M i j q) (hlo : lo = m * (2 * W)) (hi' : i < mid) (hj : j = hi) (hx : la[i]? = some x) (hql : q < lb.length) : Mg z k W m lo mid hi la (lb.set q x) M (i + 1) j (q + 1) := by
  have h1 := h.h1; have h2 := h.h2; have h3 := h.h3; have h4 := h.h4; have h5 := h.h5
  refine ⟨by omega, by omega, h3, h4, by omega, ?_, good_keep hlo (by omega) h.hG⟩
  rw [seg_snoc x hql (by omega), ← h.hM, List.append_assoc]
  congr 1
  rw [seg_nil (lo := j) (hi := hi) (by omega), mrg_nil_right, mrg_nil_right, seg_cons hx hi']
  rfl
theorem Mg.restR {z : Nat → Int} {k W m lo mid hi : Nat} {la lb M : List Nat} {i j q y : Nat} (h : Mg z k W m lo mid hi la lb M i j q) (hlo : lo = m * (2 * W)) (hi' : i = mid) (hj : j < hi) (hy : la[j]? = some y) (hql : q < lb.length) : Mg z k W m lo mid hi la (lb.set q y) M i (j + 1) (q + 1) := by
  have h1 := h.h1; have h2 := h.h2; have h3 := h.h3; have h4 := h.h4; have h5 := h.h5
  refine ⟨h1, h2, by omega, by omega, by omega, ?_, good_keep hlo (by omega) h.hG⟩
  rw [seg_snoc y hql (by omega), ← h.hM, List.append_assoc]
  congr 1
  rw [seg_nil (lo := i) (hi := mid) (by omega), mrg_nil_left, mrg_nil_left, seg_cons hy hj]
  rfl

/-- The pair merged. -/
theorem Mg.done {z : Nat → Int} {k W m lo mid hi : Nat} {la lb M : List Nat} {q : Nat} (h : Mg z k W m lo mid hi la lb M mid hi q) (hlo : lo = m * (2 * W)) (hmid : mid = min (lo + W) k) (hhi : hi = min (lo + 2 * W) k) (hlk : lo < k) (hBS : BlockSorted z k W la) (hM : M = mrg z (seg la lo mid) (seg la mid hi)) :
    ∀ m', m' < m + 1 → Good z lb (m' * (2 * W)) (min ((m' + 1) * (2 * W)) k) := fun m' hm' => by
  by_cases e : m' = m
  · subst e
    have hq : q = hi := by have := h.h5; omega
    have hMM := h.hM
    rw [hq, seg_nil (Nat.le_refl _), seg_nil (Nat.le_refl _), mrg_nil_left, List.append_nil] at hMM
    have hmw : lo = 2 * m' * W := by rw [hlo]; rw [← Nat.mul_assoc, Nat.mul_comm m' 2]
    have g1 : Good z la lo mid := by
      have := hBS (2 * m') (by rw [← hmw]; exact hlk)
      rw [← hmw, show (2 * m' + 1) * W = lo + W by rw [Nat.add_mul, ← hmw]; omega, ← hmid] at this
      exact this
    have g2 : Good z la mid hi := by
      by_cases hmk : mid < k
      · have hmid' : mid = (2 * m' + 1) * W := by rw [Nat.add_mul, ← hmw]; omega
        have := hBS (2 * m' + 1) (by rw [← hmid']; exact hmk)
        rw [← hmid', show (2 * m' + 1 + 1) * W = lo + 2 * W by rw [Nat.add_mul, ← hmid']; omega, ← hhi] at this
        exact this
      · have : hi = mid := by omega
        rw [this]
        unfold Good
        rw [seg_nil (Nat.le_refl _), Nat.sub_self]
        exact ⟨List.Perm.refl _, List.Pairwise.nil⟩
    have hgm := good_merge (by omega) (by omega) g1 g2 hM
    unfold Good
    rw [← hlo, show (m' + 1) * (2 * W) = lo + 2 * W by rw [Nat.add_mul, ← hlo]; omega, ← hhi, hMM]
    exact hgm
  · exact h.hG m' (by omega)

end Go.Proofs.Qxb6616513a
