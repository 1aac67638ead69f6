import Derived.Test.Qxb6616513aT19
namespace Go.Proofs.Qxb6616513a

/-- By time, then by place. -/
def Lex (z : Nat → Int) (i j : Nat) : Prop := z i < z j ∨ (z i = z j ∧ i < j)
theorem Lex.trans {z : Nat → Int} {i j k : Nat} (h1 : Lex z i j) (h2 : Lex z j k) : Lex z i k := by
  unfold Lex at *; omega

def le (z : Nat → Int) (i j : Nat) : Bool := decide (z i ≤ z j)
def mrg (z : Nat → Int) (xs ys : List Nat) : List Nat := List.merge xs ys (le z)

theorem mrg_nil_left (z : Nat → Int) (ys : List Nat) : mrg z [] ys = ys := by simp [mrg]
theorem mrg_nil_right (z : Nat → Int) (xs : List Nat) : mrg z xs [] = xs := by simp [mrg]
theorem mrg_cons (z : Nat → Int) (x y : Nat) (xs ys : List Nat) : mrg z (x :: xs) (y :: ys) = if z y < z x then y :: mrg z (x :: xs) ys else x :: mrg z xs (y :: ys) := by
  unfold mrg
  rw [List.cons_merge_cons]
  unfold le
  by_cases h : z y < z x
  · rw [if_pos h, if_neg (by simp; omega)]
  · rw [if_neg h, if_pos (by simp; omega)]

theorem mrg_perm (z : Nat → Int) (xs ys : List Nat) : (mrg z xs ys).Perm (xs ++ ys) := List.merge_perm_append _

theorem mrg_sorted (z : Nat → Int) : ∀ (xs ys : List Nat), xs.Pairwise (Lex z) → ys.Pairwise (Lex z) → (∀ x ∈ xs, ∀ y ∈ ys, x < y) → (mrg z xs ys).Pairwise (Lex z)
  | [], ys, _, hy, _ => by rw [mrg_nil_left]; exact hy
  | x :: xs, [], hx, _, _ => by rw [mrg_nil_right]; exact hx
  | x :: xs, y :: ys, hx, hy, hlt => by
    obtain ⟨hx1, hx2⟩ := List.pairwise_cons.1 hx
    obtain ⟨hy1, hy2⟩ := List.pairwise_cons.1 hy
    rw [mrg_cons]
    by_cases h : z y < z x
    · rw [if_pos h]
      refine List.pairwise_cons.2 ⟨fun w hw => ?_, mrg_sorted z (x :: xs) ys hx hy2 (fun a ha b hb => hlt a ha b (by simp [hb]))⟩
      rcases List.mem_append.1 ((mrg_perm z _ _).mem_iff.1 hw) with h' | h'
      · rcases List.mem_cons.1 h' with rfl | h''
        · exact Or.inl h
        · exact Lex.trans (Or.inl h) (hx1 w h'')
      · exact hy1 w h'
    · rw [if_neg h]
      have hxy : Lex z x y := by
        have := hlt x (by simp) y (by simp)
        unfold Lex; omega
      refine List.pairwise_cons.2 ⟨fun w hw => ?_, mrg_sorted z xs (y :: ys) hx2 hy (fun a ha b hb => hlt a (by simp [ha]) b hb)⟩
      rcases List.mem_append.1 ((mrg_perm z _ _).mem_iff.1 hw) with h' | h'
      · exact hx1 w h'
      · rcases List.mem_cons.1 h' with rfl | h''
        · exact hxy
        · exact Lex.trans hxy (hy1 w h'')

/-- The piece of l from lo up to hi. -/
def seg (l : List Nat) (lo hi : Nat) : List Nat := (l.take hi).drop lo

theorem seg_cons {l : List Nat} {lo hi x : Nat} (hx : l[lo]? = some x) (h : lo < hi) : seg l lo hi = x :: seg l (lo + 1) hi := by
  unfold seg
  have hl := (List.getElem?_eq_some_iff.1 hx).1
  have he := (List.getElem?_eq_some_iff.1 hx).2
  rw [List.drop_eq_getElem_cons (by simp; omega)]
  congr 1
  rw [List.getElem_take]; exact he
theorem seg_nil {l : List Nat} {lo hi : Nat} (h : hi ≤ lo) : seg l lo hi = [] := by
  unfold seg
  rw [List.drop_eq_nil_iff]
  simp; omega
theorem seg_snoc {l : List Nat} {lo k : Nat} (x : Nat) (hk : k < l.length) (h : lo ≤ k) : seg (l.set k x) lo (k + 1) = seg l lo k ++ [x] := by
  unfold seg
  rw [List.take_add_one, List.getElem?_set_self hk, List.take_set_of_le (Nat.le_refl _)]
  rw [List.drop_append_of_le_length (by simp; omega)]
  rfl
theorem seg_set_before {l : List Nat} {lo hi k x : Nat} (h : hi ≤ k) : seg (l.set k x) lo hi = seg l lo hi := by
  unfold seg
  rw [List.take_set_of_le h]
theorem seg_length {l : List Nat} {lo hi : Nat} (h : hi ≤ l.length) : (seg l lo hi).length = hi - lo := by
  unfold seg
  simp; omega

/-- The piece from lo up to hi holds the places lo .. hi - 1, in order. -/
def Good (z : Nat → Int) (l : List Nat) (lo hi : Nat) : Prop := (seg l lo hi).Perm (List.range' lo (hi - lo)) ∧ (seg l lo hi).Pairwise (Lex z)

theorem good_merge {z : Nat → Int} {la : List Nat} {M : List Nat} {lo mid hi : Nat} (h1 : lo ≤ mid) (h2 : mid ≤ hi) (g1 : Good z la lo mid) (g2 : Good z la mid hi) (hM : M = mrg z (seg la lo mid) (seg la mid hi)) :
    M.Perm (List.range' lo (hi - lo)) ∧ M.Pairwise (Lex z) := by
  subst hM
  refine ⟨(mrg_perm z _ _).trans ?_, mrg_sorted z _ _ g1.2 g2.2 fun x hx y hy => ?_⟩
  · have e : List.range' lo (hi - lo) = List.range' lo (mid - lo) ++ List.range' mid (hi - mid) := by
      have := List.range'_append_1 (s := lo) (m := mid - lo) (n := hi - mid)
      rw [show lo + (mid - lo) = mid by omega, show mid - lo + (hi - mid) = hi - lo by omega] at this
      exact this.symm
    rw [e]
    exact List.Perm.append g1.1 g2.1
  · have hx' := g1.1.mem_iff.1 hx
    have hy' := g2.1.mem_iff.1 hy
    simp only [List.mem_range'_1] at hx' hy'
    omega

end Go.Proofs.Qxb6616513a
