import Derived.Test.Qxb6616513aT35
namespace Go.Proofs.Qxb6616513a
open Go.RowKit

theorem ints_below {w w' : World} {a : Option Addr} {n : Nat} {z : Nat → Int} {B : Nat} (h : IntsAt w a n z) (hb : Below B w w') (hB : w.heap.size ≤ B) : IntsAt w' a n z := by
  rcases h with h0 | ⟨d, hd, hc⟩
  · exact Or.inl h0
  · exact Or.inr ⟨d, hd, fun j hj => (hb.cell (p := d.add j) (Nat.lt_of_lt_of_le (World.block_lt_of_cell? _ _ (hc j hj)) hB)).trans (hc j hj)⟩
theorem floats_below {w w' : World} {a : Option Addr} {n : Nat} {v : Nat → Nat} {B : Nat} (h : FloatsAt w a n v) (hb : Below B w w') (hB : w.heap.size ≤ B) : FloatsAt w' a n v := by
  rcases h with h0 | ⟨d, hd, hc⟩
  · exact Or.inl h0
  · exact Or.inr ⟨d, hd, fun j hj => (hb.cell (p := d.add j) (Nat.lt_of_lt_of_le (World.block_lt_of_cell? _ _ (hc j hj)) hB)).trans (hc j hj)⟩

theorem ups_next {z : Nat → Int} {v : Nat → Nat} {k m : Nat} {U : List (Int × Nat)} (hU : U = ups z v k) {p q : Int × Nat} (hp : U[m]? = some p) (hq : U[m + 1]? = some q) : p.1 < q.1 := by
  have h := ups_asc z v k
  rw [← hU] at h
  have hl := (List.getElem?_eq_some_iff.1 hq).1
  have := asc_get h m (m + 1) (by omega) (by unfold times; rw [List.length_map]; exact hl)
  unfold times at this
  rw [List.getElem?_map, List.getElem?_map, hp, hq] at this
  exact this

theorem leaves_bound {z : Nat → Int} {v : Nat → Nat} {k : Nat} (hk : k ≤ 65536) : ∀ (h : Nat) (t : T h), WF h t → flat h t = ups z v k → (leaves h t).length ≤ 65537
  | 0, _, _, _ => by show 1 ≤ 65537; omega
  | h + 1, ks, hw, hf => by
    change List (Int × T h) at ks
    have h1 := leaves_len (h + 1) ks hw (by
      have hw' : ks ≠ [] ∧ List.length ks ≤ 64 ∧ ∀ k ∈ ks, WF h k.2 ∧ (flat h k.2).head?.map (·.1) = some k.1 := hw
      obtain ⟨hne, -, hk⟩ := hw'
      cases ks with
      | nil => exact absurd rfl hne
      | cons q qs =>
        rw [flat_node, List.flatMap_cons]
        intro e
        exact head_some_ne (hk q (by simp)).2 (List.append_eq_nil_iff.1 e).1)
    have h2 := ups_length z v k
    rw [hf] at h1
    omega

/-- A row of numbers and its cells. -/
def SizAt (w : World) (a : Option Addr) (M : Nat) (l : List Nat) : Prop := l.length = M ∧ (M = 0 ∨ ∃ g, a = some ⟨g, 0, none⟩ ∧ g < w.heap.size ∧ ∀ j x, l[j]? = some x → w.cell? ⟨g, j, none⟩ = some (.int .i64 (x : Nat)))

theorem NR.open' {w : World} {B : Nat} {v : Value} {l : List Nat} (h : NR w B v l) : ∃ a c, v = .slice a l.length c ∧ SizAt w a l.length l := by
  obtain ⟨a, c, hv, hc⟩ := row_open h
  refine ⟨a, c, hv, rfl, ?_⟩
  rcases hc with h0 | ⟨g, ha, hg, hx⟩
  · exact Or.inl h0
  · exact Or.inr ⟨g, ha, hg, fun j x hj => hx j _ (by rw [List.getElem?_map, hj]; rfl)⟩

theorem SizAt.below {w w' : World} {a : Option Addr} {M : Nat} {l : List Nat} (h : SizAt w a M l) (hb : Below w.heap.size w w') : SizAt w' a M l := by
  obtain ⟨h1, h0 | ⟨g, ha, hg, hx⟩⟩ := h
  · exact ⟨h1, Or.inl h0⟩
  · exact ⟨h1, Or.inr ⟨g, ha, Nat.lt_of_lt_of_le hg hb.size, fun j x hj => (hb.cell (p := ⟨g, j, none⟩) hg).trans (hx j x hj)⟩⟩

theorem asc_size {h : Nat} {t : T h} (ha : AscF h t) {j : Nat} (hj : j + 1 < (sizes h t).length) : (sizes h t)[j]? = some 128 := by
  obtain ⟨init, last, hl, h1, -⟩ := ha
  unfold sizes at hj ⊢
  rw [hl] at hj ⊢
  rw [List.length_map, List.length_append] at hj
  have hji : j < init.length := by simpa using hj
  rw [List.getElem?_map, List.getElem?_append_left hji, List.getElem?_eq_getElem hji]
  exact congrArg some (h1 _ (List.getElem_mem hji))

theorem desc_size {h : Nat} {t : T h} (ha : DescF h t) {j : Nat} (hj0 : 1 ≤ j) (hj : j < (sizes h t).length) : (sizes h t)[j]? = some 128 := by
  obtain ⟨first, rest, hl, -, h1⟩ := ha
  unfold sizes at hj ⊢
  rw [hl] at hj ⊢
  obtain ⟨m, rfl⟩ : ∃ m, j = m + 1 := ⟨j - 1, by omega⟩
  rw [List.length_map, List.length_cons] at hj
  have hji : m < rest.length := by omega
  rw [List.getElem?_map, List.getElem?_cons_succ, List.getElem?_eq_getElem hji]
  exact congrArg some (h1 _ (List.getElem_mem hji))

end Go.Proofs.Qxb6616513a
