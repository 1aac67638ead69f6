import Derived.Test.Qxb6616513aT3
namespace Go.Proofs.Qxb6616513a
open Go.RowKit

/-- How many times come before t. -/
def place (zs : List Int) (t : Int) : Nat := (zs.takeWhile fun z => decide (z < t)).length
/-- The kid that t goes under. -/
def childIdx (zs : List Int) (t : Int) : Nat := (zs.takeWhile fun z => decide (z ≤ t)).length - 1

def Asc (zs : List Int) : Prop := zs.Pairwise (· < ·)

theorem Place.unique {n : Nat} {z : Nat → Int} {t : Int} {i j : Nat} (h1 : Place n z t i) (h2 : Place n z t j) : i = j := by
  obtain ⟨a1, a2, a3⟩ := h1
  obtain ⟨b1, b2, b3⟩ := h2
  rcases Nat.lt_trichotomy i j with h | h | h
  · have := b2 i h; have := a3 i (Nat.le_refl _) (by omega); omega
  · exact h
  · have := a2 j h; have := b3 j (Nat.le_refl _) (by omega); omega

theorem asc_get {zs : List Int} (h : Asc zs) : ∀ i j, i < j → j < zs.length → (zs[i]?).getD 0 < (zs[j]?).getD 0 := fun i j hij hj => by
  have := List.pairwise_iff_getElem.1 h i j (by omega) hj hij
  simpa [List.getElem?_eq_getElem hj, List.getElem?_eq_getElem (show i < zs.length by omega)] using this

theorem place_le (zs : List Int) (t : Int) : place zs t ≤ zs.length := by
  unfold place
  exact (List.takeWhile_prefix _).length_le

theorem takeWhile_facts (p : Int → Bool) : ∀ (zs : List Int), (∀ j, j < (zs.takeWhile p).length → ∃ z, zs[j]? = some z ∧ p z = true) ∧ (∀ z, zs[(zs.takeWhile p).length]? = some z → p z = false)
  | [] => by simp
  | z :: zs => by
    by_cases h : p z = true
    · rw [List.takeWhile_cons_of_pos h]
      obtain ⟨h1, h2⟩ := takeWhile_facts p zs
      refine ⟨fun j hj => ?_, fun y hy => h2 y (by simpa using hy)⟩
      cases j with
      | zero => exact ⟨z, rfl, h⟩
      | succ j => obtain ⟨y, hy, hp⟩ := h1 j (by simpa using hj); exact ⟨y, by simpa using hy, hp⟩
    · rw [List.takeWhile_cons_of_neg h]
      refine ⟨fun j hj => by simp at hj, fun y hy => ?_⟩
      simp at hy
      subst hy
      simpa using h

theorem place_is {zs : List Int} (hz : Asc zs) (t : Int) : Place zs.length (fun j => (zs[j]?).getD 0) t (place zs t) := by
  obtain ⟨h1, h2⟩ := takeWhile_facts (fun z => decide (z < t)) zs
  refine ⟨place_le zs t, fun j hj => ?_, fun j hj hn => ?_⟩
  · obtain ⟨z, hz, hp⟩ := h1 j hj
    dsimp only
    rw [hz]
    simpa using hp
  · dsimp only
    have hl : place zs t < zs.length := by omega
    have hf := h2 _ (List.getElem?_eq_getElem hl)
    have hp : t ≤ (zs[place zs t]?).getD 0 := by
      rw [List.getElem?_eq_getElem hl]
      simpa using hf
    by_cases e : place zs t = j
    · rw [← e]; exact hp
    · have := asc_get hz (place zs t) j (by omega) hn
      omega

/-- The first time under a tree. -/
def fst : (h : Nat) → T h → Int
  | 0, ps => match ps with | [] => 0 | p :: _ => p.1
  | _ + 1, ks => match ks with | [] => 0 | k :: _ => k.1

/-- It holds something. -/
def NE : (h : Nat) → T h → Prop
  | 0, ps => ps ≠ []
  | _ + 1, ks => ks ≠ []

/-- How many points the node itself holds. -/
def nPts : (h : Nat) → T h → Nat
  | 0, ps => List.length ps
  | _ + 1, _ => 0

/-- A full leaf that ends before x. -/
def full : (h : Nat) → T h → Int → Bool
  | 0, ps, x => decide (List.length ps = 128) && (match (show List (Int × Nat) from ps)[127]? with | some p => decide (p.1 < x) | none => false)
  | _ + 1, _, _ => false

def leafSet (ps : List (Int × Nat)) (p : Int × Nat) : List (Int × Nat) × Option (List (Int × Nat)) :=
  let i := place (ps.map (·.1)) p.1
  if (ps[i]?.map (·.1)) = some p.1 then (ps.set i p, none)
  else if ps.length < 128 then (ins i p ps, none)
  else if i = ps.length then (ps, some [p])
  else if i = 0 then ([p], some ps)
  else if i ≤ ps.length / 2 then (ins i p (ps.take (ps.length / 2)), some (ps.drop (ps.length / 2)))
  else (ps.take (ps.length / 2), some (ins (i - ps.length / 2) p (ps.drop (ps.length / 2))))

/-- Which kid takes the point. -/
def kidAt (h : Nat) (ks : List (Int × T h)) (x : Int) : Nat :=
  let i := childIdx (ks.map (·.1)) x
  match ks[i]?, ks[i + 1]? with
  | some k, some k' => if full h k.2 x = true ∧ nPts h k'.2 < 128 then i + 1 else i
  | _, _ => i

def setT : (h : Nat) → T h → Int × Nat → T h × Option (T h)
  | 0, ps, p => leafSet ps p
  | h + 1, ks, p =>
    let l : List (Int × T h) := ks
    let i := kidAt h l p.1
    match l[i]? with
    | none => (l, none)
    | some k =>
      let r := setT h k.2 p
      let l1 := l.set i (min k.1 p.1, r.1)
      match r.2 with
      | none => (l1, none)
      | some s =>
        let l2 := ins (i + 1) (fst h s, s) l1
        if l2.length ≤ 64 then (l2, none) else (l2.take (l2.length / 2), some (l2.drop (l2.length / 2)))

/-- What the walk asks of the tree. -/
def Ok : (h : Nat) → T h → Prop
  | 0, ps => Asc ((show List (Int × Nat) from ps).map (·.1)) ∧ List.length ps ≤ 128
  | h + 1, ks => Asc ((show List (Int × T h) from ks).map (·.1)) ∧ ks ≠ [] ∧ List.length ks ≤ 64 ∧ ∀ k ∈ (show List (Int × T h) from ks), Ok h k.2 ∧ NE h k.2

theorem encP_one (ps : List (Int × Nat)) : ∀ u ∈ encP ps, u.oneCell' = true := pairs_one _ _ (fun _ => rfl) (fun _ => rfl) ps
theorem encK_one (h : Nat) (ks : List (Int × HT h)) : ∀ u ∈ encK h ks, u.oneCell' = true := pairs_one _ _ (fun _ => rfl) (fun _ => rfl) ks

/-- A leaf's cells. -/
theorem leaf_cells {w : World} {b : Nat} {v : Value} {ps : List (Int × Nat)} (ha : At w 0 (b, v, ps)) :
    w.cell? ⟨b, 0, none⟩ = some v ∧ w.cell? ⟨b, 1, none⟩ = some (.slice none 0 0) ∧ w.ownsRow 0 63 2 v ps.length (encP ps) ∧
    ((v = .slice none 0 0 ∧ ps = []) ∨ ∃ g cap, v = .slice (some ⟨g, 0, none⟩) ps.length cap ∧ ps.length ≤ cap ∧ g < w.heap.size ∧ ∀ j p, ps[j]? = some p → w.cell? ⟨g, j * 2, none⟩ = some (.int .i64 p.1) ∧ w.cell? ⟨g, j * 2 + 1, none⟩ = some (.float .f64 p.2)) := by
  obtain ⟨⟨ty, hb⟩, hr⟩ := ha
  change w.heap[b]? = some (.cells #[v, .slice none 0 0] ty (0, 0)) at hb
  change w.ownsRow 0 63 2 v ps.length (encP ps) at hr
  refine ⟨by simpa using cell_of_row w b 0 _ _ _ hb, by simpa using cell_of_row w b 1 _ _ _ hb, hr, ?_⟩
  rcases hr.2 with ⟨h1, h0⟩ | ⟨g, cap, cur, rfl, _, hg, hnc, _⟩
  · exact Or.inl ⟨h1, List.eq_nil_of_length_eq_zero h0⟩
  · refine Or.inr ⟨g, cap, rfl, hnc, (Array.getElem?_eq_some_iff.1 hg).1, fun j p hp => ?_⟩
    have hj := (List.getElem?_eq_some_iff.1 hp).1
    have e0 := hr.cellAt (j * 2) (by omega)
    have e1 := hr.cellAt (j * 2 + 1) (by omega)
    unfold encP at e0 e1
    rw [pairs_get0, hp] at e0
    rw [pairs_get1, hp] at e1
    exact ⟨e0, e1⟩

/-- An inner node's cells. -/
theorem node_cells {w : World} {h b : Nat} {v : Value} {ks : List (Int × HT h)} (ha : At w (h + 1) (b, v, ks)) :
    w.cell? ⟨b, 0, none⟩ = some (.slice none 0 0) ∧ w.cell? ⟨b, 1, none⟩ = some v ∧ w.ownsRow 0 84 2 v ks.length (encK h ks) ∧ (∀ k ∈ ks, At w h k.2) ∧
    ((v = .slice none 0 0 ∧ ks = []) ∨ ∃ g cap, v = .slice (some ⟨g, 0, none⟩) ks.length cap ∧ ks.length ≤ cap ∧ g < w.heap.size ∧ ∀ j k, ks[j]? = some k → w.cell? ⟨g, j * 2, none⟩ = some (.int .i64 k.1) ∧ w.cell? ⟨g, j * 2 + 1, none⟩ = some (.pointer (some ⟨blk h k.2, 0, none⟩))) := by
  obtain ⟨⟨ty, hb⟩, hr, hk⟩ := ha
  change w.heap[b]? = some (.cells #[.slice none 0 0, v] ty (0, 0)) at hb
  change w.ownsRow 0 84 2 v ks.length (encK h ks) at hr
  refine ⟨by simpa using cell_of_row w b 0 _ _ _ hb, by simpa using cell_of_row w b 1 _ _ _ hb, hr, hk, ?_⟩
  rcases hr.2 with ⟨h1, h0⟩ | ⟨g, cap, cur, rfl, _, hg, hnc, _⟩
  · exact Or.inl ⟨h1, List.eq_nil_of_length_eq_zero h0⟩
  · refine Or.inr ⟨g, cap, rfl, hnc, (Array.getElem?_eq_some_iff.1 hg).1, fun j p hp => ?_⟩
    have hj := (List.getElem?_eq_some_iff.1 hp).1
    have e0 := hr.cellAt (j * 2) (by omega)
    have e1 := hr.cellAt (j * 2 + 1) (by omega)
    unfold encK at e0 e1
    rw [pairs_get0, hp] at e0
    rw [pairs_get1, hp] at e1
    exact ⟨e0, e1⟩

/-- node.first. -/
theorem first_any (h : Nat) (t : HT h) (w : World) (ha : At w h t) (hne : NE h (er h t)) : Calls Try.prog 44 #[.pointer (some ⟨blk h t, 0, none⟩)] w fun e w' => e = .returned (.int .i64 (fst h (er h t))) ∧ w' = w := by
  cases h with
  | zero =>
    obtain ⟨b, v, ps⟩ := t
    obtain ⟨c0, c1, _, hv⟩ := leaf_cells ha
    have hne' : ps ≠ [] := hne
    obtain ⟨p, rest, rfl⟩ := List.exists_cons_of_ne_nil hne'
    rcases hv with ⟨_, h0⟩ | ⟨g, cap, rfl, hnc, hgl, hc⟩
    · exact absurd h0 hne'
    have c2 : w.cell? ⟨g, 0, none⟩ = some (.int .i64 p.1) := by simpa using (hc 0 p rfl).1
    show Calls Try.prog 44 #[.pointer (some ⟨b, 0, none⟩)] w fun e w' => e = .returned (.int .i64 p.1) ∧ w' = w
    simp only [List.length_cons] at c0
    clear hc ha hne hne'
    go_enter Try.func44, Try.ntmps44
    go_wp2_with fail
    go_ret
    exact ⟨rfl, rfl⟩
  | succ h =>
    obtain ⟨b, v, ks⟩ := t
    obtain ⟨c0, c1, _, _, hv⟩ := node_cells ha
    have hne' : ks ≠ [] := fun e => hne (by rw [e]; rfl)
    obtain ⟨k, rest, rfl⟩ := List.exists_cons_of_ne_nil hne'
    rcases hv with ⟨_, h0⟩ | ⟨g, cap, rfl, hnc, hgl, hc⟩
    · exact absurd h0 hne'
    have c2 : w.cell? ⟨g, 0, none⟩ = some (.int .i64 k.1) := by simpa using (hc 0 k rfl).1
    show Calls Try.prog 44 #[.pointer (some ⟨b, 0, none⟩)] w fun e w' => e = .returned (.int .i64 k.1) ∧ w' = w
    simp only [List.length_cons] at c1
    have hlen : (0 : Int) < (rest.length : Int) + 1 := by omega
    clear hc ha hne hne'
    go_enter Try.func44, Try.ntmps44
    go_wp2_with fail
    go_ret
    exact ⟨rfl, rfl⟩

/-- node.fullBefore. -/
theorem full_any (h : Nat) (t : HT h) (x : Int) (w : World) (ha : At w h t) : Calls Try.prog 50 #[.pointer (some ⟨blk h t, 0, none⟩), .int .i64 x] w fun e w' => e = .returned (.bool (full h (er h t) x)) ∧ w' = w := by
  cases h with
  | zero =>
    obtain ⟨b, v, ps⟩ := t
    obtain ⟨c0, c1, _, hv⟩ := leaf_cells ha
    show Calls Try.prog 50 #[.pointer (some ⟨b, 0, none⟩), .int .i64 x] w fun e w' => e = .returned (.bool (decide (ps.length = 128) && (match ps[127]? with | some p => decide (p.1 < x) | none => false))) ∧ w' = w
    rcases hv with ⟨rfl, rfl⟩ | ⟨g, cap, rfl, hnc, hgl, hc⟩
    · go_enter Try.func50, Try.ntmps50
      go_wp2_with fail
      go_ret
      exact ⟨rfl, rfl⟩
    · by_cases hl : ps.length = 128
      · obtain ⟨p, hp⟩ : ∃ p, ps[127]? = some p := ⟨_, List.getElem?_eq_getElem (by omega)⟩
        have c2 := (hc 127 p hp).1
        rw [hl] at c0
        rw [hp, hl]
        clear hc ha
        have c2' : w.cell? ⟨g, 254, none⟩ = some (.int .i64 p.1) := c2
        go_enter Try.func50, Try.ntmps50
        go_wp2_with fail
        go_ret
        exact ⟨by simp, rfl⟩
      · have hl' : ((ps.length : Int) == 128) = false := by simp; omega
        rw [decide_eq_false hl, Bool.false_and]
        clear hc ha
        go_enter Try.func50, Try.ntmps50
        go_wp2_with fail
        go_ret
        exact ⟨rfl, rfl⟩
  | succ h =>
    obtain ⟨b, v, ks⟩ := t
    obtain ⟨c0, c1, _⟩ := node_cells ha
    show Calls Try.prog 50 #[.pointer (some ⟨b, 0, none⟩), .int .i64 x] w fun e w' => e = .returned (.bool false) ∧ w' = w
    clear ha
    go_enter Try.func50, Try.ntmps50
    go_wp2_with fail
    go_ret
    exact ⟨rfl, rfl⟩

theorem childIdx_last {zs : List Int} (hz : Asc zs) (t : Int) (h0 : 0 < zs.length) (hl : (zs[zs.length - 1]?).getD 0 ≤ t) : childIdx zs t = zs.length - 1 := by
  obtain ⟨_, h2⟩ := takeWhile_facts (fun z => decide (z ≤ t)) zs
  have hle : (zs.takeWhile fun z => decide (z ≤ t)).length ≤ zs.length := (List.takeWhile_prefix _).length_le
  unfold childIdx
  by_cases hlt : (zs.takeWhile fun z => decide (z ≤ t)).length < zs.length
  · exfalso
    have := h2 _ (List.getElem?_eq_getElem hlt)
    obtain ⟨L, hL⟩ : ∃ L, L = (zs.takeWhile fun z => decide (z ≤ t)).length := ⟨_, rfl⟩
    simp only [← hL] at this hlt
    have e : (zs[L]?).getD 0 = zs[L] := by rw [List.getElem?_eq_getElem hlt]; rfl
    have hgt : t < zs[L] := by simpa using this
    by_cases hjl : L = zs.length - 1
    · rw [← hjl, e] at hl; omega
    · have := asc_get hz L (zs.length - 1) (by omega) (by omega)
      rw [e] at this
      omega
  · omega

theorem childIdx_place {zs : List Int} (hz : Asc zs) (t : Int) (i : Nat) (hp : Place zs.length (fun j => (zs[j]?).getD 0) t i) : childIdx zs t = if i < zs.length ∧ (zs[i]?).getD 0 = t then i else i - 1 := by
  obtain ⟨h1, h2⟩ := takeWhile_facts (fun z => decide (z ≤ t)) zs
  have hle : (zs.takeWhile fun z => decide (z ≤ t)).length ≤ zs.length := (List.takeWhile_prefix _).length_le
  obtain ⟨L, hL⟩ : ∃ L, L = (zs.takeWhile fun z => decide (z ≤ t)).length := ⟨_, rfl⟩
  rw [← hL] at h1 h2 hle
  unfold childIdx
  rw [← hL]
  have a1 : ∀ j, j < L → (zs[j]?).getD 0 ≤ t := fun j hj => by
    obtain ⟨z, hz', hp'⟩ := h1 j hj
    rw [hz']; simpa using hp'
  have a2 : L < zs.length → t < (zs[L]?).getD 0 := fun hl => by
    have := h2 _ (List.getElem?_eq_getElem hl)
    rw [List.getElem?_eq_getElem hl]
    simpa using this
  obtain ⟨p1, p2, p3⟩ := hp
  dsimp only at p2 p3
  split
  · rename_i hi
    by_cases hLi : L ≤ i
    · have := a2 (by omega)
      by_cases e : L = i
      · rw [e] at this; omega
      · have := p2 L (by omega); omega
    · by_cases e : L = i + 1
      · omega
      · have := a1 (i + 1) (by omega)
        have := asc_get hz i (i + 1) (by omega) (by omega)
        omega
  · rename_i hi
    have hLi : L = i := by
      rcases Nat.lt_trichotomy L i with h | h | h
      · have := p2 L h; have := a2 (by omega); omega
      · exact h
      · have h3 := a1 i h
        have h4 := p3 i (Nat.le_refl _) (by omega)
        exact absurd ⟨by omega, by omega⟩ hi
    omega

theorem times_map {α : Type} (ls : List α) (f : α → Int) : (fun j : Nat => (ls[j]?.map f).getD 0) = fun j : Nat => ((ls.map f)[j]?).getD 0 := by
  funext j
  rw [List.getElem?_map]

/-- node.child. -/
theorem child_any (h : Nat) (t : HT (h + 1)) (x : Int) (w : World) (ha : At w (h + 1) t) (hne : t.2.2 ≠ []) (hl : t.2.2.length ≤ 64) (hz : Asc (t.2.2.map (·.1))) :
    Calls Try.prog 49 #[.pointer (some ⟨blk (h + 1) t, 0, none⟩), .int .i64 x] w fun e w' => e = .returned (.int .i64 (childIdx (t.2.2.map (·.1)) x : Nat)) ∧ Below w.heap.size w w' := by
  obtain ⟨b, v, ks⟩ := t
  obtain ⟨c0, c1, hr, hk, hv⟩ := node_cells ha
  change ks ≠ [] at hne
  change ks.length ≤ 64 at hl
  change Asc (ks.map (·.1)) at hz
  show Calls Try.prog 49 #[.pointer (some ⟨b, 0, none⟩), .int .i64 x] w fun e w' => e = .returned (.int .i64 (childIdx (ks.map (·.1)) x : Nat)) ∧ Below w.heap.size w w'
  have hn0 : 0 < ks.length := List.length_pos_iff.2 hne
  rcases hv with ⟨_, h0⟩ | ⟨g, cap, rfl, hnc, hgl, hc⟩
  · exact absurd h0 hne
  obtain ⟨k, hk0⟩ : ∃ k, ks[ks.length - 1]? = some k := ⟨_, List.getElem?_eq_getElem (by omega)⟩
  have c2 := (hc _ k hk0).1
  have hlast : ((ks.map (·.1))[(ks.map (·.1)).length - 1]?).getD 0 = k.1 := by rw [List.length_map, List.getElem?_map, hk0]; rfl
  obtain ⟨m, hm⟩ : ∃ m, ks.length = m + 1 := ⟨ks.length - 1, by omega⟩
  have e1 : ((ks.length : Nat) : Int) - 1 = (m : Int) := by omega
  have hm' : ks.length - 1 = m := by omega
  rw [hm'] at c2
  have e2 : (0 : Int) ≤ (m : Int) := by omega
  have e3 : m < ks.length := by omega
  by_cases hx : k.1 ≤ x
  · have hci := childIdx_last hz x (by simpa using hn0) (by rw [hlast]; exact hx)
    rw [List.length_map, hm'] at hci
    rw [hci]
    clear hc hr hk ha hz hlast hci hk0 hm hm'
    go_enter Try.func49, Try.ntmps49
    go_wp2_with fail
    go_ret
    exact ⟨rfl, Below.refl _ _⟩
  · have hTA : TimesAt w (some ⟨g, 0, none⟩) ks.length (fun j => ((ks.map (·.1))[j]?).getD 0) := by
      obtain ⟨a, c, hv, _, hT⟩ := row_times (f := fun k : Int × HT h => k.1) (fun _ => rfl) (fun _ => rfl) hr
      simp only [Value.slice.injEq, true_and] at hv
      rw [← hv.1, times_map] at hT
      exact hT
    have q := search_kids (some ⟨g, 0, none⟩) ks.length cap (fun j => ((ks.map (·.1))[j]?).getD 0) x (by omega) (fun i j h1 h2 => asc_get hz i j h1 (by simpa using h2)) w hTA
    clear hTA hc hr hk ha hk0 hm hm'
    have hx' : x < k.1 := by omega
    go_enter Try.func49, Try.ntmps49
    go_wp2_with fail
    refine q.mono ?_
    rintro e w1 ⟨hB, i, hp, rfl⟩
    have hci := childIdx_place hz x i (by rw [List.length_map]; exact hp)
    rw [List.length_map] at hci
    have HC : Hid (childIdx (ks.map (·.1)) x = if i < ks.length ∧ ((ks.map (·.1))[i]?).getD 0 = x then i else i - 1) := hci
    have HB : Hid (Below w.heap.size w w1) := hB
    have hib : i ≤ 64 := Nat.le_trans hp.1 hl
    clear q hp hB hz hci hlast
    by_cases hf : i < ks.length ∧ ((ks.map (·.1))[i]?).getD 0 = x
    · rw [decide_eq_true hf]
      have HC' : Hid (childIdx (ks.map (·.1)) x = i) := by have := HC.out; rw [if_pos hf] at this; exact this
      clear hf
      go_wp2_with fail
      go_ret
      exact ⟨by rw [HC'.out]; rfl, HB.out⟩
    · rw [decide_eq_false hf]
      have HC' : Hid (childIdx (ks.map (·.1)) x = i - 1) := by have := HC.out; rw [if_neg hf] at this; exact this
      clear hf
      by_cases hi0 : i = 0
      · subst hi0
        go_wp2_with fail
        go_ret
        exact ⟨by rw [HC'.out]; rfl, HB.out⟩
      · obtain ⟨i', rfl⟩ : ∃ i', i = i' + 1 := ⟨i - 1, by omega⟩
        have e4 : (0 : Int) < (i' : Int) + 1 := by omega
        go_wp2_with fail
        go_ret
        exact ⟨by rw [HC'.out]; rfl, HB.out⟩

end Go.Proofs.Qxb6616513a
