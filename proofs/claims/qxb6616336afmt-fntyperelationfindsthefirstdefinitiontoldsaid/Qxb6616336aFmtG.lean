import Derived.Test.Qxb6616336aFmtF
namespace Go.Proofs.Qxb6616336aFmt
open Go.RowKit Go.Maps

/-- Place (i, j) is the first of its names. -/
structure Hit1 (nm : Nat → ByteArray) (rl : Nat → Nat) (rn : Nat → Nat → ByteArray) (typ name : ByteArray) (i j : Nat) : Prop where
  itype : nm i = typ
  ifirst : ∀ i', i' < i → nm i' ≠ typ
  jlt : j < rl i
  jname : rn i j = name
  jfirst : ∀ j', j' < j → rn i j' ≠ name

theorem Hit1.unique {nm : Nat → ByteArray} {rl : Nat → Nat} {rn : Nat → Nat → ByteArray} {typ name : ByteArray} {i j i' j' : Nat}
    (h : Hit1 nm rl rn typ name i j) (h' : Hit1 nm rl rn typ name i' j') : i = i' ∧ j = j' := by
  have e : i = i' := by
    rcases Nat.lt_trichotomy i i' with h1 | h1 | h1
    · exact absurd h.itype (h'.ifirst i h1)
    · exact h1
    · exact absurd h'.itype (h.ifirst i' h1)
  subst e
  refine ⟨rfl, ?_⟩
  rcases Nat.lt_trichotomy j j' with h1 | h1 | h1
  · exact absurd h.jname (h'.jfirst j h1)
  · exact h1
  · exact absurd h'.jname (h.jfirst j' h1)

def Vis (k q i j : Nat) : Prop := i < k ∨ (i = k ∧ j < q)

def Pt (b o : Nat) : Value := .pointer (some ⟨b, o, none⟩)

def TInv (nm : Nat → ByteArray) (bt k : Nat) (F : ByteArray → Value) : Prop :=
  ∀ s : ByteArray, ((∃ i, i < k ∧ nm i = s) ∧ ∃ o, F s = Pt bt o) ∨ ((∀ i, i < k → nm i ≠ s) ∧ F s = .pointer none)

def RInv (nm : Nat → ByteArray) (rl : Nat → Nat) (rn : Nat → Nat → ByteArray) (br : Nat → Nat) (k q : Nat) (G : ByteArray → ByteArray → Value) : Prop :=
  ∀ s t : ByteArray, (∃ i j, Vis k q i j ∧ Hit1 nm rl rn s t i j ∧ G s t = Pt (br i) (j * 3)) ∨ ((∀ i j, Vis k q i j → ¬ Hit1 nm rl rn s t i j) ∧ G s t = .pointer none)

theorem TInv.start (nm : Nat → ByteArray) (bt : Nat) : TInv nm bt 0 (fun _ => .pointer none) := fun _ => Or.inr ⟨fun i hi => absurd hi (by omega), rfl⟩
theorem RInv.start (nm : Nat → ByteArray) (rl : Nat → Nat) (rn : Nat → Nat → ByteArray) (br : Nat → Nat) : RInv nm rl rn br 0 0 (fun _ _ => .pointer none) :=
  fun _ _ => Or.inr ⟨fun i j h => by rcases h with h | h <;> omega, rfl⟩

theorem TInv.skip {nm : Nat → ByteArray} {bt k : Nat} {F : ByteArray → Value} (h : TInv nm bt k F) (hk : ∃ i, i < k ∧ nm i = nm k) : TInv nm bt (k + 1) F := by
  intro s
  rcases h s with ⟨⟨i, hi, e⟩, h2⟩ | ⟨h1, h2⟩
  · exact Or.inl ⟨⟨i, by omega, e⟩, h2⟩
  · refine Or.inr ⟨fun i hi => ?_, h2⟩
    by_cases e : i = k
    · subst e
      obtain ⟨i', hi', e'⟩ := hk
      rw [← e']
      exact h1 i' hi'
    · exact h1 i (by omega)

theorem TInv.add {nm : Nat → ByteArray} {bt k : Nat} {F : ByteArray → Value} (h : TInv nm bt k F) (o : Nat) (F' : ByteArray → Value) (h1 : F' (nm k) = Pt bt o) (h2 : ∀ t, t ≠ nm k → F' t = F t) : TInv nm bt (k + 1) F' := by
  intro s
  by_cases e : s = nm k
  · subst e
    exact Or.inl ⟨⟨k, by omega, rfl⟩, o, h1⟩
  · rw [h2 s e]
    rcases h s with ⟨⟨i, hi, e⟩, h2⟩ | ⟨h1, h2⟩
    · exact Or.inl ⟨⟨i, by omega, e⟩, h2⟩
    · refine Or.inr ⟨fun i hi => ?_, h2⟩
      by_cases e2 : i = k
      · subst e2; exact fun e3 => e e3.symm
      · exact h1 i (by omega)

theorem RInv.skip {nm : Nat → ByteArray} {rl : Nat → Nat} {rn : Nat → Nat → ByteArray} {br : Nat → Nat} {k : Nat} {G : ByteArray → ByteArray → Value} (h : RInv nm rl rn br k 0 G) (hk : ∃ i, i < k ∧ nm i = nm k) : RInv nm rl rn br (k + 1) 0 G := by
  intro s t
  rcases h s t with ⟨i, j, hv, hh⟩ | ⟨h1, h2⟩
  · exact Or.inl ⟨i, j, by rcases hv with h | h <;> (left; omega), hh⟩
  · refine Or.inr ⟨fun i j hv hh => ?_, h2⟩
    by_cases e : i = k
    · subst e
      obtain ⟨i', hi', e'⟩ := hk
      exact hh.ifirst i' hi' (e'.trans hh.itype)
    · exact h1 i j (by rcases hv with h | h <;> (left; omega)) hh

theorem RInv.next {nm : Nat → ByteArray} {rl : Nat → Nat} {rn : Nat → Nat → ByteArray} {br : Nat → Nat} {k : Nat} {G : ByteArray → ByteArray → Value} (h : RInv nm rl rn br k (rl k) G) : RInv nm rl rn br (k + 1) 0 G := by
  intro s t
  rcases h s t with ⟨i, j, hv, hh⟩ | ⟨h1, h2⟩
  · exact Or.inl ⟨i, j, by rcases hv with h | h <;> (left; omega), hh⟩
  · refine Or.inr ⟨fun i j hv hh => ?_, h2⟩
    refine h1 i j ?_ hh
    rcases hv with hv | hv
    · by_cases e : i = k
      · subst e; exact Or.inr ⟨rfl, hh.jlt⟩
      · left; omega
    · omega

theorem RInv.keep {nm : Nat → ByteArray} {rl : Nat → Nat} {rn : Nat → Nat → ByteArray} {br : Nat → Nat} {k q : Nat} {G : ByteArray → ByteArray → Value} (h : RInv nm rl rn br k q G) (hne : G (nm k) (rn k q) ≠ .pointer none) : RInv nm rl rn br k (q + 1) G := by
  intro s t
  rcases h s t with ⟨i, j, hv, hh⟩ | ⟨h1, h2⟩
  · exact Or.inl ⟨i, j, Or.elim hv Or.inl (fun h => Or.inr ⟨h.1, by omega⟩), hh⟩
  · refine Or.inr ⟨fun i j hv hh => ?_, h2⟩
    by_cases e : i = k ∧ j = q
    · obtain ⟨rfl, rfl⟩ := e
      rw [hh.itype, hh.jname] at hne
      exact hne h2
    · refine h1 i j ?_ hh
      rcases hv with hv | hv
      · exact Or.inl hv
      · right; omega

theorem least {p : Nat → Prop} : ∀ n, p n → ∃ m, m ≤ n ∧ p m ∧ ∀ m', m' < m → ¬ p m'
  | 0, h => ⟨0, Nat.le_refl _, h, fun m' hm => absurd hm (by omega)⟩
  | n + 1, h => by
    by_cases hx : ∃ m, m ≤ n ∧ p m
    · obtain ⟨m, hm, hp⟩ := hx
      have : ∀ m, m ≤ n → p m → ∃ m0, m0 ≤ m ∧ p m0 ∧ ∀ m', m' < m0 → ¬ p m' := by
        intro m
        induction m using Nat.strongRecOn with
        | ind m ih =>
          intro hm hp
          by_cases hy : ∃ m', m' < m ∧ p m'
          · obtain ⟨m', h1, h2⟩ := hy
            obtain ⟨m0, h3, h4⟩ := ih m' h1 (by omega) h2
            exact ⟨m0, by omega, h4⟩
          · exact ⟨m, Nat.le_refl _, hp, fun m' h1 h2 => hy ⟨m', h1, h2⟩⟩
      obtain ⟨m0, h1, h2⟩ := this m hm hp
      exact ⟨m0, by omega, h2⟩
    · exact ⟨n + 1, Nat.le_refl _, h, fun m' h1 h2 => hx ⟨m', by omega, h2⟩⟩

theorem RInv.add {nm : Nat → ByteArray} {rl : Nat → Nat} {rn : Nat → Nat → ByteArray} {br : Nat → Nat} {k q : Nat} {G : ByteArray → ByteArray → Value} (h : RInv nm rl rn br k q G) (hq : q < rl k)
    (hfirst : ∀ i, i < k → nm i ≠ nm k) (hnil : G (nm k) (rn k q) = .pointer none) (G' : ByteArray → ByteArray → Value) (h1 : G' (nm k) (rn k q) = Pt (br k) (q * 3)) (h2 : ∀ x y, (x, y) ≠ (nm k, rn k q) → G' x y = G x y) : RInv nm rl rn br k (q + 1) G' := by
  have hhit : Hit1 nm rl rn (nm k) (rn k q) k q := by
    refine ⟨rfl, hfirst, hq, rfl, fun j' hj' e => ?_⟩
    obtain ⟨m, hm, e1, e2⟩ := least (p := fun j => rn k j = rn k q) j' e
    rcases h (nm k) (rn k q) with ⟨i, j, hv, hh, hG⟩ | ⟨hno, _⟩
    · rw [hnil] at hG; cases hG
    · exact hno k m (Or.inr ⟨rfl, by omega⟩) ⟨rfl, hfirst, by omega, e1, e2⟩
  intro s t
  by_cases e : (s, t) = (nm k, rn k q)
  · simp only [Prod.mk.injEq] at e
    obtain ⟨rfl, rfl⟩ := e
    exact Or.inl ⟨k, q, Or.inr ⟨rfl, by omega⟩, hhit, h1⟩
  · rw [h2 s t e]
    rcases h s t with ⟨i, j, hv, hh⟩ | ⟨h1, h2⟩
    · exact Or.inl ⟨i, j, Or.elim hv Or.inl (fun h => Or.inr ⟨h.1, by omega⟩), hh⟩
    · refine Or.inr ⟨fun i j hv hh => ?_, h2⟩
      by_cases e2 : i = k ∧ j = q
      · obtain ⟨rfl, rfl⟩ := e2
        exact e (by rw [hh.itype, hh.jname])
      · refine h1 i j ?_ hh
        rcases hv with hv | hv
        · exact Or.inl hv
        · right; omega

theorem RInv.hit {nm : Nat → ByteArray} {rl : Nat → Nat} {rn : Nat → Nat → ByteArray} {br : Nat → Nat} {len : Nat} {G : ByteArray → ByteArray → Value} (h : RInv nm rl rn br len 0 G) (s t : ByteArray) :
    (∃ i j, Hit len nm rl rn s t i j ∧ G s t = Pt (br i) (j * 3)) ∨ ((∀ i j, ¬ Hit len nm rl rn s t i j) ∧ G s t = .pointer none) := by
  rcases h s t with ⟨i, j, hv, hh, hG⟩ | ⟨h1, h2⟩
  · exact Or.inl ⟨i, j, ⟨by rcases hv with h | h <;> omega, hh.itype, hh.ifirst, hh.jlt, hh.jname, hh.jfirst⟩, hG⟩
  · exact Or.inr ⟨fun i j hh => h1 i j (Or.inl hh.ilt) ⟨hh.itype, hh.ifirst, hh.jlt, hh.jname, hh.jfirst⟩, h2⟩
end Go.Proofs.Qxb6616336aFmt
