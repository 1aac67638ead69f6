import Derived.Test.Qxb6616513aT2
namespace Go.Proofs.Qxb6616513a
open Go.RowKit

/-- Two cells an element. -/
def pairs {α : Type} (A B : α → Value) (ls : List α) : List Value := ls.flatMap fun x => [A x, B x]

section
variable {α : Type} (A B : α → Value)
theorem pairs_nil : pairs A B [] = [] := rfl
theorem pairs_cons (x : α) (ls : List α) : pairs A B (x :: ls) = A x :: B x :: pairs A B ls := rfl
theorem pairs_length (ls : List α) : (pairs A B ls).length = ls.length * 2 := by
  induction ls with
  | nil => rfl
  | cons x ls ih => rw [pairs_cons]; simp [ih]; omega
theorem pairs_append (a b : List α) : pairs A B (a ++ b) = pairs A B a ++ pairs A B b := by simp [pairs]
theorem pairs_take (ls : List α) (i : Nat) : (pairs A B ls).take (i * 2) = pairs A B (ls.take i) := by
  induction ls generalizing i with
  | nil => simp [pairs]
  | cons x ls ih =>
    cases i with
    | zero => simp [pairs]
    | succ i => rw [show (i + 1) * 2 = i * 2 + 1 + 1 by omega, pairs_cons, List.take_succ_cons, List.take_succ_cons, ih, List.take_succ_cons, pairs_cons]
theorem pairs_drop (ls : List α) (i : Nat) : (pairs A B ls).drop (i * 2) = pairs A B (ls.drop i) := by
  induction ls generalizing i with
  | nil => simp [pairs]
  | cons x ls ih =>
    cases i with
    | zero => simp [pairs]
    | succ i => rw [show (i + 1) * 2 = i * 2 + 1 + 1 by omega, pairs_cons, List.drop_succ_cons, List.drop_succ_cons, ih, List.drop_succ_cons]
theorem pairs_get0 (ls : List α) (i : Nat) : (pairs A B ls)[i * 2]? = ls[i]?.map A := by
  induction ls generalizing i with
  | nil => simp [pairs]
  | cons x ls ih =>
    cases i with
    | zero => simp [pairs]
    | succ i => rw [show (i + 1) * 2 = i * 2 + 1 + 1 by omega, pairs_cons, List.getElem?_cons_succ, List.getElem?_cons_succ, ih, List.getElem?_cons_succ]
theorem pairs_get1 (ls : List α) (i : Nat) : (pairs A B ls)[i * 2 + 1]? = ls[i]?.map B := by
  induction ls generalizing i with
  | nil => simp [pairs]
  | cons x ls ih =>
    cases i with
    | zero => simp [pairs]
    | succ i => rw [show (i + 1) * 2 + 1 = (i * 2 + 1) + 1 + 1 by omega, pairs_cons, List.getElem?_cons_succ, List.getElem?_cons_succ, ih, List.getElem?_cons_succ]
theorem pairs_set0 (ls : List α) (i : Nat) (x y : α) (hx : ls[i]? = some x) (hB : B y = B x) : (pairs A B ls).set (i * 2) (A y) = pairs A B (ls.set i y) := by
  induction ls generalizing i with
  | nil => simp at hx
  | cons z ls ih =>
    cases i with
    | zero => simp at hx; subst hx; simp [pairs, hB]
    | succ i =>
      simp at hx
      rw [show (i + 1) * 2 = i * 2 + 1 + 1 by omega, pairs_cons, List.set_cons_succ, List.set_cons_succ, ih i hx, List.set_cons_succ, pairs_cons]
theorem pairs_set1 (ls : List α) (i : Nat) (x y : α) (hx : ls[i]? = some x) (hA : A y = A x) : (pairs A B ls).set (i * 2 + 1) (B y) = pairs A B (ls.set i y) := by
  induction ls generalizing i with
  | nil => simp at hx
  | cons z ls ih =>
    cases i with
    | zero => simp at hx; subst hx; simp [pairs, hA]
    | succ i =>
      simp at hx
      rw [show (i + 1) * 2 + 1 = (i * 2 + 1) + 1 + 1 by omega, pairs_cons, List.set_cons_succ, List.set_cons_succ, ih i hx, List.set_cons_succ, pairs_cons]
theorem pairs_one (hA : ∀ x, (A x).oneCell' = true) (hB : ∀ x, (B x).oneCell' = true) (ls : List α) : ∀ u ∈ pairs A B ls, u.oneCell' = true := by
  induction ls with
  | nil => intro u hu; simp [pairs] at hu
  | cons x ls ih =>
    intro u hu
    rw [pairs_cons] at hu
    simp only [List.mem_cons] at hu
    rcases hu with rfl | rfl | hu
    · exact hA x
    · exact hB x
    · exact ih u hu
end

/-- One put in at place i. -/
def ins {α : Type} (i : Nat) (x : α) (l : List α) : List α := l.take i ++ [x] ++ l.drop i
theorem ins_length {α : Type} (i : Nat) (x : α) (l : List α) : (ins i x l).length = l.length + 1 := by
  simp [ins]; omega
theorem pairs_ins {α : Type} (A B : α → Value) (i : Nat) (x : α) (l : List α) : pairs A B (ins i x l) = (pairs A B l).take (i * 2) ++ [A x, B x] ++ (pairs A B l).drop (i * 2) := by
  rw [pairs_take, pairs_drop, ins, pairs_append, pairs_append]; rfl

/-- The tree, by height. -/
def T : Nat → Type
  | 0 => List (Int × Nat)
  | h + 1 => List (Int × T h)

/-- The tree as it lies in memory: a node's block, its slice, its points or kids. -/
def HT : Nat → Type
  | 0 => Nat × Value × List (Int × Nat)
  | h + 1 => Nat × Value × List (Int × HT h)

def blk : (h : Nat) → HT h → Nat
  | 0, t => t.1
  | _ + 1, t => t.1

def er : (h : Nat) → HT h → T h
  | 0, t => t.2.2
  | h + 1, t => t.2.2.map fun k => (k.1, er h k.2)

def encP (ps : List (Int × Nat)) : List Value := pairs (fun p => .int .i64 p.1) (fun p => .float .f64 p.2) ps
def encK (h : Nat) (ks : List (Int × HT h)) : List Value := pairs (fun k => .int .i64 k.1) (fun k => .pointer (some ⟨blk h k.2, 0, none⟩)) ks

/-- The blocks of the tree. -/
def foot : (h : Nat) → HT h → List Nat
  | 0, t => t.1 :: t.2.1.ownBlock.toList
  | h + 1, t => t.1 :: (t.2.1.ownBlock.toList ++ t.2.2.flatMap fun k => foot h k.2)

/-- The tree lies in memory. -/
def At (w : World) : (h : Nat) → HT h → Prop
  | 0, t => (∃ ty, w.heap[t.1]? = some (.cells #[t.2.1, .slice none 0 0] ty (0, 0))) ∧ w.ownsRow 0 63 2 t.2.1 t.2.2.length (encP t.2.2)
  | h + 1, t => (∃ ty, w.heap[t.1]? = some (.cells #[.slice none 0 0, t.2.1] ty (0, 0))) ∧ w.ownsRow 0 84 2 t.2.1 t.2.2.length (encK h t.2.2) ∧ ∀ k ∈ t.2.2, At w h k.2

theorem ownsRow_same {w w' : World} {base : Nat} {e : TypeId} {size : Nat} {v : Value} {n : Nat} {xs : List Value} (h : w.ownsRow base e size v n xs) (hs : ∀ b, v.ownBlock = some b → w'.heap[b]? = w.heap[b]?) : w'.ownsRow base e size v n xs := by
  refine ⟨h.1, ?_⟩
  rcases h.2 with h' | ⟨g, cap, cur, rfl, hb, hg, rest⟩
  · exact Or.inl h'
  · exact Or.inr ⟨g, cap, cur, rfl, hb, (hs g rfl).trans hg, rest⟩

theorem At.same {w w' : World} : ∀ (h : Nat) (t : HT h), At w h t → (∀ b ∈ foot h t, w'.heap[b]? = w.heap[b]?) → At w' h t
  | 0, t, ⟨⟨ty, h1⟩, h2⟩, hs => ⟨⟨ty, (hs _ (by simp [foot])).trans h1⟩, ownsRow_same h2 fun b hb => hs b (by simp [foot, hb])⟩
  | h + 1, t, ⟨⟨ty, h1⟩, h2, h3⟩, hs =>
    ⟨⟨ty, (hs _ (by simp [foot])).trans h1⟩, ownsRow_same h2 fun b hb => hs b (by simp [foot, hb]), fun k hk => At.same h k.2 (h3 k hk) fun b hb => hs b (by
      simp only [foot, List.mem_cons, List.mem_append, List.mem_flatMap]
      exact Or.inr (Or.inr ⟨k, hk, hb⟩))⟩

theorem At.lt {w : World} : ∀ (h : Nat) (t : HT h), At w h t → ∀ b ∈ foot h t, b < w.heap.size
  | 0, t, ⟨⟨ty, h1⟩, h2⟩, b, hb => by
    simp only [foot, List.mem_cons, Option.mem_toList] at hb
    rcases hb with rfl | hb
    · exact (Array.getElem?_eq_some_iff.1 h1).1
    · exact (h2.lt b hb).2
  | h + 1, t, ⟨⟨ty, h1⟩, h2, h3⟩, b, hb => by
    simp only [foot, List.mem_cons, List.mem_append, List.mem_flatMap, Option.mem_toList] at hb
    rcases hb with rfl | hb | ⟨k, hk, hb⟩
    · exact (Array.getElem?_eq_some_iff.1 h1).1
    · exact (h2.lt b hb).2
    · exact At.lt h k.2 (h3 k hk) b hb

theorem blk_mem (h : Nat) (t : HT h) : blk h t ∈ foot h t := by cases h <;> simp [blk, foot]

/-- Outside of F nothing old has turned. -/
structure Keeps (F : List Nat) (w w' : World) : Prop where
  os : w'.os = w.os
  tape : w'.tape = w.tape
  output : w'.output = w.output
  size : w.heap.size ≤ w'.heap.size
  block : ∀ k, k < w.heap.size → k ∉ F → w'.heap[k]? = w.heap[k]?

theorem Keeps.refl (F : List Nat) (w : World) : Keeps F w w := ⟨rfl, rfl, rfl, Nat.le_refl _, fun _ _ _ => rfl⟩
theorem Keeps.trans {F F' : List Nat} {a b c : World} (h : Keeps F a b) (k : Keeps F' b c) (hF : ∀ x ∈ F', x ∈ F ∨ a.heap.size ≤ x) : Keeps F a c :=
  ⟨k.os.trans h.os, k.tape.trans h.tape, k.output.trans h.output, Nat.le_trans h.size k.size, fun i hi hn => (k.block i (Nat.lt_of_lt_of_le hi h.size) (fun hm => by
    rcases hF i hm with h' | h'
    · exact hn h'
    · omega)).trans (h.block i hi hn)⟩
theorem Keeps.mono {F F' : List Nat} {a b : World} (h : Keeps F a b) (hF : ∀ x ∈ F, x ∈ F') : Keeps F' a b := ⟨h.os, h.tape, h.output, h.size, fun k hk hn => h.block k hk fun hm => hn (hF k hm)⟩
theorem Below.keeps {w w' : World} (h : Below w.heap.size w w') (F : List Nat) : Keeps F w w' := ⟨h.os, h.tape, h.output, h.size, fun k hk _ => h.block k hk⟩
theorem grown_keeps {w w' : World} {row : Option Nat} (h : w.grownBy w' row) (F : List Nat) (hr : ∀ k, row = some k → k ∈ F) : Keeps F w w' := ⟨h.os, h.tape, h.output, h.size, fun k hk hn => h.block k hk fun e => hn (hr k e.symm)⟩
theorem setCell_keeps (w : World) (p : Addr) (u : Value) (F : List Nat) (hp : p.block ∈ F) : Keeps F w (w.setCell p u) := ⟨rfl, rfl, rfl, by simp, fun k _ hn => Below.heap_setCell w p u k fun e => hn (e ▸ hp)⟩
theorem alloc_keeps (w : World) (o : Obj) (F : List Nat) : Keeps F w (w.alloc o) := Below.keeps ((Below.refl _ _).alloc (Nat.le_refl _) o) F
theorem Keeps.below {F : List Nat} {w w' : World} (h : Keeps F w w') (B : Nat) (hB : B ≤ w.heap.size) (hF : ∀ x ∈ F, B ≤ x) : Below B w w' := ⟨h.os, h.tape, h.output, h.size, fun k hk => h.block k (by omega) fun hm => by have := hF k hm; omega⟩
theorem Keeps.at {F : List Nat} {w w' : World} (h : Keeps F w w') {n : Nat} {t : HT n} (ha : At w n t) (hd : ∀ b ∈ foot n t, b ∉ F) : At w' n t := At.same n t ha fun b hb => h.block b (At.lt n t ha b hb) (hd b hb)

/-- The times of a row. -/
theorem row_times {α : Type} {A B : α → Value} {f : α → Int} (hA : ∀ x, A x = .int .i64 (f x)) (hB : ∀ x, (B x).oneCell' = true) {w : World} {E : TypeId} {v : Value} {ls : List α} (h : w.ownsRow 0 E 2 v ls.length (pairs A B ls)) :
    ∃ a c, v = .slice a ls.length c ∧ ls.length ≤ c ∧ TimesAt w a ls.length (fun j => (ls[j]?.map f).getD 0) := by
  rcases h.2 with ⟨rfl, hn⟩ | ⟨g, cap, cur, rfl, _, hg, hnc, _⟩
  · exact ⟨none, 0, by rw [hn], by omega, Or.inl hn⟩
  · refine ⟨some ⟨g, 0, none⟩, cap, rfl, hnc, Or.inr ⟨g, 0, rfl, (Array.getElem?_eq_some_iff.1 hg).1, fun j hj => ?_⟩⟩
    have e0 := h.cellAt (j * 2) (by omega)
    have e1 := h.cellAt (j * 2 + 1) (by omega)
    rw [pairs_get0] at e0
    rw [pairs_get1] at e1
    obtain ⟨x, hx⟩ : ∃ x, ls[j]? = some x := ⟨_, List.getElem?_eq_getElem hj⟩
    dsimp only
    rw [hx] at e0 e1 ⊢
    simp only [Option.map_some, Nat.zero_add, Option.getD_some] at e0 e1 ⊢
    exact ⟨by rw [e0, hA], _, e1, hB x⟩

end Go.Proofs.Qxb6616513a
