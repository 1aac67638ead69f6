import Derived.Test.Qxb6616513aE
import Derived.OwnWalk
namespace Go.Proofs.Qxb6616513a
open Go.RowKit

/-- A slice of values: each of its cells, in a block below B. -/
def ValsAt (w : World) (B : Nat) (a : Option Addr) (n : Nat) (v : Nat → Value) : Prop := n = 0 ∨ ∃ b off, a = some ⟨b, off, none⟩ ∧ b < B ∧ ∀ j, j < n → w.cell? ⟨b, off + j, none⟩ = some (v j)

theorem ValsAt.below {w w' : World} {B : Nat} {a : Option Addr} {n : Nat} {v : Nat → Value} (h : ValsAt w B a n v) (hb : Below B w w') : ValsAt w' B a n v := by
  rcases h with h | ⟨b, off, rfl, hlt, hc⟩
  · exact Or.inl h
  · exact Or.inr ⟨b, off, rfl, hlt, fun j hj => (hb.cell (p := ⟨b, off + j, none⟩) hlt).trans (hc j hj)⟩

theorem ValsAt.mono {w : World} {B B' : Nat} {a : Option Addr} {n : Nat} {v : Nat → Value} (h : ValsAt w B a n v) (hb : B ≤ B') : ValsAt w B' a n v := by
  rcases h with h | ⟨b, off, rfl, hlt, hc⟩
  · exact Or.inl h
  · exact Or.inr ⟨b, off, rfl, by omega, hc⟩

theorem Try.info2 : (Try.prog.info? 2).map (fun i => (i.zero, i.size, i.bytes)) = some (some (.int .i64 0), 1, 8) := by kernel_rfl
theorem Try.info32 : (Try.prog.info? 32).map (fun i => (i.zero, i.size, i.bytes)) = some (some (.float .f64 0), 1, 8) := by kernel_rfl
theorem Try.info4 : (Try.prog.info? 4).map (fun i => (i.zero, i.size, i.bytes)) = some (some (.bool false), 1, 1) := by kernel_rfl

/-- A row of k values. -/
structure RowAt (w : World) (g len : Nat) (t : TypeId) (k : Nat) (v : Nat → Value) (cs : Array Value) : Prop where
  row : w.heap[g]? = some (.cells cs t (0, 0))
  size : cs.size = len
  seg : ∀ j, j < k → cs[j]? = some (v j)

theorem RowAt.lt {w : World} {g len : Nat} {t : TypeId} {k : Nat} {v : Nat → Value} {cs : Array Value} (I : RowAt w g len t k v cs) : g < w.heap.size := (Array.getElem?_eq_some_iff.1 I.row).1

theorem RowAt.same {w w' : World} {g len : Nat} {t : TypeId} {k : Nat} {v : Nat → Value} {cs : Array Value} (I : RowAt w g len t k v cs) (h : w'.heap[g]? = w.heap[g]?) : RowAt w' g len t k v cs := ⟨h.trans I.row, I.size, I.seg⟩

theorem RowAt.cell {w : World} {g len : Nat} {t : TypeId} {k : Nat} {v : Nat → Value} {cs : Array Value} (I : RowAt w g len t k v cs) {j : Nat} (hj : j < k) : w.cell? ⟨g, j, none⟩ = some (v j) := by
  rw [cell_of_row w _ j _ _ _ I.row]; exact I.seg j hj

theorem RowAt.vals {w : World} {g len : Nat} {t : TypeId} {k : Nat} {v : Nat → Value} {cs : Array Value} (I : RowAt w g len t k v cs) (n : Nat) (hn : n ≤ k) : ValsAt w w.heap.size (some ⟨g, 0, none⟩) n v :=
  Or.inr ⟨g, 0, rfl, I.lt, fun j hj => by rw [Nat.zero_add]; exact I.cell (by omega)⟩

theorem RowAt.facts {w : World} {g len : Nat} {t : TypeId} {k : Nat} {v : Nat → Value} {cs : Array Value} (I : RowAt w g len t k v cs) {j : Nat} (hj : j < len) :
    (∃ x, w.cell? ⟨g, j, none⟩ = some x) ∧ w.frozen? ⟨g, j, none⟩ = false := by
  refine ⟨⟨cs[j]'(by have := I.size; omega), ?_⟩, frozen_of_row w _ j _ _ I.row⟩
  rw [cell_of_row w _ j _ _ _ I.row]
  exact Array.getElem?_eq_getElem (by have := I.size; omega)

/-- One value is laid at place j. -/
theorem RowAt.set {w : World} {g len : Nat} {t : TypeId} {k : Nat} {v : Nat → Value} {cs : Array Value} (I : RowAt w g len t k v cs) (j k' : Nat) (hj : j < len) (v' : Nat → Value) (hv : ∀ i, i < k' → i ≠ j → i < k ∧ v' i = v i) :
    ∃ cs', RowAt (w.setCell ⟨g, j, none⟩ (v' j)) g len t k' v' cs' := by
  have h1 := heap_setCell_same w g j cs t (v' j) I.row
  refine ⟨_, ⟨h1, by simpa using I.size, fun i hi => ?_⟩⟩
  rw [Array.getElem?_setIfInBounds]
  by_cases e : j = i
  · subst e
    rw [if_pos rfl, if_pos (by have := I.size; omega)]
  · rw [if_neg e]
    obtain ⟨hk, he⟩ := hv i hi (fun h => e h.symm)
    rw [he]
    exact I.seg i hk

theorem made_rowAt {w1 : World} {B g len : Nat} {t : TypeId} {z : Value} (hz : z.cells = #[z]) (hown : w1.ownsRow B t 1 (.slice (some ⟨g, 0, none⟩) len len) len (madeCells z.cells (len * 1)).toList) : ∃ cs, RowAt w1 g len t len (fun _ => z) cs := by
  have hc : ∀ j, j < len → w1.cell? ⟨g, j, none⟩ = some z := by
    intro j hj
    rw [hown.cellAt j (by omega), hz]
    simp [madeCells, hj, Nat.mod_one]
  rcases hown.2 with ⟨h, _⟩ | ⟨g', cap, cur, hv, _, hh, _, _, hcs, _⟩
  · cases h
  · simp only [Value.slice.injEq, Option.some.injEq, Addr.mk.injEq, and_true, true_and] at hv
    obtain ⟨h1, h2⟩ := hv
    subst h1 h2
    refine ⟨cur, hh, by omega, fun j hj => ?_⟩
    rw [← hc j hj, cell_of_row w1 _ j _ _ _ hh]

/-- What 'slotsOfKeys' answers. -/
def Post24 (start step : Int) (n len : Nat) (z : Nat → Int) (w : World) (e : Ending) (w' : World) : Prop :=
  Below w.heap.size w w' ∧ (e = .returned (.tuple #[.slice none 0 0, .bool false]) ∨
    ∃ (g : Nat) (cs : Array Value) (sl : Nat → Nat), e = .returned (.tuple #[.slice (some ⟨g, 0, none⟩) len len, .bool true]) ∧ w.heap.size ≤ g ∧ RowAt w' g len 2 len (fun j => .int .i64 (sl j : Nat)) cs ∧
      ∀ j, j < len → sl j < n ∧ start + (sl j : Int) * step = z j)

set_option maxRecDepth 100000 in
set_option maxHeartbeats 1000000 in
theorem slots_any (start step : Int) (n : Nat) (a : Option Addr) (len cap : Nat) (z : Nat → Int) (w : World) (hn : n ≤ 65536) (h1 : 1 ≤ step) (h2 : step ≤ 1099511627776) (h3 : -4611686018427387904 ≤ start) (h4 : start ≤ 4611686018427387904)
    (hl : len ≤ 65536) (ha : ValsAt w w.heap.size a len (fun j => .int .i64 (z j))) :
    Calls Try.prog 24 #[.int .i64 start, .int .i64 step, .int .i64 (n : Int), .slice a len cap] w (Post24 start step n len z w) := by
  obtain ⟨i0, hi0, hz0, hz1, hz2⟩ := info_parts Try.info2
  rcases ha with rfl | ⟨b, off, rfl, hblt, hcell⟩
  · go_enter Try.func24, Try.ntmps24
    go_wp2_with (at_make; refine wpList_make_full _ rfl _ _ 26 rfl w.heap.size 2 i0 _ 1 Try.underlying26 hi0 hz0 hz1 _ _ _ _ 0 rfl rfl rfl rfl (by omega) (by unfold maxLen; omega) (by simp) ?_; intro w1 hown hgrow)
    obtain ⟨cs, I⟩ := made_rowAt rfl hown
    have hB : Below w.heap.size w w1 := (Below.refl _ _).grown hgrow (Nat.le_refl _) (fun k h => by cases h)
    clear hown hgrow
    refine wp_loop_rounds 1 ?_
    rw [rounds_succ]
    go_wp2_with fail
    go_ret2
    exact ⟨hB, Or.inr ⟨_, cs, fun _ => 0, rfl, Nat.le_refl _, ⟨I.row, I.size, fun j hj => absurd hj (by omega)⟩, fun j hj => absurd hj (by omega)⟩⟩
  · go_enter Try.func24, Try.ntmps24
    go_wp2_with (at_make; refine wpList_make_full _ rfl _ _ 26 rfl w.heap.size 2 i0 _ 1 Try.underlying26 hi0 hz0 hz1 _ _ _ _ len rfl rfl rfl rfl (by rw [hz2]; omega) (by unfold maxLen; omega) (by simp) ?_; intro w1 hown hgrow)
    obtain ⟨cs, I⟩ := made_rowAt rfl hown
    have hB : Below w.heap.size w w1 := (Below.refl _ _).grown hgrow (Nat.le_refl _) (fun k h => by cases h)
    clear hown hgrow
    obtain ⟨g, hg, hge⟩ : ∃ g, g = w.heap.size ∧ w.heap.size ≤ g := ⟨_, rfl, Nat.le_refl _⟩
    rw [← hg] at I
    rw [← hg]
    clear hg
    go_loopw [11] (fun i wr => ∃ (k : Nat) (cs : Array Value) (sl : Nat → Nat), k ≤ len ∧ i = .int .i64 k ∧ Below w.heap.size w wr ∧ RowAt wr g len 2 k (fun j => .int .i64 (sl j : Nat)) cs ∧ ∀ j, j < k → sl j < n ∧ start + (sl j : Int) * step = z j) (fun i _ => len - (intOf i).toNat)
    case atStart => exact ⟨0, cs, fun _ => 0, Nat.zero_le _, rfl, hB, ⟨I.row, I.size, fun j hj => absurd hj (by omega)⟩, fun j hj => absurd hj (by omega)⟩
    case round =>
      clear I hB
      obtain ⟨k, cs, sl, hk, rfl, hB, J, hs⟩ := hrel
      by_cases hlt : k < len
      · have hck := (hB.cell (p := ⟨b, off + k, none⟩) hblt).trans (hcell k hlt)
        obtain ⟨⟨x0, e0⟩, z0⟩ := J.facts hlt
        have q37 := slotOf_any start step (z k) n wr hn h1 h2 h3 h4
        have HC : Hid (∀ (j : Nat), j < len → w.cell? { block := b, off := off + j } = some (Value.int IntKind.i64 (z j))) := hcell
        have HS : Hid (∀ j, j < k → sl j < n ∧ start + (sl j : Int) * step = z j) := hs
        clear hcell hs
        go_wp2_with fail
        refine q37.mono ?_
        rintro e w' ⟨rfl, rfl | ⟨r, hrn, hre, rfl⟩⟩
        · go_wp2_with fail
          go_ret2
          exact ⟨hB, Or.inl rfl⟩
        · have HE : Hid (start + (r : Int) * step = z k) := hre
          clear hre q37
          go_wp2_with fail
          go_roundw
          case rel =>
            obtain ⟨cs', J'⟩ := J.set k (k + 1) hlt (fun j => .int .i64 (((if j = k then r else sl j) : Nat) : Int)) (fun i hi hne => ⟨by omega, by simp [hne]⟩)
            rw [if_pos rfl] at J'
            refine ⟨k + 1, cs', fun j => if j = k then r else sl j, by omega, by go_num, hB.setCell hge _, J', fun j hj => ?_⟩
            by_cases e : j = k
            · subst e; dsimp only; rw [if_pos rfl]; exact ⟨hrn, HE.out⟩
            · dsimp only; rw [if_neg e]; exact HS.out j (by omega)
          case measure => simp [intOf]; omega
      · obtain rfl : k = len := by omega
        clear hcell
        go_wp2_with fail
        go_ret2
        exact ⟨hB, Or.inr ⟨g, cs, sl, rfl, hge, J, hs⟩⟩
end Go.Proofs.Qxb6616513a
