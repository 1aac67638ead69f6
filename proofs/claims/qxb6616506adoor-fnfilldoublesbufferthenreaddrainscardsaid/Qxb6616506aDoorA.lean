import Derived.Test.Qxb6616506aDoorRows
import Derived.WalkKit
import Derived.WalkSpells
import Derived.WalkLawsBesides
import Derived.RegionTactic
import Derived.Deep.QuietTactic
import Derived.BigQuiet
import Derived.Laws.CopyOwn
namespace Go.Proofs.Qxb6616506aDoor
open Go.RowKit

/-- n cells from place o on hold the bytes z k, z (k + 1), .. -/
def Seg (cs : Array Value) (o n : Nat) (z : Nat → Int) (k : Nat) : Prop := ∀ i, i < n → cs[o + i]? = some (.int .u8 (z (k + i)))

/-- A slice of bytes that came in. -/
def BytesAt (w : World) (a : Option Addr) (len : Nat) (z : Nat → Int) : Prop :=
  len = 0 ∨ ∃ b off, a = some ⟨b, off, none⟩ ∧ b < w.heap.size ∧ ∀ j, j < len → w.cell? ⟨b, off + j, none⟩ = some (.int .u8 (z j))

/-- The data's clone. -/
def DataAt (w : World) (B : Nat) (dv : Value) (d : Nat) (z : Nat → Int) : Prop :=
  (dv = .slice none 0 0 ∧ d = 0) ∨ ∃ bd cs, dv = .slice (some ⟨bd, 0, none⟩) d d ∧ B ≤ bd ∧ w.heap[bd]? = some (.cells cs 5 (0, 0)) ∧ cs.size = d ∧ Seg cs 0 d z 0

theorem Tryd.info5 : (Tryd.prog.info? 5).map (fun i => (i.zero, i.size, i.bytes)) = some (some (.int .u8 0), 1, 1) := by kernel_rfl

set_option maxHeartbeats 400000 in
theorem zzBytes_any (a : Option Addr) (len cap : Nat) (m k : Int) (w : World) (hl : len ≤ 9223372036854775807) :
    Calls Tryd.prog 4 #[.slice a len cap, .int .i64 m, .int .i64 k] w fun e w' => e = .returned (.bool (decide (len ≤ 1048576))) ∧ w' = w := by
  by_cases h : len ≤ 1048576
  · go_enter Tryd.func4, Tryd.ntmps4
    go_wp2
    go_ret
    exact ⟨by simp [h], rfl⟩
  · have h' : 1048576 < len := by omega
    go_enter Tryd.func4, Tryd.ntmps4
    go_wp2
    go_ret
    exact ⟨by simp [h], rfl⟩

set_option maxHeartbeats 400000 in
theorem min_any (a b : Int) (w : World) :
    Calls Tryd.prog 8 #[.int .i64 a, .int .i64 b] w fun e w' => e = .returned (.int .i64 (if a < b then a else b)) ∧ w' = w := by
  by_cases h : a < b
  · go_enter Tryd.func8, Tryd.ntmps8
    go_wp2
    go_ret
    exact ⟨rfl, rfl⟩
  · go_enter Tryd.func8, Tryd.ntmps8
    go_wp2
    go_ret
    exact ⟨rfl, rfl⟩

set_option maxHeartbeats 400000 in
theorem buffered_any (bh : Nat) (a : Option Addr) (len cap : Nat) (w : World) (h1 : w.cell? ⟨bh, 1, none⟩ = some (.slice a len cap)) :
    Calls Tryd.prog 9 #[.pointer (some ⟨bh, 0, none⟩)] w fun e w' => e = .returned (.int .i64 len) ∧ w' = w := by
  go_enter Tryd.func9, Tryd.ntmps9
  go_wp2
  go_ret
  exact ⟨rfl, rfl⟩

/-- What 'zzCloneBytes' leaves. -/
def Post5 (len : Nat) (z : Nat → Int) (w : World) (e : Ending) (w' : World) : Prop := ∃ dv, e = .returned dv ∧ Below w.heap.size w w' ∧ DataAt w' w.heap.size dv len z

structure Inv5 (w wr : World) (g len k : Nat) (z : Nat → Int) (cs : Array Value) : Prop where
  bel : Below w.heap.size w wr
  gge : w.heap.size ≤ g
  row : wr.heap[g]? = some (.cells cs 5 (0, 0))
  size : cs.size = len
  seg : Seg cs 0 k z 0

theorem Inv5.step {w wr : World} {g len k : Nat} {z : Nat → Int} {cs : Array Value} (I : Inv5 w wr g len k z cs) (hk : k < len) :
    ∃ cs', Inv5 w (wr.setCell ⟨g, k, none⟩ (.int .u8 (z k))) g len (k + 1) z cs' := by
  have h1 := heap_setCell_same wr g k cs 5 (.int .u8 (z k)) I.row
  refine ⟨_, ⟨I.bel.setCell I.gge _, I.gge, h1, by simpa using I.size, fun i hi => ?_⟩⟩
  rw [Array.getElem?_setIfInBounds]
  by_cases e : k = 0 + i
  · rw [if_pos e, if_pos (by have := I.size; omega)]
    have : i = k := by omega
    subst this
    simp
  · rw [if_neg e]
    exact I.seg i (by omega)

theorem Inv5.facts {w wr : World} {g len k : Nat} {z : Nat → Int} {cs : Array Value} (I : Inv5 w wr g len k z cs) (hk : k < len) :
    (∃ x, wr.cell? ⟨g, k, none⟩ = some x) ∧ wr.frozen? ⟨g, k, none⟩ = false := by
  refine ⟨⟨cs[k]'(by have := I.size; omega), ?_⟩, frozen_of_row wr _ k _ _ I.row⟩
  rw [cell_of_row wr _ k _ _ _ I.row]
  exact Array.getElem?_eq_getElem (by have := I.size; omega)

theorem made_row {w1 : World} {B g len : Nat} {xs : List Value} (hown : w1.ownsRow B 5 1 (.slice (some ⟨g, 0, none⟩) len len) len xs) : ∃ cs, w1.heap[g]? = some (.cells cs 5 (0, 0)) ∧ cs.size = len := by
  rcases hown.2 with ⟨h, _⟩ | ⟨g', cap, cur, hv, _, hh, _, _, hcs, _⟩
  · cases h
  · simp only [Value.slice.injEq, Option.some.injEq, Addr.mk.injEq, and_true, true_and] at hv
    obtain ⟨h1, h2⟩ := hv
    subst h1 h2
    exact ⟨cur, hh, by omega⟩

theorem Inv5.post {w wr : World} {g len : Nat} {z : Nat → Int} {cs : Array Value} (I : Inv5 w wr g len len z cs) : Post5 len z w (.returned (.slice (some ⟨g, 0, none⟩) len len)) wr :=
  ⟨_, rfl, I.bel, Or.inr ⟨g, cs, rfl, I.gge, I.row, I.size, I.seg⟩⟩

set_option maxRecDepth 100000 in
set_option maxHeartbeats 400000 in
theorem clone_some (ad : Addr) (len cap : Nat) (z : Nat → Int) (w : World) (hl : len ≤ 1048576) (hc : BytesAt w (some ad) len z) :
    Calls Tryd.prog 5 #[.slice (some ad) len cap] w (Post5 len z w) := by
  obtain ⟨i0, hi, hz0, hz1, hz2⟩ := info_parts Tryd.info5
  have hnil := fun wx => Lib.run_eql_slice_nil (P := Tryd.prog) wx 22 5 (some ad) len cap 0 0 Tryd.underlying22
  rcases hc with rfl | ⟨b, off, hab, hbl, hcell⟩
  · go_enter Tryd.func5, Tryd.ntmps5
    go_wp2_with (at_make; refine wpList_make_full _ rfl _ _ 22 rfl w.heap.size 5 i0 _ 1 Tryd.underlying22 hi hz0 hz1 _ _ _ _ 0 rfl rfl rfl rfl (by omega) (by unfold maxLen; omega) (by simp) ?_; intro w1 hown hgrow)
    obtain ⟨cs, hrow, hsz⟩ := made_row hown
    have I : Inv5 w w1 w.heap.size 0 0 z cs := ⟨(Below.refl _ _).grown hgrow (Nat.le_refl _) (fun k h => by cases h), Nat.le_refl _, hrow, hsz, fun i hi => absurd hi (by omega)⟩
    clear hown hgrow hrow hnil
    refine wp_loop_rounds 1 ?_
    rw [rounds_succ]
    go_wp2_with fail
    go_ret
    exact I.post
  · simp only [Option.some.injEq] at hab
    subst hab
    go_enter Tryd.func5, Tryd.ntmps5
    go_wp2_with (at_make; refine wpList_make_full _ rfl _ _ 22 rfl w.heap.size 5 i0 _ 1 Tryd.underlying22 hi hz0 hz1 _ _ _ _ len rfl rfl rfl rfl (by rw [hz2]; omega) (by unfold maxLen; omega) (by simp) ?_; intro w1 hown hgrow)
    obtain ⟨cs, hrow, hsz⟩ := made_row hown
    have I : Inv5 w w1 w.heap.size len 0 z cs := ⟨(Below.refl _ _).grown hgrow (Nat.le_refl _) (fun k h => by cases h), Nat.le_refl _, hrow, hsz, fun i hi => absurd hi (by omega)⟩
    clear hown hgrow hrow hnil
    go_loopw [4] (fun i wr => ∃ (k : Nat) (cs : Array Value), k ≤ len ∧ i = .int .i64 k ∧ Inv5 w wr w.heap.size len k z cs) (fun i _ => len - (intOf i).toNat)
    case atStart => exact ⟨0, cs, Nat.zero_le _, rfl, I⟩
    case round =>
      clear I hsz
      obtain ⟨k, cs, hk, rfl, J⟩ := hrel
      by_cases hlt : k < len
      · have hck := (J.bel.cell (p := ⟨b, off + k, none⟩) hbl).trans (hcell k hlt)
        obtain ⟨⟨x0, e0⟩, z0⟩ := J.facts hlt
        clear hcell
        go_wp2_with fail
        go_roundw
        case rel =>
          obtain ⟨cs', J'⟩ := J.step hlt
          exact ⟨k + 1, cs', by omega, by go_num, J'⟩
        case measure => simp [intOf]; omega
      · obtain rfl : k = len := by omega
        clear hcell
        go_wp2_with fail
        go_ret
        exact J.post

set_option maxHeartbeats 400000 in
theorem clone_nil (z : Nat → Int) (w : World) : Calls Tryd.prog 5 #[.slice none 0 0] w (Post5 0 z w) := by
  have hnil := fun wx => Lib.run_eql_slice_nil (P := Tryd.prog) wx 22 5 none 0 0 0 0 Tryd.underlying22
  go_enter Tryd.func5, Tryd.ntmps5
  go_wp2
  go_ret
  exact ⟨_, rfl, Below.refl _ _, Or.inl ⟨rfl, rfl⟩⟩

set_option maxHeartbeats 400000 in
theorem newReader_any (a : Option Addr) (len cap : Nat) (w : World) :
    Calls Tryd.prog 6 #[.slice a len cap] w fun e w' => e = .returned (.pointer (some ⟨w.heap.size + 1, 0, none⟩)) ∧
      w' = (w.alloc (.cells #[.slice a len cap, .int .i64 0, .int .i64 (-1)] 46)).alloc (.cells #[.iface 35 (.pointer (some ⟨w.heap.size, 0, none⟩)), .slice none 0 0] 41) := by
  go_enter Tryd.func6, Tryd.ntmps6
  go_wp2
  go_ret
  exact ⟨rfl, rfl⟩

/-- Slices of the same bytes. -/
def SliceAt (w : World) (a : Option Addr) (n : Nat) (z : Nat → Int) (k : Nat) : Prop := n = 0 ∨ ∃ b off, a = some ⟨b, off, none⟩ ∧ ∀ j, j < n → w.cell? ⟨b, off + j, none⟩ = some (.int .u8 (z (k + j)))

set_option maxRecDepth 100000 in
set_option maxHeartbeats 400000 in
theorem same_any (a b : Option Addr) (n ca cb : Nat) (z : Nat → Int) (k : Nat) (w : World) (hn : n ≤ 1048576) (ha : SliceAt w a n z k) (hb : SliceAt w b n z k) :
    Calls Tryd.prog 15 #[.slice a n ca, .slice b n cb] w fun e w' => e = .returned (.bool true) ∧ ∃ q, w' = w.drewN q := by
  have hbeq : ((n : Int) != (n : Int)) = false := by simp
  rcases ha with rfl | ⟨b1, o1, rfl, h1⟩
  · go_enter Tryd.func15, Tryd.ntmps15
    go_wp2_with fail
    refine wp_loop_rounds 1 ?_
    rw [rounds_succ]
    go_wp2_with fail
    go_ret
    exact ⟨rfl, 0, rfl⟩
  · rcases hb with rfl | ⟨b2, o2, rfl, h2⟩
    · go_enter Tryd.func15, Tryd.ntmps15
      go_wp2_with fail
      refine wp_loop_rounds 1 ?_
      rw [rounds_succ]
      go_wp2_with fail
      go_ret
      exact ⟨rfl, 0, rfl⟩
    · go_enter Tryd.func15, Tryd.ntmps15
      go_wp2_with fail
      go_loopw [5] (fun i wr => ∃ (q j : Nat), j ≤ n ∧ i = .int .i64 j ∧ wr = w.drewN q) (fun i _ => n - (intOf i).toNat)
      case atStart => exact ⟨0, 0, Nat.zero_le _, rfl, rfl⟩
      case round =>
        obtain ⟨q, j, hj, rfl, rfl⟩ := hrel
        by_cases hlt : j < n
        · have c1 := h1 j hlt
          have c2 := h2 j hlt
          have hx : ((z (k + j)) != (z (k + j))) = false := by simp
          clear h1 h2
          go_wp2_with fail
          go_quiet (fail)
          go_wp2_with fail
          go_roundw
          case rel => exact ⟨q + nq, j + 1, by omega, by go_num, by simp [World.drewN]⟩
          case measure => simp [intOf]; omega
        · go_wp2_with fail
          go_ret
          exact ⟨rfl, q, rfl⟩
end Go.Proofs.Qxb6616506aDoor
