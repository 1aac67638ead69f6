import Derived.Test.Qxb6616580aC
import Derived.Deep.RegionHeld3
import Derived.Laws.StructEq
import Derived.LaidEqlPtr
namespace Go.Proofs.Qxb6616580a
open Go.RowKit

theorem stood30 : Try.prog.stoodInHeld 30 = false := by kernel_rfl
theorem nil_same (wx : World) : (Op.equalIn 9999 28 (.pointer none) (.pointer none)).run Try.prog wx = .ok true wx := by
  have h2 : ∀ d wx, (Op.equalIn (d + 1) 28 (.pointer none) (.pointer none)).run Try.prog wx = .ok true wx := by
    intro d wx
    simp [Op.equalIn, run_underlying Try.underlying28]
  exact h2 9998 wx

theorem time_same (x d : Int) (wx : World) : (binOp .neq 30 (.agg #[.int .u64 x, .int .i64 d, .pointer none]) (.agg #[.int .u64 x, .int .i64 d, .pointer none])).run Try.prog wx = .ok (.bool false) wx := by
  have h1 : Try.prog.stoodInHeld 30 = false := by kernel_rfl
  have h2 : ∀ d wx, (Op.equalIn (d + 1) 28 (.pointer none) (.pointer none)).run Try.prog wx = .ok true wx := by
    intro d wx
    simp [Op.equalIn, run_underlying Try.underlying28]
  rw [run_neq_struct]
  simp [go_sem, h1, h2 9998]

/-- The second announcement stands, and nothing old has turned. -/
def Keep (w : World) (g : Nat) (x3 : Nat) (d3 : Int) (x4 : Nat) (d4 : Int) (wx : World) : Prop := wx.heap[g]? = some (.cells (annCells x3 d3 x4 d4) 44 (0, 0)) ∧ Below w.heap.size w wx

theorem Keep.drew {w : World} {g x3 x4 : Nat} {d3 d4 : Int} {wx : World} (h : Keep w g x3 d3 x4 d4 wx) : Keep w g x3 d3 x4 d4 wx.drew := ⟨h.1, h.2.drew⟩
theorem Keep.drewN {w : World} {g x3 x4 : Nat} {d3 d4 : Int} {wx : World} (h : Keep w g x3 d3 x4 d4 wx) (n : Nat) : Keep w g x3 d3 x4 d4 (wx.drewN n) := ⟨h.1, below_drewN h.2 n⟩

theorem Keep.cells {w : World} {g x3 x4 : Nat} {d3 d4 : Int} {wx : World} (h : Keep w g x3 d3 x4 d4 wx) : wx.cell? ⟨g, 7, none⟩ = some (.int .u64 (x3 : Int)) ∧ wx.cell? ⟨g, 8, none⟩ = some (.int .i64 d3) ∧ wx.cell? ⟨g, 9, none⟩ = some (.pointer none) ∧
    wx.cell? ⟨g, 10, none⟩ = some (.int .u64 (x4 : Int)) ∧ wx.cell? ⟨g, 11, none⟩ = some (.int .i64 d4) ∧ wx.cell? ⟨g, 12, none⟩ = some (.pointer none) := by
  refine ⟨?_, ?_, ?_, ?_, ?_, ?_⟩
  · simpa [annCells] using cell_of_row wx g 7 _ _ _ h.1
  · simpa [annCells] using cell_of_row wx g 8 _ _ _ h.1
  · simpa [annCells] using cell_of_row wx g 9 _ _ _ h.1
  · simpa [annCells] using cell_of_row wx g 10 _ _ _ h.1
  · simpa [annCells] using cell_of_row wx g 11 _ _ _ h.1
  · simpa [annCells] using cell_of_row wx g 12 _ _ _ h.1

theorem timeAt_keep {w : World} {g x3 x4 : Nat} {d3 d4 : Int} {n : Int} {x : Nat} {d : Int} (q : ∀ w, Calls Try.prog 7 #[.int .i64 n] w (Post7 x d w)) (wx : World) (h : Keep w g x3 d3 x4 d4 wx) :
    Calls Try.prog 7 #[.int .i64 n] wx fun e w' => e = .returned (.agg #[.int .u64 (x : Int), .int .i64 d, .pointer none]) ∧ Keep w g x3 d3 x4 d4 w' :=
  (q wx).mono fun _ _ ⟨he, hb⟩ => ⟨he, (hb.block g (Array.getElem?_eq_some_iff.1 h.1).1).trans h.1, h.2.trans (hb.mono h.2.size)⟩

theorem Try.info30 : (Try.prog.info? 30).map (fun i => i.size) = some 3 := by kernel_rfl

theorem ptr_other (g1 g2 o1 o2 : Nat) (c1 c2 : Array Value) (w : World) (hne : g1 ≠ g2) (h1 : w.heap[g1]? = some (.cells c1 44 (0, 0))) (h2 : w.heap[g2]? = some (.cells c2 44 (0, 0))) :
    (binOp .eql 24 (.pointer (some ⟨g1, o1, none⟩)) (.pointer (some ⟨g2, o2, none⟩))).run Try.prog w = .ok (.bool false) w := by
  obtain ⟨j, hj, hs⟩ := Option.map_eq_some_iff.1 Try.info30
  exact run_eql_ptr_other w Try.underlying24 hj (by rw [hs]; omega) (fun h => hne (by injection h)) h1 h2
end Go.Proofs.Qxb6616580a
