import Derived.Test.Qxb6616506aDoorB
import Derived.Deep.RegionWith
import Derived.Deep.RegionHeld3
import Derived.Deep.DeepFit
import Derived.LaidEql
namespace Go.Proofs.Qxb6616506aDoor
open Go.RowKit

/-- The reader and what it stands on; nothing older has turned. -/
structure St (w0 w : World) (dv : Value) (d : Nat) (z : Nat → Int) (bb bh pos : Nat) (bv : Value) : Prop where
  bel : Below w0.heap.size w0 w
  dat : DataAt w w0.heap.size dv d z
  rb : ∃ pr : Int, w.heap[bb]? = some (.cells #[dv, .int .i64 pos, .int .i64 pr] 46 (0, 0))
  rh : w.heap[bh]? = some (.cells #[.iface 35 (.pointer (some ⟨bb, 0, none⟩)), bv] 41 (0, 0))
  bge : w0.heap.size ≤ bb
  hge : w0.heap.size ≤ bh

/-- The buffer while it is filled. -/
def BufF (w : World) (B : Nat) (dv bv : Value) (n cap : Nat) (z : Nat → Int) : Prop :=
  (bv = .slice none 0 0 ∧ n = 0 ∧ cap = 0) ∨ ∃ g cs, bv = .slice (some ⟨g, 0, none⟩) n cap ∧ B ≤ g ∧ dv.ownBlock ≠ some g ∧ w.heap[g]? = some (.cells cs 5 (0, 0)) ∧ cs.size = cap ∧ n ≤ cap ∧ Seg cs 0 n z 0

theorem St.neq {w0 w : World} {dv : Value} {d : Nat} {z : Nat → Int} {bb bh pos : Nat} {bv : Value} (S : St w0 w dv d z bb bh pos bv) : bb ≠ bh := by
  intro e
  obtain ⟨pr, h⟩ := S.rb
  rw [e, S.rh] at h
  simp at h

theorem DataAt.same {w w' : World} {B : Nat} {dv : Value} {d : Nat} {z : Nat → Int} (h : DataAt w B dv d z) (hs : ∀ bd, dv.ownBlock = some bd → w'.heap[bd]? = w.heap[bd]?) : DataAt w' B dv d z := by
  rcases h with h | ⟨bd, cs, rfl, hb, hr, r⟩
  · exact Or.inl h
  · exact Or.inr ⟨bd, cs, rfl, hb, (hs bd rfl).trans hr, r⟩

theorem DataAt.lt {w : World} {B : Nat} {dv : Value} {d : Nat} {z : Nat → Int} (h : DataAt w B dv d z) (bd : Nat) (hb : dv.ownBlock = some bd) : bd < w.heap.size ∧ ∃ cs, w.heap[bd]? = some (.cells cs 5 (0, 0)) := by
  rcases h with ⟨rfl, _⟩ | ⟨bd', cs, rfl, _, hr, _⟩
  · cases hb
  · simp only [Value.ownBlock, Option.some.injEq] at hb
    subst hb
    exact ⟨(Array.getElem?_eq_some_iff.1 hr).1, cs, hr⟩

theorem make_run (w : World) (n c : Nat) (hnc : n ≤ c) (hc : c ≤ 1073741824) :
    ∃ Z : Array Value, (Instr.makeSlice 22 (.int .i64 (n : Int)) (.int .i64 (c : Int))).run Tryd.prog w = .ok (.slice (some ⟨w.heap.size, 0, none⟩) n c) (w.alloc (.cells Z 5)) ∧ Z.size = c := by
  obtain ⟨i0, hi, hz0, hz1, hz2⟩ := info_parts Tryd.info5
  have h := run_make (P := Tryd.prog) w 22 5 i0 _ Tryd.underlying22 hi hz0 .i64 .i64 n c (by omega) (by omega) (by rw [hz2]; omega) (by omega)
  refine ⟨_, h, ?_⟩
  rw [size_madeCells, hz1]
  simp

/-- The copy of the old buffer into the new. -/
theorem copyBuf_run (w : World) (ty : TypeId) (B : Nat) (dv bv : Value) (n cap : Nat) (z : Nat → Int) (g c : Nat) (row : Array Value) (hb : BufF w B dv bv n cap z) (hg : w.heap[g]? = some (.cells row 5 (0, 0))) (hn : n ≤ row.size) :
    ∃ row', (Builtin.copy_ #[22, 22] ty #[.slice (some ⟨g, 0, none⟩) n c, bv]).run Tryd.prog w = .ok (.int .i64 (n : Int)) (w.setRow g row') ∧ row'.size = row.size ∧ Seg row' 0 n z 0 := by
  rcases hb with ⟨rfl, rfl, rfl⟩ | ⟨g0, cs, rfl, _, _, hr, hcs, hnc, hseg⟩
  · refine ⟨row, ?_, rfl, fun i hi => absurd hi (by omega)⟩
    rw [setRow_self w g row 5 _ hg]
    exact run_copy_none (P := Tryd.prog) w 22 22 ty 5 _ none 0 c 0 0 Tryd.underlying22 (by kernel_rfl) rfl
  · obtain ⟨row', h1, h2, h3, _⟩ := copy_run w ty g 0 n c g0 0 n cap row z 0 n (by simp) hg (fun j hj => by
      rw [cell_of_row w g0 (0 + j) cs 5 _ hr]
      exact hseg j hj) (by omega)
    exact ⟨row', h1, h2, h3⟩

theorem method_read (a : Addr) (w : World) : (method 168 35 (.pointer (some a)) "Read").run Tryd.prog w = .ok (32, .pointer (some a)) w := by kernel_rfl
theorem nil_ahead (a : Addr) (w : World) : (nilAhead 168 35 (.pointer (some a)) "Read").run Tryd.prog w = .ok (some false) w := by kernel_rfl
end Go.Proofs.Qxb6616506aDoor
