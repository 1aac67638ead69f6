import Derived.Test.Qxb6616580aB
namespace Go.Proofs.Qxb6616580a
open Go.RowKit

theorem below_drewN {B : Nat} {a w : World} (h : Below B a w) (n : Nat) : Below B a (w.drewN n) := ⟨h.os, h.tape, h.output, h.size, h.block⟩

/-- An announcement's cells. -/
def annCells (x1 : Nat) (d1 : Int) (x2 : Nat) (d2 : Int) : Array Value :=
  #[.int .i64 0, .int .i64 0, .slice none 0 0, .string { data := #[] }, .slice none 0 0, .slice none 0 0, .pointer none, .int .u64 (x1 : Int), .int .i64 d1, .pointer none, .int .u64 (x2 : Int), .int .i64 d2, .pointer none, .slice none 0 0]

def willS : ByteArray := { data := #[119, 105, 108, 108, 66, 101, 82, 101, 118, 111, 107, 101, 100, 65, 116] }
def badS : ByteArray := { data := #[98, 97, 100, 83, 105, 110, 99, 101, 68, 97, 116, 101] }

def Post5 (x1 : Nat) (d1 : Int) (x2 : Nat) (d2 : Int) (w : World) (e : Ending) (w' : World) : Prop :=
  ∃ g, e = .returned (.pointer (some ⟨g, 0, none⟩)) ∧ w.heap.size ≤ g ∧ w'.heap[g]? = some (.cells (annCells x1 d1 x2 d2) 44 (0, 0)) ∧ Below w.heap.size w w'

set_option maxRecDepth 100000 in
set_option maxHeartbeats 1000000 in
theorem new_any (n1 n2 : Int) (x1 x2 : Nat) (d1 d2 : Int) (q1 : ∀ w, Calls Try.prog 7 #[.int .i64 n1] w (Post7 x1 d1 w)) (q2 : ∀ w, Calls Try.prog 7 #[.int .i64 n2] w (Post7 x2 d2 w)) (w : World) :
    Calls Try.prog 5 #[.int .i64 0, .int .i64 n1, .int .i64 n2] w (Post5 x1 d1 x2 d2 w) := by
  go_enter Try.func5, Try.ntmps5
  go_wp2_with fail
  refine (q1 _).mono ?_
  rintro e w1 ⟨rfl, hb1⟩
  clear q1
  go_wp2_with fail
  refine (q2 _).mono ?_
  rintro e w2 ⟨rfl, hb2⟩
  clear q2
  go_wp2_with fail
  go_ret
  have hb : Below w.heap.size w w2 := hb1.trans (hb2.mono hb1.size)
  exact ⟨w2.heap.size, rfl, hb.size, heap_alloc_new w2 _, hb.alloc hb.size _⟩

def Post8 (b : Nat) (w : World) (e : Ending) (w' : World) : Prop := e = .returned (.agg #[.string willS, .pointer (some ⟨b, 7, none⟩), .string badS, .pointer (some ⟨b, 10, none⟩)]) ∧ Below w.heap.size w w'

set_option maxRecDepth 100000 in
set_option maxHeartbeats 1000000 in
theorem times_any (b : Nat) (w : World) :
    Calls Try.prog 8 #[.pointer (some ⟨b, 0, none⟩)] w (Post8 b w) := by
  go_enter Try.func8, Try.ntmps8
  go_wp2_with fail
  go_region
  all_goals
    go_wp2_with fail
    refine bodyPost_ret (v := .agg #[.string willS, .pointer (some ⟨b, 7, none⟩), .string badS, .pointer (some ⟨b, 10, none⟩)]) (by simp [results, Try.f8, go_sem]; exact ⟨rfl, rfl⟩) rfl ⟨rfl, ((Below.refl _ w).alloc (Nat.le_refl _) _).drew⟩

def Post6 (b : Nat) (w : World) (e : Ending) (w' : World) : Prop := e = .returned (.tuple #[.string willS, .pointer (some ⟨b, 7, none⟩), .string badS, .pointer (some ⟨b, 10, none⟩)]) ∧ Below w.heap.size w w'

set_option maxRecDepth 100000 in
set_option maxHeartbeats 1000000 in
theorem zztimes_any (b : Nat) (w : World) :
    Calls Try.prog 6 #[.pointer (some ⟨b, 0, none⟩)] w (Post6 b w) := by
  have q := times_any b w
  go_enter Try.func6, Try.ntmps6
  go_wp2_with fail
  refine q.mono ?_
  rintro e w1 ⟨rfl, hb⟩
  clear q
  go_wp2_with fail
  go_quiet (fail)
  go_wp2_with fail
  refine bodyPost_ret (v := .tuple #[.string willS, .pointer (some ⟨b, 7, none⟩), .string badS, .pointer (some ⟨b, 10, none⟩)]) (by simp [results, Try.f6, go_sem]) rfl ⟨rfl, below_drewN (hb.alloc hb.size _) nq⟩
end Go.Proofs.Qxb6616580a
