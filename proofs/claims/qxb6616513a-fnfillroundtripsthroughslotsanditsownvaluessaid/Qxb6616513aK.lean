import Derived.Test.Qxb6616513aJ
import Derived.Test.Qxb6616513aB
namespace Go.Proofs.Qxb6616513a
open Go.RowKit Go.Shelf

set_option maxHeartbeats 400000 in
theorem zzBytes23 (s t n : Int) (a1 a2 : Option Addr) (l1 c1 l2 c2 : Nat) (w : World) (h1 : l1 ≤ 9223372036854775807) (h2 : l2 ≤ 9223372036854775807) :
    Calls Try.prog 23 #[.int .i64 s, .int .i64 t, .int .i64 n, .slice a1 l1 c1, .slice a2 l2 c2] w fun e w' => e = .returned (.bool (decide (l1 + l2 ≤ 1048576))) ∧ w' = w := by
  by_cases h : l1 ≤ 1048576
  · by_cases h' : l2 ≤ 1048576
    · by_cases h'' : l1 + l2 ≤ 1048576
      · go_enter Try.func23, Try.ntmps23
        go_wp2
        go_ret
        exact ⟨by simp [h''], rfl⟩
      · have h3 : 1048576 < l1 + l2 := by omega
        go_enter Try.func23, Try.ntmps23
        go_wp2
        go_ret
        exact ⟨by simp [h''], rfl⟩
    · have h3 : 1048576 < l2 := by omega
      go_enter Try.func23, Try.ntmps23
      go_wp2
      go_ret
      exact ⟨by simp; omega, rfl⟩
  · have h3 : 1048576 < l1 := by omega
    go_enter Try.func23, Try.ntmps23
    go_wp2
    go_ret
    exact ⟨by simp; omega, rfl⟩

/-- A row copied into a new one of its length. -/
theorem copy_vals (w : World) (T e ty : TypeId) (hT : Try.prog.underlying T = some (.slice e)) (hc : (Try.prog.info? e).map (·.size) = some 1) (g n cap : Nat) (ad : Addr) (sc : Nat) (row : Array Value) (v : Nat → Value)
    (hg : w.heap[g]? = some (.cells row e (0, 0))) (hsrc : ∀ j, j < n → w.cell? (ad.add j) = some (v j)) (h1 : ∀ j, j < n → (v j).oneCell' = true) (hsz : row.size = n) :
    ∃ row', (Builtin.copy_ #[T, T] ty #[.slice (some ⟨g, 0, none⟩) n cap, .slice (some ad) n sc]).run Try.prog w = .ok (.int .i64 (n : Int)) (w.setRow g row') ∧ RowAt (w.setRow g row') g n e n v row' := by
  have hlen : (((List.range n).map fun j => v j)).length = n := by simp
  have hrun := run_copy_row (P := Try.prog) w T T ty e g 0 n cap ad n sc row e ((List.range n).map fun j => v j) hT hc hg (by rw [hlen]; exact (Nat.min_self _).symm)
    (by
      intro j u hj
      rw [List.getElem?_map] at hj
      by_cases hjm : j < n
      · rw [List.getElem?_range hjm] at hj
        simp only [Option.map_some, Option.some.injEq] at hj
        subst hj
        exact hsrc j hjm
      · rw [List.getElem?_eq_none (by simp; omega)] at hj
        simp at hj)
    (by rw [hlen]; omega)
    (by intro u hu; simp only [List.mem_map, List.mem_range] at hu; obtain ⟨j, hj, rfl⟩ := hu; exact h1 j hj)
  rw [hlen] at hrun
  refine ⟨_, hrun, ⟨setRow_heap _ _ _ _ _ _ hg, by simp; omega, fun i hi => ?_⟩⟩
  simp only [List.getElem?_toArray, List.append_assoc]
  rw [List.getElem?_append_right (by simp), List.getElem?_append_left (by simp; omega)]
  simp [hi]

def Post6 (w : World) (e : Ending) (w' : World) : Prop := e = .returned (.bool true) ∧ Below w.heap.size w w'

set_option maxRecDepth 100000 in
set_option maxHeartbeats 1000000 in
theorem f6_guard (start step n : Int) (a1 a2 : Option Addr) (l1 c1 l2 c2 : Nat) (w : World) (k1 : l1 ≤ 9223372036854775807) (k2 : l2 ≤ 9223372036854775807)
    (h : ¬ (l1 = l2 ∧ l1 ≤ 65536 ∧ 0 ≤ n ∧ n ≤ 65536 ∧ 1 ≤ step ∧ step ≤ 1099511627776 ∧ -4611686018427387904 ≤ start ∧ start ≤ 4611686018427387904)) :
    Calls Try.prog 6 #[.int .i64 start, .int .i64 step, .int .i64 n, .slice a1 l1 c1, .slice a2 l2 c2] w (Post6 w) := by
  have q23 := zzBytes23 start step n a1 a2 l1 c1 l2 c2 w k1 k2
  by_cases g1 : ¬ l1 + l2 ≤ 1048576
  · rw [decide_eq_false g1] at q23
    go_enter Try.func6, Try.ntmps6
    go_wp2_with fail
    refine q23.mono ?_
    rintro e w0 ⟨rfl, rfl⟩
    go_wp2_with fail
    go_ret
    exact ⟨rfl, Below.refl _ _⟩
  rw [decide_eq_true (by omega)] at q23
  by_cases g2 : 65536 < l1
  · go_enter Try.func6, Try.ntmps6
    go_wp2_with fail
    refine q23.mono ?_
    rintro e w0 ⟨rfl, rfl⟩
    go_wp2_with fail
    go_ret
    exact ⟨rfl, Below.refl _ _⟩
  by_cases g3 : 65536 < l2
  · go_enter Try.func6, Try.ntmps6
    go_wp2_with fail
    refine q23.mono ?_
    rintro e w0 ⟨rfl, rfl⟩
    go_wp2_with fail
    go_ret
    exact ⟨rfl, Below.refl _ _⟩
  by_cases g5 : ¬ l1 = l2
  · have g5' : ((l1 : Int) != (l2 : Int)) = true := by simp; omega
    go_enter Try.func6, Try.ntmps6
    go_wp2_with fail
    refine q23.mono ?_
    rintro e w0 ⟨rfl, rfl⟩
    go_wp2_with fail
    go_ret
    exact ⟨rfl, Below.refl _ _⟩
  by_cases g6 : n < 0
  · have g5' : ((l1 : Int) != (l2 : Int)) = false := by simp; omega
    go_enter Try.func6, Try.ntmps6
    go_wp2_with fail
    refine q23.mono ?_
    rintro e w0 ⟨rfl, rfl⟩
    go_wp2_with fail
    go_ret
    exact ⟨rfl, Below.refl _ _⟩
  by_cases g7 : 65536 < n
  · have g5' : ((l1 : Int) != (l2 : Int)) = false := by simp; omega
    go_enter Try.func6, Try.ntmps6
    go_wp2_with fail
    refine q23.mono ?_
    rintro e w0 ⟨rfl, rfl⟩
    go_wp2_with fail
    go_ret
    exact ⟨rfl, Below.refl _ _⟩
  by_cases g8 : step < 1
  · have g5' : ((l1 : Int) != (l2 : Int)) = false := by simp; omega
    go_enter Try.func6, Try.ntmps6
    go_wp2_with fail
    refine q23.mono ?_
    rintro e w0 ⟨rfl, rfl⟩
    go_wp2_with fail
    go_ret
    exact ⟨rfl, Below.refl _ _⟩
  by_cases g9 : 1099511627776 < step
  · have g5' : ((l1 : Int) != (l2 : Int)) = false := by simp; omega
    go_enter Try.func6, Try.ntmps6
    go_wp2_with fail
    refine q23.mono ?_
    rintro e w0 ⟨rfl, rfl⟩
    go_wp2_with fail
    go_ret
    exact ⟨rfl, Below.refl _ _⟩
  by_cases g10 : start < -4611686018427387904
  · have g5' : ((l1 : Int) != (l2 : Int)) = false := by simp; omega
    go_enter Try.func6, Try.ntmps6
    go_wp2_with fail
    refine q23.mono ?_
    rintro e w0 ⟨rfl, rfl⟩
    go_wp2_with fail
    go_ret
    exact ⟨rfl, Below.refl _ _⟩
  by_cases g11 : 4611686018427387904 < start
  · have g5' : ((l1 : Int) != (l2 : Int)) = false := by simp; omega
    go_enter Try.func6, Try.ntmps6
    go_wp2_with fail
    refine q23.mono ?_
    rintro e w0 ⟨rfl, rfl⟩
    go_wp2_with fail
    go_ret
    exact ⟨rfl, Below.refl _ _⟩
  exact absurd h (by omega)
end Go.Proofs.Qxb6616513a
