import Derived.Test.Qxb6616513aI
namespace Go.Proofs.Qxb6616513a
open Go.RowKit Go.Shelf

set_option maxRecDepth 100000 in
set_option maxHeartbeats 1000000 in
/-- No slot: no values. -/
theorem fill_zero (start step : Int) (fv : Value) (w : World) :
    CallsIn Fence.wide 2 Try.prog 38 #[.agg #[.int .i64 start, .int .i64 step, .int .i64 0], fv] w fun e w' => e = .returned (.agg #[.int .i64 start, .int .i64 step, .slice none 0 0]) ∧ Below w.heap.size w w' := by
  refine callsIn_of_wp_marks Try.func38 rfl trivial ?_ rfl
  simp only [Try.ntmps38, List.size_toArray, List.length_cons, List.length_nil, Nat.reduceAdd, Nat.reduceSub, Array.replicate_succ, Array.replicate_zero, List.push_toArray, List.append_toArray, List.nil_append, List.cons_append]
  gi_wp2
  refine ⟨.agg #[.int .i64 start, .int .i64 step, .slice none 0 0], by simp [results, Try.f38, go_sem], rfl, (((Below.refl _ _).alloc (Nat.le_refl _) _).alloc (by simp) _).alloc (by simp; omega) _⟩

/-- What 'ZZfill' hands back. -/
def Post25 (start step : Int) (n : Nat) (xs : List (Nat × Nat)) (w : World) (e : Ending) (w' : World) : Prop :=
  ∃ sv, e = .returned (.agg #[.int .i64 start, .int .i64 step, sv]) ∧ Below w.heap.size w w' ∧ ((n = 0 ∧ sv = .slice none 0 0) ∨ (1 ≤ n ∧ ∃ (b : Nat) (cs : Array Value), sv = .slice (some ⟨b, 0, none⟩) n n ∧ w.heap.size ≤ b ∧ RowAt w' b n 32 n (layV n xs) cs))

set_option maxRecDepth 100000 in
set_option maxHeartbeats 1000000 in
theorem zzfill_any (start step : Int) (n : Nat) (hn : n ≤ 65536) (h1 : 1 ≤ step) (h2 : step ≤ 1099511627776) (a1 a2 : Option Addr) (c1 c2 len : Nat) (f : Nat → Nat × Nat) (hlen : len ≤ 65536) (w : World)
    (v1 : ValsAt w w.heap.size a1 len (fun j => .int .i64 (start + ((f j).1 : Int) * step))) (v2 : ValsAt w w.heap.size a2 len (fun j => .float .f64 (f j).2)) (hf : ∀ j, j < len → (f j).1 < n) :
    Calls Try.prog 25 #[.agg #[.int .i64 start, .int .i64 step, .int .i64 (n : Int)], .slice a1 len c1, .slice a2 len c2] w (Post25 start step n (upto f len) w) := by
  obtain ⟨W, hW⟩ : ∃ W, W = (((w.alloc (.cells #[.int .i64 start, .int .i64 step, .int .i64 (n : Int)] 53)).alloc (.cells #[.slice a1 len c1] 26)).alloc (.cells #[.slice a2 len c2] 27)).alloc (.cells #[.int .i64 0, .int .i64 0, .slice none 0 0] 50) := ⟨_, rfl⟩
  have hsz : W.heap.size = w.heap.size + 4 := by rw [hW]; simp
  have hB : Below w.heap.size w W := by rw [hW]; exact ((((Below.refl _ _).alloc (Nat.le_refl _) _).alloc (by simp) _).alloc (by simp; omega) _).alloc (by simp; omega) _
  have x1 : W.cell? ⟨w.heap.size + 1, 0, none⟩ = some (.slice a1 len c1) := by
    refine cell_of_row W _ 0 #[.slice a1 len c1] 26 (0, 0) ?_
    rw [hW, Below.heap_alloc _ _ _ (by simp), Below.heap_alloc _ _ _ (by simp)]
    have := World.alloc_heap_new (w.alloc (.cells #[.int .i64 start, .int .i64 step, .int .i64 (n : Int)] 53)) (.cells #[.slice a1 len c1] 26)
    rwa [World.size_alloc] at this
  have x2 : W.cell? ⟨w.heap.size + 1 + 1, 0, none⟩ = some (.slice a2 len c2) := by
    refine cell_of_row W _ 0 #[.slice a2 len c2] 27 (0, 0) ?_
    rw [hW, Below.heap_alloc _ _ _ (by simp)]
    have := World.alloc_heap_new ((w.alloc (.cells #[.int .i64 start, .int .i64 step, .int .i64 (n : Int)] 53)).alloc (.cells #[.slice a1 len c1] 26)) (.cells #[.slice a2 len c2] 27)
    rwa [World.size_alloc, World.size_alloc] at this
  have q38 : Calls Try.prog 38 #[.agg #[.int .i64 start, .int .i64 step, .int .i64 (n : Int)], .func (.func 39) #[] #[.pointer (some ⟨w.heap.size + 1, 0, none⟩), .pointer (some ⟨w.heap.size + 1 + 1, 0, none⟩)]] W fun e w' =>
      ∃ sv, e = .returned (.agg #[.int .i64 start, .int .i64 step, sv]) ∧ Below W.heap.size W w' ∧ ((n = 0 ∧ sv = .slice none 0 0) ∨ (1 ≤ n ∧ ∃ (b : Nat) (cs : Array Value), sv = .slice (some ⟨b, 0, none⟩) n n ∧ W.heap.size ≤ b ∧ RowAt w' b n 32 n (layV n (upto f len)) cs)) := by
    by_cases hn0 : n = 0
    · subst hn0
      refine (callsIn_wide.1 (fill_zero start step _ W)).mono ?_
      rintro e w' ⟨rfl, hb⟩
      exact ⟨_, rfl, hb, Or.inl ⟨rfl, rfl⟩⟩
    · have hmod : ∀ j, j < len → (f j).1 % n = (f j).1 := fun j hj => Nat.mod_eq_of_lt (hf j hj)
      refine (callsIn_wide.1 (fill_in 2 (by omega) start step n (by omega) hn h1 h2 (fun i => start + ((i % n : Nat) : Int) * step) (fun _ => rfl) (upto f len) (fun pre => ∃ k, k ≤ len ∧ pre = upto f k) len _ W ?_)).mono ?_
      · intro wr hb
        have hv1 : ValsAt W W.heap.size a1 len (fun j => .int .i64 (start + (((f j).1 % n : Nat) : Int) * step)) := by
          rcases (v1.below hB).mono hB.size with h | ⟨b, off, ha, hlt, hc⟩
          · exact Or.inl h
          · exact Or.inr ⟨b, off, ha, hlt, fun j hj => by rw [hc j hj]; dsimp only; rw [hmod j hj]⟩
        exact iter_stops 1 (Nat.le_refl _) (w.heap.size + 1) (w.heap.size + 1 + 1) W.heap.size a1 a2 c1 c2 len (fun i => start + ((i % n : Nat) : Int) * step) f hlen wr (by omega) (by omega) hb.size
          ((hb.cell (p := ⟨w.heap.size + 1, 0, none⟩) (show w.heap.size + 1 < _ by omega)).trans x1) ((hb.cell (p := ⟨w.heap.size + 1 + 1, 0, none⟩) (show w.heap.size + 1 + 1 < _ by omega)).trans x2)
          (hv1.below hb) (((v2.below hB).mono hB.size).below hb)
      · rintro e w' ⟨b, cs, rfl, hge, hr, hb⟩
        exact ⟨_, rfl, hb, Or.inr ⟨by omega, b, cs, rfl, hge, hr⟩⟩
  have x3 : W.heap[w.heap.size + 1 + 1 + 1]? = some (.cells #[.int .i64 0, .int .i64 0, .slice none 0 0] 50 (0, 0)) := by
    rw [hW]
    have := World.alloc_heap_new (((w.alloc (.cells #[.int .i64 start, .int .i64 step, .int .i64 (n : Int)] 53)).alloc (.cells #[.slice a1 len c1] 26)).alloc (.cells #[.slice a2 len c2] 27)) (.cells #[.int .i64 0, .int .i64 0, .slice none 0 0] 50)
    rwa [World.size_alloc, World.size_alloc, World.size_alloc] at this
  clear v1 v2 hf x1 x2
  have HW : Hid (W = (((w.alloc (.cells #[.int .i64 start, .int .i64 step, .int .i64 (n : Int)] 53)).alloc (.cells #[.slice a1 len c1] 26)).alloc (.cells #[.slice a2 len c2] 27)).alloc (.cells #[.int .i64 0, .int .i64 0, .slice none 0 0] 50)) := hW
  clear hW
  go_enter Try.func25, Try.ntmps25
  go_wp2_with fail
  rw [← HW.out]
  refine q38.mono ?_
  rintro e w' ⟨sv, rfl, hb, hsv⟩
  have y3 := (hb.block (w.heap.size + 1 + 1 + 1) (by omega)).trans x3
  obtain ⟨g, hg⟩ : ∃ g, g = w.heap.size + 1 + 1 + 1 := ⟨_, rfl⟩
  rw [← hg] at y3
  rw [← hg]
  have o0 : w'.cell? ⟨g, 0, none⟩ = some (.int .i64 0) := by simpa using cell_of_row w' g 0 _ _ _ y3
  have o1 : w'.cell? ⟨g, 1, none⟩ = some (.int .i64 0) := by simpa using cell_of_row w' g 1 _ _ _ y3
  have o2 : w'.cell? ⟨g, 2, none⟩ = some (.slice none 0 0) := by simpa using cell_of_row w' g 2 _ _ _ y3
  have f0 := frozen_of_row w' g 0 _ _ y3
  have f1 := frozen_of_row w' g 1 _ _ y3
  have f2 := frozen_of_row w' g 2 _ _ y3
  have hgs : g < W.heap.size ∧ w.heap.size ≤ g := by omega
  have hfin : ∀ w2 : World, w2 = ((w'.setCell ⟨g, 0, none⟩ (.int .i64 start)).setCell ⟨g, 1, none⟩ (.int .i64 step)).setCell ⟨g, 2, none⟩ sv → Post25 start step n (upto f len) w (.returned (.agg #[.int .i64 start, .int .i64 step, sv])) w2 := by
    rintro w2 rfl
    refine ⟨sv, rfl, (((hB.trans (hb.mono hB.size)).setCell (p := ⟨g, 0, none⟩) hgs.2 _).setCell (p := ⟨g, 1, none⟩) hgs.2 _).setCell (p := ⟨g, 2, none⟩) hgs.2 _, ?_⟩
    rcases hsv with h | ⟨hn1, b, cs, h, hge, hr⟩
    · exact Or.inl h
    · refine Or.inr ⟨hn1, b, cs, h, by omega, hr.same ?_⟩
      rw [heap_setCell_other _ _ _ _ (by simp; omega), heap_setCell_other _ _ _ _ (by simp; omega), heap_setCell_other _ _ _ _ (by simp; omega)]
  clear hg x3 HW
  rcases hsv with ⟨_, rfl⟩ | ⟨_, b, cs, rfl, _⟩
  · clear q38
    go_wp2_with fail
    exact bodyPost_ret (v := .agg #[.int .i64 start, .int .i64 step, .slice none 0 0]) (by simp [results, Try.f25, go_sem, o0, o1, o2]) rfl (hfin _ rfl)
  · clear q38
    go_wp2_with fail
    exact bodyPost_ret (v := .agg #[.int .i64 start, .int .i64 step, .slice (some ⟨b, 0, none⟩) n n]) (by simp [results, Try.f25, go_sem, o0, o1, o2]) rfl (hfin _ rfl)
end Go.Proofs.Qxb6616513a
