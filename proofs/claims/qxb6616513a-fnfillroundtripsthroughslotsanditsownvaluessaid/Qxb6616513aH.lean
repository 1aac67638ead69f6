import Derived.Test.Qxb6616513aG
namespace Go.Proofs.Qxb6616513a
open Go.RowKit Go.Shelf

/-- One operation that is no 'defer', in a round as everywhere. -/
theorem wpOpIn_inRound {F : Fence} {n : Nat} {P : Program} {ops : Array Oper} {Q : Exit → Act → World → Prop} (l : Nat) {i : Nat} {K : Act → World → Prop} {a : Act} {w : World} (hro : F.round = none)
    (hnd : ∀ (i : Nat) (o : Oper), ops[i]? = some o → ∀ c, o.op ≠ .defer c) (h : wpOpIn F n P ops Q i K a w) : wpOpIn (F.inRound l) n P ops Q i K a w := by
  unfold wpOpIn at h ⊢
  cases ho : ops[i]? with
  | none => rw [ho] at h; exact h
  | some o =>
    rw [ho] at h
    dsimp only at h ⊢
    split
    · rename_i hw
      rw [if_pos hw] at h
      unfold Oper.wpIn at h ⊢
      refine ⟨h.1, ?_⟩
      rw [Oper.semAt_eq _ _ _ (hnd i o ho)]
      have h2 := h.2
      rw [hro, Oper.semAt_none] at h2
      generalize (execOp a.eval o).run P w = r at h2 ⊢
      cases r with
      | ok x w' => cases x <;> exact h2
      | halt x w' => cases x <;> exact h2
    · rename_i hw
      rw [if_neg hw] at h
      exact h

/-- A region that defers nothing, in a round as everywhere. -/
theorem wpAnyIn_inRound {F : Fence} {n : Nat} {P : Program} {md : Region.Mode} {ops : Array Oper} {Q : Exit → Act → World → Prop} (l : Nat) (hro : F.round = none)
    (hnd : ∀ (i : Nat) (o : Oper), ops[i]? = some o → ∀ c, o.op ≠ .defer c) : ∀ (fuel : Nat) (listed : Array Bool) (a : Act) (w : World), wpAnyIn F n P md ops Q fuel listed a w → wpAnyIn (F.inRound l) n P md ops Q fuel listed a w := by
  intro fuel
  induction fuel with
  | zero => intro listed a w h; exact h
  | succ fuel ih =>
    intro listed a w h
    exact ⟨h.1, fun i hi => wpOpIn_inRound l hro hnd (wpOpIn_mono (fun a w => ih _ a w) (h.2 i hi))⟩

set_option maxRecDepth 100000 in
set_option maxHeartbeats 1000000 in
/-- No round, where there is nothing to range over. -/
theorem iter_zero (n : Nat) (l B1 B2 : Nat) (a1 a2 : Option Addr) (c1 c2 : Nat) (J : List (Nat × Nat) → World → Prop) (W : World) (hC1 : W.cell? ⟨B1, 0, none⟩ = some (.slice a1 0 c1)) (hC2 : W.cell? ⟨B2, 0, none⟩ = some (.slice a2 0 c2)) (h0 : J [] W) :
    CallsIn Fence.wide n Try.prog 39 #[.func (.yield l) #[] #[], .pointer (some ⟨B1, 0, none⟩), .pointer (some ⟨B2, 0, none⟩)] W fun e W' => (∃ v, e = .returned v) ∧ J [] W' := by
  refine callsIn_of_wp Try.func39 rfl trivial ?_ rfl
  simp only [Try.ntmps39, List.size_toArray, List.length_cons, List.length_nil, Nat.reduceAdd, Nat.reduceSub, Array.replicate_succ, Array.replicate_zero, List.push_toArray, List.append_toArray, List.nil_append, List.cons_append]
  gi_wp2
  gi_loopw [4] (fun i wr => i = .int .i64 0 ∧ wr = W) (fun _ _ => 0)
  case atStart => exact ⟨rfl, rfl⟩
  case round =>
    obtain ⟨rfl, rfl⟩ := hrel
    gi_wp2
    go_end0
    exact ⟨⟨_, rfl⟩, h0⟩

theorem drew_grown (W : World) : W.grownBy W.drew none := ⟨rfl, rfl, rfl, Nat.le_refl _, fun _ _ _ => rfl⟩

/-- The pairs, in order. -/
theorem iter_stops (n : Nat) (hn : 1 ≤ n) (B1 B2 n₀ : Nat) (a1 a2 : Option Addr) (c1 c2 len : Nat) (T : Nat → Int) (f : Nat → Nat × Nat) (hlen : len ≤ 65536) (w : World) (hB1 : B1 < n₀) (hB2 : B2 < n₀) (hn₀ : n₀ ≤ w.heap.size)
    (hC1 : w.cell? ⟨B1, 0, none⟩ = some (.slice a1 len c1)) (hC2 : w.cell? ⟨B2, 0, none⟩ = some (.slice a2 len c2)) (h1 : ValsAt w n₀ a1 len (fun j => .int .i64 (T (f j).1))) (h2 : ValsAt w n₀ a2 len (fun j => .float .f64 (f j).2)) :
    SeqStopsK Fence.wide n Try.prog 39 #[.pointer (some ⟨B1, 0, none⟩), .pointer (some ⟨B2, 0, none⟩)] (fun x : Nat × Nat => #[Value.int .i64 (T x.1), Value.float .f64 x.2]) (Below n₀) (fun ys => ys = upto f len)
      (fun pre => ∃ k, k ≤ len ∧ pre = upto f k) len w := fun l J Jx W hW hJ _ hY h0 => by
  have hc1 := (hW.cell (p := ⟨B1, 0, none⟩) (show B1 < _ by omega)).trans hC1
  have hc2 := (hW.cell (p := ⟨B2, 0, none⟩) (show B2 < _ by omega)).trans hC2
  have hz : len = 0 → CallsIn Fence.wide n Try.prog 39 (#[.func (.yield l) #[] #[]] ++ #[.pointer (some ⟨B1, 0, none⟩), .pointer (some ⟨B2, 0, none⟩)]) W fun e W' => (∃ v, e = .returned v) ∧ ((∃ xs, xs = upto f len ∧ J xs W') ∨ (∃ pre, (∃ k, k ≤ len ∧ pre = upto f k) ∧ Jx pre W')) := by
    rintro rfl
    exact (iter_zero n l B1 B2 a1 a2 c1 c2 J W hc1 hc2 h0).mono fun e W' ⟨he, hj⟩ => ⟨he, .inl ⟨_, rfl, hj⟩⟩
  rcases h1.below (hW.mono hn₀) with h | ⟨b1, o1, rfl, hb1, k1⟩
  · exact hz h
  · rcases h2.below (hW.mono hn₀) with h | ⟨b2, o2, rfl, hb2, k2⟩
    · exact hz h
    · exact iter_in n hn l B1 B2 n₀ b1 o1 c1 b2 o2 c2 len T f hlen hB1 hB2 hb1 hb2 J Jx (fun pre W h => hJ pre W _ none h (drew_grown W) (fun r e => by cases e)) hY W hc1 hc2 k1 k2 h0
end Go.Proofs.Qxb6616513a
