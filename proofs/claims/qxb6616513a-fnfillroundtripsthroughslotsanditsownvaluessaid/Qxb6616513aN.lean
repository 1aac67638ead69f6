import Derived.Test.Qxb6616513aM
import Derived.ProofKit
import Derived.OpenShut
import Derived.Deep.Slices
import Derived.Below
namespace Go.Proofs.Qxb6616513a
open Go.ChangeShapes Go.WideShapes Go.ChangeAt Go.RowKit

theorem trod_float {H : Type} {enc : TypeId × Value → H} {P : Program} {w : World} {base : Nat} {spare : Nat → Bool} {held : Bool} {fuel : Nat} {t : TypeId} {k : FloatKind} {v : Value} {x : DataW H × List MemPlace} (ht : P.underlying t = some (.float k))
    (h : DataW.trod enc P w base spare held fuel t [v] = some x) : ∃ b, v = .float k b := by
  cases fuel with
  | zero => simp [DataW.trod] at h
  | succ n =>
    unfold DataW.trod at h
    rw [ht] at h
    split at h <;> simp_all

theorem Try.cells32 : Try.prog.cellsOf 32 = 1 := by kernel_rfl
theorem Try.cells2 : Try.prog.cellsOf 2 = 1 := by kernel_rfl
theorem own4 : ownKnob Try.prog.godebug = none := by kernel_rfl
theorem laidOut4 : laidOutB Try.prog = true := by kernel_rfl
theorem i64_bounds {n : Int} (h : (Lit.int .i64 n).wf = true) : -9223372036854775808 ≤ n ∧ n ≤ 9223372036854775807 := by
  simpa [Lit.wf, IntKind.min, IntKind.max, IntKind.signed, IntKind.bits] using h

/-- A []int64 that came in. -/
theorem ints_open {H : Type} {enc : TypeId × Value → H} {W : World} {m : Nat} {a : Option Addr} {len cap : Nat} {x : DataW H × List MemPlace} (h : DataW.trod enc Try.prog W 0 (fun _ => true) true m 26 [.slice a len cap] = some x) :
    len ≤ 9223372036854775807 ∧ ((a = none ∧ len = 0 ∧ cap = 0) ∨ ∃ (d : Addr) (z : Nat → Int), a = some d ∧ ∀ j, j < len → W.cell? (d.add j) = some (.int .i64 (z j))) := by
  rcases open_ints Try.underlying26 Try.underlying2 Try.cells2 h with ⟨hcs, _⟩ | ⟨a', len', cap', zs, hcs, _, hl, hm, hz, _, hcell, _⟩
  · simp only [List.cons.injEq, Value.slice.injEq, and_true] at hcs
    obtain ⟨rfl, rfl, rfl⟩ := hcs
    exact ⟨by omega, Or.inl ⟨rfl, rfl, rfl⟩⟩
  · simp only [List.cons.injEq, Value.slice.injEq, and_true] at hcs
    obtain ⟨rfl, rfl, rfl⟩ := hcs
    simp only [if_true] at hz
    unfold maxLen at hm
    exact ⟨by omega, Or.inr ⟨a', fun j => zs.getD j 0, rfl, fun j hj => hcell j (by omega)⟩⟩

/-- A []float64 that came in. -/
theorem floats_open {H : Type} {enc : TypeId × Value → H} {W : World} {m : Nat} {a : Option Addr} {len cap : Nat} {x : DataW H × List MemPlace} (h : DataW.trod enc Try.prog W 0 (fun _ => true) true m 27 [.slice a len cap] = some x) :
    len ≤ 9223372036854775807 ∧ ((a = none ∧ len = 0 ∧ cap = 0) ∨ ∃ (d : Addr) (fl : Nat → Nat), a = some d ∧ ∀ j, j < len → W.cell? (d.add j) = some (.float .f64 (fl j))) := by
  rcases Deep.open_slice1 Try.underlying27 Try.cells32 h with ⟨hcs, _⟩ | ⟨a', len', cap', m', n', V, D, Pl, hcs, _, hl, hm, hmm, _, hx⟩
  · simp only [List.cons.injEq, Value.slice.injEq, and_true] at hcs
    obtain ⟨rfl, rfl, rfl⟩ := hcs
    exact ⟨by omega, Or.inl ⟨rfl, rfl, rfl⟩⟩
  · simp only [List.cons.injEq, Value.slice.injEq, and_true] at hcs
    obtain ⟨rfl, rfl, rfl⟩ := hcs
    simp only [if_true] at hmm
    unfold maxLen at hm
    obtain ⟨fl, hfl⟩ := Deep.choose_lt (α := Nat) (n := len) (p := fun i b => W.cell? (a'.add i) = some (.float .f64 b)) (fun i hi => by
      obtain ⟨h1, h2⟩ := hx i (by omega)
      obtain ⟨b, hb⟩ := trod_float Try.underlying32 h2
      exact ⟨b, by rw [h1, hb]⟩)
    exact ⟨by omega, Or.inr ⟨a', fl, rfl, hfl⟩⟩

theorem law6 (start step n : Int) (a1 a2 : Option Addr) (l1 c1 l2 c2 : Nat) (w : World) (k1 : l1 ≤ 9223372036854775807) (k2 : l2 ≤ 9223372036854775807)
    (v1 : (a1 = none ∧ l1 = 0 ∧ c1 = 0) ∨ ∃ (d : Addr) (z : Nat → Int), a1 = some d ∧ ∀ j, j < l1 → w.cell? (d.add j) = some (.int .i64 (z j))) (v2 : (a2 = none ∧ l2 = 0 ∧ c2 = 0) ∨ ∃ (d : Addr) (fl : Nat → Nat), a2 = some d ∧ ∀ j, j < l2 → w.cell? (d.add j) = some (.float .f64 (fl j))) :
    Calls Try.prog 6 #[.int .i64 start, .int .i64 step, .int .i64 n, .slice a1 l1 c1, .slice a2 l2 c2] w (Post6 w) := by
  by_cases h : l1 = l2 ∧ l1 ≤ 65536 ∧ 0 ≤ n ∧ n ≤ 65536 ∧ 1 ≤ step ∧ step ≤ 1099511627776 ∧ -4611686018427387904 ≤ start ∧ start ≤ 4611686018427387904
  · obtain ⟨rfl, hl, hn0, hn, h1, h2, h3, h4⟩ := h
    obtain ⟨m, rfl⟩ : ∃ m : Nat, n = m := ⟨n.toNat, by omega⟩
    rcases v1 with ⟨rfl, rfl, rfl⟩ | ⟨d1, z, rfl, hz⟩
    · rcases v2 with ⟨rfl, _, rfl⟩ | ⟨d2, fl, rfl, hf⟩
      · exact f6_none_none start step m (fun _ => 0) (fun _ => 0) w (by omega) h1 h2 h3 h4
      · exact f6_none_some start step m d2 c2 (fun _ => 0) (fun _ => 0) w (by omega) h1 h2 h3 h4
    · rcases v2 with ⟨rfl, rfl, rfl⟩ | ⟨d2, fl, rfl, hf⟩
      · exact f6_some_none start step m d1 c1 (fun _ => 0) (fun _ => 0) w (by omega) h1 h2 h3 h4
      · exact f6_some_some start step m d1 c1 d2 c2 l1 hl z fl w (by omega) h1 h2 h3 h4 hz hf
  · exact f6_guard start step n a1 a2 l1 c1 l2 c2 w k1 k2 h

set_option maxRecDepth 100000 in
set_option maxHeartbeats 1000000 in
theorem lifted4 (os : Os) (started : os.Started) (H : Type) (enc : TypeId × Value → H) :
    ReturnsInHanded {} Try.checked os 6 .any (Rows.fnFillPutsEachValueAtItsSlotStartSpec.pre6 enc Try.prog Try.f6 Rows.fnFillPutsEachValueAtItsSlotStartRow.domain false) (Rows.fnFillPutsEachValueAtItsSlotStartSpec.post enc Try.prog Try.f6 false true false false) := by
  refine returnsInHanded_of_change (C := Try.checked) own4 started (by kernel_rfl) Try.func6
    (ChangeSpec.witness6 (enc := enc) (C := Try.checked) false ⟨#[], #[.int .i64 0, .int .i64 0, .int .i64 0, .slice none 0 0, .slice none 0 0], []⟩ 8 (by kernel_rfl) (by kernel_rfl) (by kernel_rfl) (by kernel_rfl)) ?_
  intro W base args ds gs before hval0 hW hcnd _
  have hval : ∀ (j : Nat) t v, Try.f6.params[j]? = some t → args[j]? = some v → Value.okWide Try.prog W .any base t v := hval0
  have hW' := hW
  obtain ⟨p, q, hA0, hV, rfl, hfz, hnd⟩ := hW
  have hA : DataW.TrodAll enc Try.prog W 0 (fun _ => true) true Try.f6.params.toList args.toList ds p := hA0
  rw [Try.params6] at hA hval
  obtain ⟨v0, vs0, d0, ds0, p0, q0, hargs, rfl, rfl, h0, r0⟩ := trodAll_cons hA
  obtain ⟨v1, vs1, d1, ds1, p1, q1, rfl, rfl, rfl, h1, r1⟩ := trodAll_cons r0
  obtain ⟨v2, vs2, d2, ds2, p2, q2, rfl, rfl, rfl, h2, r2⟩ := trodAll_cons r1
  obtain ⟨v3, vs3, d3, ds3, p3, q3, rfl, rfl, rfl, h3, r3⟩ := trodAll_cons r2
  obtain ⟨v4, vs4, d4, ds4, p4, q4, rfl, rfl, rfl, h4, r4⟩ := trodAll_cons r3
  obtain ⟨rfl, rfl, rfl⟩ := trodAll_nil r4
  obtain rfl : args = #[v0, v1, v2, v3, v4] := by cases args; simp_all
  obtain ⟨rfl, rfl⟩ := trodVars_none hV
  obtain ⟨b0, rfl, rfl, rfl, w0⟩ := open_int Try.underlying2 (hval 0 2 v0 rfl rfl) h0
  obtain ⟨b1, rfl, rfl, rfl, w1⟩ := open_int Try.underlying2 (hval 1 2 v1 rfl rfl) h1
  obtain ⟨b2, rfl, rfl, rfl, w2⟩ := open_int Try.underlying2 (hval 2 2 v2 rfl rfl) h2
  obtain ⟨a3, len3, cap3, rfl⟩ := okWide_slice Try.underlying26 (hval 3 26 v3 rfl rfl)
  obtain ⟨a4, len4, cap4, rfl⟩ := okWide_slice Try.underlying27 (hval 4 27 v4 rfl rfl)
  have k3 := h3
  have k4 := h4
  have lt3 : ∀ x ∈ p3, x.block < W.heap.size := by obtain ⟨m, hm⟩ := k3; exact DataW.trod_lt m _ _ _ hm
  have lt4 : ∀ x ∈ p4, x.block < W.heap.size := by obtain ⟨m, hm⟩ := k4; exact DataW.trod_lt m _ _ _ hm
  obtain ⟨m3, hm3⟩ := h3
  obtain ⟨m4, hm4⟩ := h4
  obtain ⟨z3, o3⟩ := ints_open hm3
  obtain ⟨z4, o4⟩ := floats_open hm4
  clear hA0 hval0
  refine (law6 b0 b1 b2 a3 a4 len3 cap3 len4 cap4 W z3 z4 o3 o4).mono fun e W' ⟨he, bel⟩ => ?_
  subst he
  exact ⟨_, rfl, _, _, _, [], _, [], hW', trodAll_mk1 (shut_bool Try.underlying4 _), (trodAll_cons_mk (shut_int Try.underlying2 w0) (trodAll_cons_mk (shut_int Try.underlying2 w1) (trodAll_cons_mk (shut_int Try.underlying2 w2)
    (trodAll_cons_mk (Below.trod laidOut4 (by kernel_rfl) (of_decide_eq_true (by kernel_rfl)) k3 bel lt3) (trodAll_cons_mk (Below.trod laidOut4 (by kernel_rfl) (of_decide_eq_true (by kernel_rfl)) k4 bel lt4) trodAll_mk0))))), rfl, bel.frame _, fun h => by cases h⟩

theorem proved4 : Rows.FnFillPutsEachValueAtItsSlotStartSaid :=
  OpenClaim.holds_of_wide 6 Try.f6 rfl rfl rfl rfl rfl rfl rfl ⟨rfl, rfl, rfl, rfl, rfl⟩ rfl rfl rfl rfl rfl (by kernel_rfl) Try.func6 (by kernel_rfl)
    (of_decide_eq_true (by kernel_rfl)) (by unfold Func.isWrapper; first | (rw [if_pos (by decide +kernel)]; kernel_rfl) | (rw [if_neg (by decide +kernel)]; exact ⟨rfl, rfl⟩))
    (fun os started H enc _ => lifted4 os started H enc)
end Go.Proofs.Qxb6616513a
