import Derived.Test.Qxb6616513aT25
import Derived.ProofKit
import Derived.OpenShut
import Derived.Deep.Slices
namespace Go.Proofs.Qxb6616513a
open Go.ChangeShapes Go.WideShapes Go.ChangeAt Go.RowKit

theorem trodF {H : Type} {enc : TypeId × Value → H} {P : Program} {w : World} {base : Nat} {spare : Nat → Bool} {held : Bool} {fuel : Nat} {t : TypeId} {k : FloatKind} {v : Value} {x : DataW H × List MemPlace} (ht : P.underlying t = some (.float k))
    (h : DataW.trod enc P w base spare held fuel t [v] = some x) : ∃ b, v = .float k b := by
  cases fuel with
  | zero => simp [DataW.trod] at h
  | succ n =>
    unfold DataW.trod at h
    rw [ht] at h
    split at h <;> simp_all

theorem Try.cl32 : Try.prog.cellsOf 32 = 1 := by kernel_rfl
theorem Try.cl2 : Try.prog.cellsOf 2 = 1 := by kernel_rfl
theorem ownT : ownKnob Try.prog.godebug = none := by kernel_rfl
theorem laidT : laidOutB Try.prog = true := by kernel_rfl
theorem i64_bT {n : Int} (h : (Lit.int .i64 n).wf = true) : -9223372036854775808 ≤ n ∧ n ≤ 9223372036854775807 := by
  simpa [Lit.wf, IntKind.min, IntKind.max, IntKind.signed, IntKind.bits] using h

/-- A []int64 that came in. -/
theorem intsT {H : Type} {enc : TypeId × Value → H} {W : World} {m : Nat} {a : Option Addr} {len cap : Nat} {x : DataW H × List MemPlace} (h : DataW.trod enc Try.prog W 0 (fun _ => true) true m 26 [.slice a len cap] = some x) :
    len ≤ 9223372036854775807 ∧ ((a = none ∧ len = 0 ∧ cap = 0) ∨ ∃ (d : Addr) (z : Nat → Int), a = some d ∧ ∀ j, j < len → W.cell? (d.add j) = some (.int .i64 (z j))) := by
  rcases open_ints Try.underlying26 Try.underlying2 Try.cl2 h with ⟨hcs, _⟩ | ⟨a', len', cap', zs, hcs, _, hl, hm, hz, _, hcell, _⟩
  · simp only [List.cons.injEq, Value.slice.injEq, and_true] at hcs
    obtain ⟨rfl, rfl, rfl⟩ := hcs
    exact ⟨by omega, Or.inl ⟨rfl, rfl, rfl⟩⟩
  · simp only [List.cons.injEq, Value.slice.injEq, and_true] at hcs
    obtain ⟨rfl, rfl, rfl⟩ := hcs
    simp only [if_true] at hz
    unfold maxLen at hm
    exact ⟨by omega, Or.inr ⟨a', fun j => zs.getD j 0, rfl, fun j hj => hcell j (by omega)⟩⟩

/-- A []float64 that came in. -/
theorem floatsT {H : Type} {enc : TypeId × Value → H} {W : World} {m : Nat} {a : Option Addr} {len cap : Nat} {x : DataW H × List MemPlace} (h : DataW.trod enc Try.prog W 0 (fun _ => true) true m 27 [.slice a len cap] = some x) :
    len ≤ 9223372036854775807 ∧ ((a = none ∧ len = 0 ∧ cap = 0) ∨ ∃ (d : Addr) (fl : Nat → Nat), a = some d ∧ ∀ j, j < len → W.cell? (d.add j) = some (.float .f64 (fl j))) := by
  rcases Deep.open_slice1 Try.underlying27 Try.cl32 h with ⟨hcs, _⟩ | ⟨a', len', cap', m', n', V, D, Pl, hcs, _, hl, hm, hmm, _, hx⟩
  · simp only [List.cons.injEq, Value.slice.injEq, and_true] at hcs
    obtain ⟨rfl, rfl, rfl⟩ := hcs
    exact ⟨by omega, Or.inl ⟨rfl, rfl, rfl⟩⟩
  · simp only [List.cons.injEq, Value.slice.injEq, and_true] at hcs
    obtain ⟨rfl, rfl, rfl⟩ := hcs
    simp only [if_true] at hmm
    unfold maxLen at hm
    obtain ⟨fl, hfl⟩ := Deep.choose_lt (α := Nat) (n := len) (p := fun i b => W.cell? (a'.add i) = some (.float .f64 b)) (fun i hi => by
      obtain ⟨h1, h2⟩ := hx i (by omega)
      obtain ⟨b, hb⟩ := trodF Try.underlying32 h2
      exact ⟨b, by rw [h1, hb]⟩)
    exact ⟨by omega, Or.inr ⟨a', fl, rfl, hfl⟩⟩

theorem f4_guard (a1 a2 : Option Addr) (l1 c1 l2 c2 : Nat) (w : World) (k1 : l1 ≤ 9223372036854775807) (k2 : l2 ≤ 9223372036854775807) (h : ¬ (l1 = l2 ∧ l1 ≤ 65536)) :
    Calls Try.prog 4 #[.slice a1 l1 c1, .slice a2 l2 c2] w (TruePost w) := by
  have q11 := zzBytes11 a1 a2 l1 c1 l2 c2 w k1 k2
  by_cases g1 : ¬ l1 + l2 ≤ 1048576
  · rw [decide_eq_false g1] at q11
    go_enter Try.func4, Try.ntmps4
    go_wp2_with fail
    refine q11.mono ?_
    rintro e w0 ⟨rfl, rfl⟩
    go_wp2_with fail
    go_ret
    exact ⟨rfl, Below.refl _ _⟩
  rw [decide_eq_true (by omega)] at q11
  by_cases g2 : 65536 < l1
  · go_enter Try.func4, Try.ntmps4
    go_wp2_with fail
    refine q11.mono ?_
    rintro e w0 ⟨rfl, rfl⟩
    go_wp2_with fail
    go_ret
    exact ⟨rfl, Below.refl _ _⟩
  by_cases g3 : 65536 < l2
  · go_enter Try.func4, Try.ntmps4
    go_wp2_with fail
    refine q11.mono ?_
    rintro e w0 ⟨rfl, rfl⟩
    go_wp2_with fail
    go_ret
    exact ⟨rfl, Below.refl _ _⟩
  have g4 : (((l1 : Nat) : Int) != ((l2 : Nat) : Int)) = true := by simp; omega
  have g5 : ¬ (1048576 : Int) < 8 * (l1 : Int) + 8 * (l2 : Int) := by omega
  go_enter Try.func4, Try.ntmps4
  go_wp2_with fail
  refine q11.mono ?_
  rintro e w0 ⟨rfl, rfl⟩
  go_wp2_with fail
  go_ret
  exact ⟨rfl, Below.refl _ _⟩

theorem law4 (a1 a2 : Option Addr) (l1 c1 l2 c2 : Nat) (w : World) (k1 : l1 ≤ 9223372036854775807) (k2 : l2 ≤ 9223372036854775807)
    (v1 : (a1 = none ∧ l1 = 0 ∧ c1 = 0) ∨ ∃ (d : Addr) (z : Nat → Int), a1 = some d ∧ ∀ j, j < l1 → w.cell? (d.add j) = some (.int .i64 (z j))) (v2 : (a2 = none ∧ l2 = 0 ∧ c2 = 0) ∨ ∃ (d : Addr) (fl : Nat → Nat), a2 = some d ∧ ∀ j, j < l2 → w.cell? (d.add j) = some (.float .f64 (fl j))) :
    Calls Try.prog 4 #[.slice a1 l1 c1, .slice a2 l2 c2] w (TruePost w) := by
  by_cases h : l1 = l2 ∧ l1 ≤ 65536
  · obtain ⟨rfl, hl⟩ := h
    obtain ⟨z, hz⟩ : ∃ z, IntsAt w a1 l1 z := by
      rcases v1 with ⟨_, h0, _⟩ | ⟨d, z, hd, hc⟩
      · exact ⟨fun _ => 0, Or.inl h0⟩
      · exact ⟨z, Or.inr ⟨d, hd, hc⟩⟩
    obtain ⟨fl, hf⟩ : ∃ fl, FloatsAt w a2 l1 fl := by
      rcases v2 with ⟨_, h0, _⟩ | ⟨d, fl, hd, hc⟩
      · exact ⟨fun _ => 0, Or.inl h0⟩
      · exact ⟨fl, Or.inr ⟨d, hd, hc⟩⟩
    exact f4_main a1 a2 l1 c1 c2 z fl hl w hz hf
  · exact f4_guard a1 a2 l1 c1 l2 c2 w k1 k2 h

set_option maxRecDepth 100000 in
set_option maxHeartbeats 1000000 in
theorem lifted6 (os : Os) (started : os.Started) (H : Type) (enc : TypeId × Value → H) :
    ReturnsInHanded {} Try.checked os 4 .any (Rows.fnTimelineSetKeepsLastValuePerTimeSpec.pre6 enc Try.prog Try.f4 Rows.fnTimelineSetKeepsLastValuePerTimeRow.domain false) (Rows.fnTimelineSetKeepsLastValuePerTimeSpec.post enc Try.prog Try.f4 false true false false) := by
  refine returnsInHanded_of_change (C := Try.checked) ownT started (by kernel_rfl) Try.func4
    (ChangeSpec.witness6 (enc := enc) (C := Try.checked) false ⟨#[], #[.slice none 0 0, .slice none 0 0], []⟩ 8 (by kernel_rfl) (by kernel_rfl) (by kernel_rfl) (by kernel_rfl)) ?_
  intro W base args ds gs before hval0 hW hcnd _
  have hval : ∀ (j : Nat) t v, Try.f4.params[j]? = some t → args[j]? = some v → Value.okWide Try.prog W .any base t v := hval0
  have hW' := hW
  obtain ⟨p, q, hA0, hV, rfl, hfz, hnd⟩ := hW
  have hA : DataW.TrodAll enc Try.prog W 0 (fun _ => true) true Try.f4.params.toList args.toList ds p := hA0
  rw [Try.params4] at hA hval
  obtain ⟨v3, vs3, d3, ds3, p3, q3, hargs, rfl, rfl, h3, r3⟩ := trodAll_cons hA
  obtain ⟨v4, vs4, d4, ds4, p4, q4, rfl, rfl, rfl, h4, r4⟩ := trodAll_cons r3
  obtain ⟨rfl, rfl, rfl⟩ := trodAll_nil r4
  obtain rfl : args = #[v3, v4] := by cases args; simp_all
  obtain ⟨rfl, rfl⟩ := trodVars_none hV
  obtain ⟨a3, len3, cap3, rfl⟩ := okWide_slice Try.underlying26 (hval 0 26 v3 rfl rfl)
  obtain ⟨a4, len4, cap4, rfl⟩ := okWide_slice Try.underlying27 (hval 1 27 v4 rfl rfl)
  have k3 := h3
  have k4 := h4
  have lt3 : ∀ x ∈ p3, x.block < W.heap.size := by obtain ⟨m, hm⟩ := k3; exact DataW.trod_lt m _ _ _ hm
  have lt4 : ∀ x ∈ p4, x.block < W.heap.size := by obtain ⟨m, hm⟩ := k4; exact DataW.trod_lt m _ _ _ hm
  obtain ⟨m3, hm3⟩ := h3
  obtain ⟨m4, hm4⟩ := h4
  obtain ⟨z3, o3⟩ := intsT hm3
  obtain ⟨z4, o4⟩ := floatsT hm4
  clear hA0 hval0
  refine (law4 a3 a4 len3 cap3 len4 cap4 W z3 z4 o3 o4).mono fun e W' ⟨he, bel⟩ => ?_
  subst he
  exact ⟨_, rfl, _, _, _, [], _, [], hW', trodAll_mk1 (shut_bool Try.underlying4 _), (trodAll_cons_mk (Below.trod laidT (by kernel_rfl) (of_decide_eq_true (by kernel_rfl)) k3 bel lt3) (trodAll_cons_mk (Below.trod laidT (by kernel_rfl) (of_decide_eq_true (by kernel_rfl)) k4 bel lt4) trodAll_mk0)), rfl, bel.frame _, fun h => by cases h⟩

theorem proved6 : Rows.FnTimelineSetKeepsLastValuePerTimeSaid :=
  OpenClaim.holds_of_wide 4 Try.f4 rfl rfl rfl rfl rfl rfl rfl ⟨rfl, rfl, rfl, rfl, rfl⟩ rfl rfl rfl rfl rfl (by kernel_rfl) Try.func4 (by kernel_rfl)
    (of_decide_eq_true (by kernel_rfl)) (by unfold Func.isWrapper; first | (rw [if_pos (by decide +kernel)]; kernel_rfl) | (rw [if_neg (by decide +kernel)]; exact ⟨rfl, rfl⟩))
    (fun os started H enc _ => lifted6 os started H enc)
end Go.Proofs.Qxb6616513a
