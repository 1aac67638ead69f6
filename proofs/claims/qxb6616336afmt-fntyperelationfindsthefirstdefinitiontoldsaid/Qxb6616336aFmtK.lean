import Derived.Test.Qxb6616336aFmtJ
import Derived.Test.Qxb6616336aFmtCards
import Derived.ProofKit
import Derived.Deep.Slices
import Derived.SliceStrings
import Derived.Stop.JoinedAt
import Derived.Stop.JoinedTold
import Derived.SevenToldRow
namespace Go.Proofs.Qxb6616336aFmt
open Go.ChangeShapes Go.WideShapes Go.ChangeAt Go.RowKit Go.Kit
open Go.ChangeMaps (open_string shut_string)
open Go.Extern.Stop Go.Stop Go.Extern

theorem own : ownKnob Tryf.prog.godebug = none := by kernel_rfl
theorem cells30 : Tryf.prog.cellsOf 30 = 2 := by kernel_rfl
theorem cells28 : Tryf.prog.cellsOf 28 = 1 := by kernel_rfl

/-- A plain address, where a cell lies. -/
theorem plainAddr {w : World} {a : Addr} {v : Value} (h : w.cell? a = some v) : ∃ b off, a = ⟨b, off, none⟩ ∧ b < w.heap.size := by
  have hlt := World.block_lt_of_cell? w a h
  obtain ⟨b, off, spot⟩ := a
  have hspot : spot = none := World.cell?_spot h
  subst hspot
  exact ⟨b, off, rfl, hlt⟩

theorem strs_open {H : Type} {enc : TypeId × Value → H} {W : World} {n : Nat} {v : Value} {x : DataW H × List MemPlace} (h : DataW.trod enc Tryf.prog W 0 (fun _ => true) true n 28 [v] = some x) :
    ∃ a len cap r, v = .slice a len cap ∧ len ≤ maxLen ∧ StrsAt W a len r ∧ ∀ j, j < len → (r j).size ≤ maxLen := by
  rcases open_strings Tryf.underlying28 Tryf.underlying9 cells9 h with ⟨hcs, _⟩ | ⟨a, len, cap, ss, hcs, _, hl, hm, hz, _, hcell, hws⟩
  · simp only [List.cons.injEq, and_true] at hcs
    exact ⟨none, 0, 0, fun _ => ByteArray.empty, hcs, Nat.zero_le _, Or.inl rfl, fun j hj => absurd hj (by omega)⟩
  · simp only [List.cons.injEq, and_true] at hcs
    simp only [if_true] at hz
    refine ⟨some a, len, cap, fun j => ss.getD j ByteArray.empty, hcs, by omega, ?_, fun j hj => ?_⟩
    · by_cases h0 : len = 0
      · exact Or.inl h0
      · right
        obtain ⟨b, off, rfl, hlt⟩ := plainAddr (a := a) (by have := hcell 0 (by omega); simpa [Addr.add] using this)
        exact ⟨b, off, rfl, hlt, fun j hj => by rw [← Go.WideShapes.add_plain]; exact hcell j (by omega)⟩
    · refine hws _ ?_
      have hj' : j < ss.length := by omega
      simp [List.getD, List.getElem?_eq_getElem hj']

set_option maxRecDepth 100000 in
theorem types_open {H : Type} {enc : TypeId × Value → H} {W : World} {n : Nat} {v : Value} {x : DataW H × List MemPlace} (h : DataW.trod enc Tryf.prog W 0 (fun _ => true) true n 22 [v] = some x) :
    ∃ a len cap nm ra rl rc rn, v = .slice a len cap ∧ len ≤ maxLen ∧ TypesAt W a len nm ra rl rc rn ∧ (∀ i, i < len → (nm i).size ≤ maxLen) ∧ (∀ i, i < len → rl i ≤ maxLen) ∧ ∀ i j, i < len → j < rl i → (rn i j).size ≤ maxLen := by
  rcases Deep.open_slice Tryf.underlying22 h with ⟨hcs, _⟩ | ⟨a, len, cap, m, n', D, Pl, hcs, _, hl, hm, hmm, _, hx⟩
  · simp only [List.cons.injEq, and_true] at hcs
    exact ⟨none, 0, 0, fun _ => ByteArray.empty, fun _ => none, fun _ => 0, fun _ => 0, fun _ _ => ByteArray.empty, hcs, Nat.zero_le _, Or.inl rfl, fun i hi => absurd hi (by omega), fun i hi => absurd hi (by omega), fun i j hi => absurd hi (by omega)⟩
  · simp only [List.cons.injEq, and_true] at hcs
    simp only [if_true] at hmm
    have each : ∀ i, i < len → ∃ y : ByteArray × Option Addr × Nat × Nat × (Nat → ByteArray), W.cell? (a.add (i * 2)) = some (.string y.1) ∧ W.cell? ((a.add (i * 2)).add 1) = some (.slice y.2.1 y.2.2.1 y.2.2.2.1) ∧ StrsAt W y.2.1 y.2.2.1 y.2.2.2.2 ∧ y.1.size ≤ maxLen ∧ y.2.2.1 ≤ maxLen ∧ ∀ j, j < y.2.2.1 → (y.2.2.2.2 j).size ≤ maxLen := by
      intro i hi
      obtain ⟨cs', h1, h2⟩ := hx i (by omega)
      rw [cells30] at h1
      obtain ⟨_, hlen, hcell⟩ := World.cells?_some h1
      obtain ⟨y0, y1, n1, _, _, t0, t1⟩ := trod_struct2 Tryf.underlying30 h2
      match cs', hlen with
      | [c0, c1], _ =>
        have k0 := hcell 0 (by omega)
        have k1 := hcell 1 (by omega)
        simp only [cells9, cells28] at t0 t1
        simp only [List.drop_zero, List.take_succ_cons, List.take_zero, List.drop_succ_cons] at t0 t1
        obtain ⟨s, hs, _, hsz⟩ := DataW.trod_string Tryf.underlying9 t0
        obtain ⟨a', len', cap', r, hv, hl', hst, hr⟩ := strs_open t1
        simp only [List.cons.injEq, and_true] at hs
        subst hs hv
        exact ⟨(s, a', len', cap', r), by simpa [Addr.add] using k0, by simpa using k1, hst, hsz, hl', hr⟩
    obtain ⟨f, hf⟩ := Deep.choose_lt (α := ByteArray × Option Addr × Nat × Nat × (Nat → ByteArray)) each
    refine ⟨some a, len, cap, fun i => (f i).1, fun i => (f i).2.1, fun i => (f i).2.2.1, fun i => (f i).2.2.2.1, fun i => (f i).2.2.2.2, hcs, by omega, ?_, fun i hi => (hf i hi).2.2.2.1, fun i hi => (hf i hi).2.2.2.2.1, fun i j hi hj => (hf i hi).2.2.2.2.2 j hj⟩
    by_cases h0 : len = 0
    · exact Or.inl h0
    · right
      obtain ⟨b, off, rfl, hlt⟩ := plainAddr (a := a) (by have := (hf 0 (by omega)).1; simpa [Addr.add] using this)
      refine ⟨b, off, rfl, hlt, fun i hi => ?_⟩
      obtain ⟨q0, q1, q2, _⟩ := hf i hi
      rw [Go.WideShapes.add_plain] at q0 q1
      rw [Go.WideShapes.add_plain] at q1
      exact ⟨q0, q1, q2⟩

theorem row22 : 22 < Tryf.prog.types.size := by rw [types130]; omega
theorem read22 : Tryf.prog.readableRec 22 = true := by kernel_rfl

set_option maxRecDepth 100000 in
set_option maxHeartbeats 1000000 in
theorem t_lifted (os : Os) (started : os.Started) (H : Type) (enc : TypeId × Value → H) :
    ReturnsInTold none {} Tryf.checked os 3 .any Input.okWide ((OpenSpec.ofChange Rows.fnTypeRelationFindsTheFirstDefinitionSpec).preRow enc Tryf.prog Tryf.f3 [] false []) (fun F => ((OpenSpec.ofChange Rows.fnTypeRelationFindsTheFirstDefinitionSpec).at F).post enc Tryf.prog Tryf.f3 false true false false) (aloneAtReturn Tryf.prog) nothingAlways := by
  refine returnsInTold_of_row (C := Tryf.checked) (s := OpenSpec.ofChange Rows.fnTypeRelationFindsTheFirstDefinitionSpec) (by kernel_rfl) own started (by kernel_rfl) Tryf.func3
    (OpenSpec.witness_stopped (enc := enc) (C := Tryf.checked) false ⟨#[], #[.slice none 0 0, .string ⟨#[]⟩, .string ⟨#[]⟩, .string ⟨#[]⟩], []⟩ 8 (by kernel_rfl) (by kernel_rfl) (by kernel_rfl) (by kernel_rfl)) ?_
  intro F W base args ds gs before _ hF hval0 hW _ _ hsz _ _
  have hval : ∀ (j : Nat) t v, Tryf.f3.params[j]? = some t → args[j]? = some v → Value.okWide Tryf.prog W .any base t v := hval0
  have hW' := hW
  obtain ⟨p, q, hA0, hV, rfl, hfz, hnd⟩ := hW
  have hA : DataW.TrodAll enc Tryf.prog W 0 (fun _ => true) true Tryf.f3.params.toList args.toList ds p := hA0
  rw [Tryf.params3] at hA hval
  obtain ⟨v0, v1, v2, v3, d0, d1, d2, d3, p0, p1, p2, p3, rfl, rfl, rfl, h0, h1, h2, h3⟩ := trodAll_four hA
  obtain ⟨rfl, rfl⟩ := trodVars_none hV
  obtain ⟨s1, rfl, rfl, rfl, w1⟩ := open_string Tryf.underlying9 (hval 1 9 v1 rfl rfl) h1
  obtain ⟨s2, rfl, rfl, rfl, w2⟩ := open_string Tryf.underlying9 (hval 2 9 v2 rfl rfl) h2
  obtain ⟨s3, rfl, rfl, rfl, w3⟩ := open_string Tryf.underlying9 (hval 3 9 v3 rfl rfl) h3
  clear hA0 hval0 hA
  have h0k := h0
  obtain ⟨a0, len0, cap0, rfl⟩ := okWide_slice Tryf.underlying22 (hval 0 22 v0 rfl rfl)
  obtain ⟨fuel, hf⟩ := h0
  obtain ⟨a, len, cap, nm, ra, rl, rc, rn, hv, hlen, hT, b1, b2, b3⟩ := types_open hf
  simp only [Value.slice.injEq] at hv
  obtain ⟨rfl, rfl, rfl⟩ := hv
  unfold maxLen at hlen b1 b2 b3 w1 w2 w3
  refine (law_any F.told a0 len0 cap0 nm ra rl rc rn s1 s2 s3 W hF hlen b1 b2 b3 w1 w2 w3 hT).mono fun e W' ⟨he, hb⟩ => ?_
  subst he
  have hlt : ∀ x ∈ p0, x.block < W.heap.size := fun x hx => hW'.lt x (by simp [hx])
  refine ⟨_, rfl, _, _, _, [], p0 ++ ([] ++ ([] ++ [])), [], hW', ?_, ?_, rfl, hb.frame _, fun h => by cases h⟩
  · exact trodAll_mk1 (shut_bool Tryf.underlying4 _)
  · exact trodAll_mk4 (Below.trod Tryf.laidOut read22 row22 h0k hb hlt) (shut_string Tryf.underlying9 (by unfold maxLen; exact w1)) (shut_string Tryf.underlying9 (by unfold maxLen; exact w2)) (shut_string Tryf.underlying9 (by unfold maxLen; exact w3))

theorem laidOutP : laidOutB Tryf.pinned.checked.prog = true := by kernel_rfl
theorem stopsP : Tryf.pinned.checked.prog.stops = ["fmt.errorf"] := by kernel_rfl
theorem stopKnobs : Tryf.pinned.checked.prog.stopKnobs = [] := by kernel_rfl
theorem quietP (os : Os) : Stop.quiet Tryf.pinned.checked.prog os := by
  intro k hk
  rw [stopKnobs] at hk
  cases hk

theorem proved : Rows.FnTypeRelationFindsTheFirstDefinitionToldSaid :=
  Claim7.holds_of_told_any 3 Tryf.f3 "fmt.errorf" [] [] _ _ _ (by kernel_rfl) rfl rfl rfl laidOutP (by kernel_rfl) rfl ⟨rfl, rfl, rfl, rfl, rfl, rfl, rfl⟩ rfl rfl (by kernel_rfl) (by kernel_rfl) Tryf.func3 (by kernel_rfl)
    (of_decide_eq_true (by kernel_rfl)) (of_decide_eq_true (by kernel_rfl)) stopsP.symm rfl stopKnobs.symm (by kernel_rfl)
    (by kernel_rfl) (by kernel_rfl) (by kernel_rfl) (by kernel_rfl) (by kernel_rfl) (by kernel_rfl) (by kernel_rfl) (by kernel_rfl) (by kernel_rfl) rfl (by kernel_rfl) rfl rfl
    rfl rfl
    rfl (by kernel_rfl) (by kernel_rfl) (by kernel_rfl) (by decide) (by kernel_rfl)
    (OpenClaim.moreEntering_of (by kernel_rfl) (by kernel_rfl) (by kernel_rfl) (by kernel_rfl) (by kernel_rfl) (by kernel_rfl) (by kernel_rfl) (by kernel_rfl) (by kernel_rfl) (by kernel_rfl))
    ⟨_, WideRow.started_initial, quietP _⟩
    (fun os started _ H enc _ => t_lifted os started H enc)

end Go.Proofs.Qxb6616336aFmt
