import Derived.Test.Qxb6616506aDoorI
import Derived.Test.Qxb6616506aDoorCards
import Derived.Test.Qxb6616506aDoorTie
import Derived.ProofKit
import Derived.ChangeSame
import Derived.ChangeVars
import Derived.ChangeSlices
import Derived.OpenShut
import Derived.JoinedOf
import Derived.RowKit
import Derived.RowKitTokens
import Derived.LaidLaws
import Derived.LaidHandle
import Derived.Stop.Joined
import Derived.Stop.LaidErr
import Derived.SevenTiedAt
namespace Go.Proofs.Qxb6616506aDoor
open Go Go.ChangeShapes Go.WideShapes Go.RowKit

theorem own : ownKnob Tryd.prog.godebug = none := by kernel_rfl
theorem laidOutD : laidOutB Tryd.prog = true := by kernel_rfl
theorem gE : Tryd.prog.globalNamed "io.EOF" = some 0 := by kernel_rfl
theorem gU : Tryd.prog.globalNamed "io.ErrUnexpectedEOF" = some 1 := by kernel_rfl
theorem gEt : (Tryd.prog.globals[0]?).map (·.type) = some 28 := by kernel_rfl
theorem gUt : (Tryd.prog.globals[1]?).map (·.type) = some 28 := by kernel_rfl
theorem cells65 : Tryd.prog.cellsOf 65 = 1 := by kernel_rfl
theorem cells9s : Tryd.prog.cellsOf 9 = 1 := by kernel_rfl
theorem cells5s : Tryd.prog.cellsOf 5 = 1 := by kernel_rfl
theorem star : "*" ++ "errors.errorString" = "*errors.errorString" := by decide
theorem row47 (u : TypeId) (h : Tryd.prog.typeName? 3 u = some "*errors.errorString") : u = 47 :=
  typeName_ptr_named (nm := "errors.errorString") (by rw [star]; kernel_rfl) (by kernel_rfl) (by decide) u (by rw [star]; exact h)
theorem row22 : 22 < Tryd.prog.types.size := of_decide_eq_true (by kernel_rfl)
theorem read22 : Tryd.prog.readableRec 22 = true := by kernel_rfl

theorem i64_bounds {n : Int} (h : (Lit.int .i64 n).wf = true) : -9223372036854775808 ≤ n ∧ n ≤ 9223372036854775807 := by
  simpa [Lit.wf, IntKind.min, IntKind.max, IntKind.signed, IntKind.bits] using h

/-- What the row's list gives the walk: both sentinels hold a pointer, EOF's none that is nil. -/
theorem sentinels {W : World} (h : laidMetH Tryd.prog Rows.fnFillDoublesBufferThenReadDrainsRow.laid W) :
    ∃ (aE aU : Addr), W.cell? ⟨0, 0, none⟩ = some (.iface 47 (.pointer (some aE))) ∧ W.cell? ⟨1, 0, none⟩ = some (.iface 47 (.pointer (some aU))) := by
  have h' : laidMet Tryd.prog [("io.EOF", Rows.laid_io_EOF), ("io.ErrUnexpectedEOF", Rows.laid_io_ErrUnexpectedEOF)] W := h
  unfold Rows.laid_io_EOF Rows.laid_io_ErrUnexpectedEOF at h'
  obtain ⟨a0, _, hv0, _⟩ := laid_sentinel h' gE gEt Tryd.underlying28 row47 Tryd.underlying47 Tryd.underlying65 rfl rfl Tryd.underlying9 cells65 cells9s
  obtain ⟨a1, _, hv1, _⟩ := laid_sentinel h'.tail gU gUt Tryd.underlying28 row47 Tryd.underlying47 Tryd.underlying65 rfl rfl Tryd.underlying9 cells65 cells9s
  exact ⟨a0, a1, by simpa using World.var?_cell gE hv0 0, by simpa using World.var?_cell gU hv1 0⟩

/-- A start that meets the list: the two sentinels' own cells laid behind the settled world. -/
theorem laid_start (os : Os) (args : Array Value) :
    laidMetH Tryd.prog Rows.fnFillDoublesBufferThenReadDrainsRow.laid (((let w0 := World.holding Tryd.prog os ⟨#[.cells #[.string { data := #[69, 79, 70] }] 65, .cells #[.string { data := #[117, 110, 101, 120, 112, 101, 99, 116, 101, 100, 32, 69, 79, 70] }] 65], #[], []⟩
      { w0 with heap := (w0.heap.modify 0 fun
          | .cells _ t frozen => .cells #[.iface 47 (.pointer (some ⟨(World.holding Tryd.prog default ⟨#[], #[], []⟩).heap.size, 0, none⟩))] t frozen
          | o => o).modify 1 fun
          | .cells _ t frozen => .cells #[.iface 47 (.pointer (some ⟨(World.holding Tryd.prog default ⟨#[], #[], []⟩).heap.size + 1, 0, none⟩))] t frozen
          | o => o } : World)).forCall (fun _ _ => 0) ⟨#[], args, []⟩).memory :=
  laidMet_of_run (ps := [.cell 0 0, .cell (World.holding Tryd.prog default ⟨#[], #[], []⟩).heap.size 0, .cell 1 0, .cell ((World.holding Tryd.prog default ⟨#[], #[], []⟩).heap.size + 1) 0]) 8 (by kernel_rfl) (by kernel_rfl) (by kernel_rfl)

/-- A []byte argument, opened. -/
theorem bytes_open {H : Type} {enc : TypeId × Value → H} {W : World} {n : Nat} {a : Option Addr} {len cap : Nat} {x : DataW H × List MemPlace} (h : DataW.trod enc Tryd.prog W 0 (fun _ => true) true n 22 [.slice a len cap] = some x) :
    ∃ z, len ≤ 9223372036854775807 ∧ (a = none → len = 0 ∧ cap = 0) ∧ BytesAt W a len z := by
  rcases open_ints Tryd.underlying22 Tryd.underlying5 cells5s h with ⟨hcs, _⟩ | ⟨a', len', cap', zs, hcs, _, hl, hm, hz, _, hcell, _⟩
  · simp only [List.cons.injEq, Value.slice.injEq, and_true] at hcs
    obtain ⟨rfl, rfl, rfl⟩ := hcs
    exact ⟨fun _ => 0, by omega, fun _ => ⟨rfl, rfl⟩, Or.inl rfl⟩
  · simp only [List.cons.injEq, Value.slice.injEq, and_true] at hcs
    obtain ⟨rfl, rfl, rfl⟩ := hcs
    simp only [if_true] at hz
    unfold maxLen at hm
    refine ⟨fun j => zs.getD j 0, by omega, fun h => by simp at h, ?_⟩
    by_cases h0 : len = 0
    · exact Or.inl h0
    · right
      obtain ⟨b, off, rfl, hc⟩ := ints_at hcell (by omega)
      have hlt := World.block_lt_of_cell? _ _ (hc 0 (by omega))
      exact ⟨b, off, rfl, hlt, fun j hj => hc j (by omega)⟩

set_option maxRecDepth 100000 in
set_option maxHeartbeats 1000000 in
theorem law_lifted (os : Os) (started : os.Started) (H : Type) (enc : TypeId × Value → H) :
    ReturnsInHanded {} Tryd.checked os 3 .any (fun w args => (Rows.fnFillDoublesBufferThenReadDrainsSpec.pre enc Tryd.prog Tryd.f3 [] false w args ∧ laidMetH Tryd.prog Rows.fnFillDoublesBufferThenReadDrainsRow.laid w) ∧ sizedMet enc Tryd.prog Tryd.f3 (OpenSpec.ofChange Rows.fnFillDoublesBufferThenReadDrainsSpec) false w args)
      (Rows.fnFillDoublesBufferThenReadDrainsSpec.post enc Tryd.prog Tryd.f3 false true false false) := by
  refine returnsInHanded_of_change_and (C := Tryd.checked) (X := fun w _ => laidMetH Tryd.prog Rows.fnFillDoublesBufferThenReadDrainsRow.laid w) (fun _ _ _ hh h => h.of_heap hh) own started (by kernel_rfl) Tryd.func3
    (ChangeSpec.witness_at (enc := enc) (C := Tryd.checked) (os := os) (X := fun w _ => laidMetH Tryd.prog Rows.fnFillDoublesBufferThenReadDrainsRow.laid w) false _ #[.slice none 0 0, .int .i64 0, .int .i64 0] 8 rfl (by kernel_rfl) (by kernel_rfl) (by kernel_rfl) (by kernel_rfl) (by kernel_rfl) (laid_start os _)) ?_
  intro W base args ds gs before hval0 hW _ _ hL _
  have hval : ∀ (j : Nat) t v, Tryd.f3.params[j]? = some t → args[j]? = some v → Value.okWide Tryd.prog W .any base t v := hval0
  have hW' := hW
  obtain ⟨p, q, hA0, hV, rfl, hfz, hnd⟩ := hW
  have hA : DataW.TrodAll enc Tryd.prog W 0 (fun _ => true) true Tryd.f3.params.toList args.toList ds p := hA0
  rw [Tryd.params3] at hA hval
  obtain ⟨v0, v1, v2, d0, d1, d2, p0, p1, p2, rfl, rfl, rfl, h0, h1, h2⟩ := trodAll_three hA
  obtain ⟨rfl, rfl⟩ := trodVars_none hV
  obtain ⟨m, rfl, rfl, rfl, w1⟩ := open_int Tryd.underlying3 (hval 1 3 v1 rfl rfl) h1
  obtain ⟨k, rfl, rfl, rfl, w2⟩ := open_int Tryd.underlying3 (hval 2 3 v2 rfl rfl) h2
  clear hA0 hval0 hA
  have h0k := h0
  obtain ⟨a0, len0, cap0, rfl⟩ := okWide_slice Tryd.underlying22 (hval 0 22 v0 rfl rfl)
  obtain ⟨fuel, hf⟩ := h0
  obtain ⟨z, hlen, hnil, hB⟩ := bytes_open hf
  obtain ⟨aE, aU, hE, hU⟩ := sentinels hL
  have b1 := i64_bounds w1
  have b2 := i64_bounds w2
  have hs2 : 2 ≤ W.heap.size := World.block_lt_of_cell? _ _ hU
  refine (law_any a0 len0 cap0 m k z W aE (some aU) hlen b1.1 b1.2 b2.1 b2.2 hnil hB hs2 hE hU).mono fun e W' ⟨he, hb⟩ => ?_
  subst he
  have hlt : ∀ x ∈ p0, x.block < W.heap.size := fun x hx => hW'.lt x (by simp [hx])
  refine ⟨_, rfl, _, _, _, [], p0 ++ ([] ++ []), [], hW', ?_, ?_, rfl, hb.frame _, fun h => by cases h⟩
  · exact trodAll_mk1 (shut_bool Tryd.underlying4 _)
  · exact trodAll_mk3 (Below.trod laidOutD read22 row22 h0k hb hlt) (shut_int Tryd.underlying3 w1) (shut_int Tryd.underlying3 w2)

theorem row_holds : Rows.FnFillDoublesBufferThenReadDrainsSaid :=
  OpenClaim.holds_of_wide 3 Tryd.f3 rfl rfl rfl rfl rfl rfl rfl ⟨rfl, rfl, rfl, rfl, rfl⟩ rfl rfl rfl rfl rfl (by kernel_rfl) Tryd.func3 (by kernel_rfl)
    (of_decide_eq_true (by kernel_rfl)) (by unfold Func.isWrapper; first | (rw [if_pos (by decide +kernel)]; kernel_rfl) | (rw [if_neg (by decide +kernel)]; exact ⟨rfl, rfl⟩))
    (fun os started H enc _ => law_lifted os started H enc)

theorem proved : Rows.FnFillDoublesBufferThenReadDrainsCardSaid :=
  Claim7.holds_tied_plain_at .later [] [.sentinel, .sentinel] true (true, "4c0b24c1bf7298e797911aa2ccb527310a516bc991f4302edceae09156939af7") true
    row_holds (fun _ h => by cases h) (by kernel_rfl) (fun _ h => by cases h) fnFillDoublesBufferThenReadDrains_row_tie rfl ⟨rfl, rfl⟩ (by kernel_rfl) rfl
    (fun f fn hf hfn => by
      obtain rfl : f = 3 := Option.some.inj ((show Tryd.prog.funcNamed "example.com/sediment/sediment/zzlaws_handoff_b1.FnFillDoublesBufferThenReadDrains" = some 3 by kernel_rfl).symm.trans hf) |>.symm
      obtain rfl : fn = Tryd.f3 := (Option.some.inj (Tryd.func3.symm.trans hfn)).symm
      exact ⟨by kernel_rfl, fun j t ht => by
        rw [Tryd.params3] at ht
        have h3 : t = 22 ∨ t = 3 := by
          rcases j with _ | _ | _ | j
          · left; simpa using ht.symm
          · right; simpa using ht.symm
          · right; simpa using ht.symm
          · simp at ht
        rcases h3 with rfl | rfl
        · exact (show Tryd.prog.wantsStandIn 22 = false by kernel_rfl)
        · exact (show Tryd.prog.wantsStandIn 3 = false by kernel_rfl)⟩)
    (by kernel_rfl)
end Go.Proofs.Qxb6616506aDoor
