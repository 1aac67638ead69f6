import Derived.Test.Qxb6616336aFmtE
import Derived.Maps.Own
import Derived.Maps.OwnSet
import Derived.ProofKit
namespace Go.Proofs.Qxb6616336aFmt
open Go.RowKit Go.Maps
open Go.WideMaps (keyOf_string_mk)

theorem Tryf.laidOut : laidOutB Tryf.prog = true := by kernel_rfl
theorem row66 : 66 < Tryf.prog.types.size := by rw [show Tryf.prog.types.size = 130 from by kernel_rfl]; omega
theorem wide66 : (match Tryf.prog.underlying 66 with | some (.array _ _) | some (.struct _) => true | _ => false) = true := by kernel_rfl
theorem keyT66 : Tryf.prog.keyTypeAt 2 66 = true := by kernel_rfl
set_option maxRecDepth 100000 in
theorem lawS : Keyed Tryf.prog 9 := string_keyed Tryf.underlying9
set_option maxRecDepth 100000 in
theorem lawR : Keyed Tryf.prog 66 := Keyed.of_law (deep_law_laid Tryf.laidOut (m := 2) (by omega) row66 keyT66 wide66)

/-- How a key of two strings reads. -/
def keyR (a b : ByteArray) : Lit := .string (keyBytes [.string a.data.toList, .string b.data.toList])
theorem kt66 : Tryf.prog.keyType 66 = true := by kernel_rfl
theorem types130 : Tryf.prog.types.size = 130 := by kernel_rfl
theorem cells66 : Tryf.prog.cellsOf 66 = 2 := by kernel_rfl
theorem cells9 : Tryf.prog.cellsOf 9 = 1 := by kernel_rfl
theorem keyLits_str (d : Nat) (a : ByteArray) (ha : a.size ≤ maxLen) : Tryf.prog.keyLits (d + 1) 9 [.string a] = some [.string a.data.toList] := by
  simp [Program.keyLits, Tryf.underlying9, ha]
theorem keyLits_two (d : Nat) (a b : ByteArray) (ha : a.size ≤ maxLen) (hb : b.size ≤ maxLen) : Tryf.prog.keyLits (d + 1 + 1) 66 [.string a, .string b] = some [.string a.data.toList, .string b.data.toList] := by
  unfold Program.keyLits
  rw [Tryf.underlying66]
  simp [cells66, cells9, keyLits_str d a ha, keyLits_str d b hb]
theorem formed66 (a b : ByteArray) : (Value.agg #[.string a, .string b]).formed Tryf.prog 66 = true := by
  simp [Value.formed, Tryf.underlying66, cells66]
theorem keyOf_two (a b : ByteArray) (ha : a.size ≤ maxLen) (hb : b.size ≤ maxLen) : keyOf Tryf.prog 66 (.agg #[.string a, .string b]) = some (keyR a b) := by
  have h := keyLits_two (Tryf.prog.types.size + 1 - 2) a b ha hb
  rw [show Tryf.prog.types.size + 1 - 2 + 1 + 1 = Tryf.prog.types.size + 1 from by rw [types130]] at h
  unfold keyOf
  rw [Tryf.underlying66]
  simp only [kt66, formed66, Bool.and_self, if_true]
  rw [show (Value.agg #[.string a, .string b]).cells.toList = [.string a, .string b] from rfl, h]
  rfl

/-- An element as it lies: a token of itself. -/
def tokR (v : Value) : Option (DataW Value × List MemPlace) := some (.held v, [])

/-- Block b is a map from strings; at each key F. -/
def TMap (w : World) (b n : Nat) (F : ByteArray → Value) : Prop :=
  ∃ D, w.ownsMap Tryf.prog 9 tokR b n D ∧ ∀ s : ByteArray, s.size ≤ maxLen → D.atKey (.string s.data.toList) (.held (.pointer none)) = .held (F s)

/-- Block b is a map from pairs of strings; at each key G. -/
def RMap (w : World) (b n : Nat) (G : ByteArray → ByteArray → Value) : Prop :=
  ∃ D, w.ownsMap Tryf.prog 66 tokR b n D ∧ ∀ s t : ByteArray, s.size ≤ maxLen → t.size ≤ maxLen → D.atKey (keyR s t) (.held (.pointer none)) = .held (G s t)

theorem zero64 (w : World) : (zeroValue 64).run Tryf.prog w = .ok (.pointer none) w := by kernel_rfl
theorem zero33 (w : World) : (zeroValue 33).run Tryf.prog w = .ok (.pointer none) w := by kernel_rfl

theorem TMap.heap {w w' : World} {b n : Nat} {F : ByteArray → Value} (h : TMap w b n F) (e : w'.heap[b]? = w.heap[b]?) : TMap w' b n F := by
  obtain ⟨D, ⟨es, clock, hb, r⟩, hD⟩ := h
  exact ⟨D, ⟨es, clock, e.trans hb, r⟩, hD⟩
theorem RMap.heap {w w' : World} {b n : Nat} {G : ByteArray → ByteArray → Value} (h : RMap w b n G) (e : w'.heap[b]? = w.heap[b]?) : RMap w' b n G := by
  obtain ⟨D, ⟨es, clock, hb, r⟩, hD⟩ := h
  exact ⟨D, ⟨es, clock, e.trans hb, r⟩, hD⟩
theorem TMap.lt {w : World} {b n : Nat} {F : ByteArray → Value} (h : TMap w b n F) : b < w.heap.size := by
  obtain ⟨D, h, _⟩ := h
  exact h.lt
theorem RMap.lt {w : World} {b n : Nat} {G : ByteArray → ByteArray → Value} (h : RMap w b n G) : b < w.heap.size := by
  obtain ⟨D, h, _⟩ := h
  exact h.lt

theorem TMap.look {w : World} {b n : Nat} {F : ByteArray → Value} (h : TMap w b n F) (s : ByteArray) (hs : s.size ≤ maxLen) :
    (Instr.lookup 60 (.map (some b)) (.string s) false).run Tryf.prog w = .ok (F s) w := by
  obtain ⟨D, hown, hD⟩ := h
  obtain ⟨v, ps, hrun, hv⟩ := hown.lookup lawS Tryf.underlying60 (zero64 w) (zd := .held (.pointer none)) (zp := []) rfl (keyOf_string_mk Tryf.underlying9 hs)
  rw [hD s hs] at hv
  simp only [tokR, Option.some.injEq, Prod.mk.injEq, DataW.held.injEq] at hv
  rw [hrun, hv.1]

theorem RMap.look {w : World} {b n : Nat} {G : ByteArray → ByteArray → Value} (h : RMap w b n G) (s t : ByteArray) (hs : s.size ≤ maxLen) (ht : t.size ≤ maxLen) :
    (Instr.lookup 61 (.map (some b)) (.agg #[.string s, .string t]) false).run Tryf.prog w = .ok (G s t) w := by
  obtain ⟨D, hown, hD⟩ := h
  obtain ⟨v, ps, hrun, hv⟩ := hown.lookup lawR Tryf.underlying61 (zero33 w) (zd := .held (.pointer none)) (zp := []) rfl (keyOf_two s t hs ht)
  rw [hD s t hs ht] at hv
  simp only [tokR, Option.some.injEq, Prod.mk.injEq, DataW.held.injEq] at hv
  rw [hrun, hv.1]

theorem TMap.store {w : World} {b n : Nat} {F : ByteArray → Value} (h : TMap w b n F) (hn : n < maxLen) (s : ByteArray) (hs : s.size ≤ maxLen) (v : Value) (F' : ByteArray → Value) (h1 : F' s = v) (h2 : ∀ t, t ≠ s → F' t = F t) :
    ∃ w', (Instr.mapUpdate 60 (.map (some b)) (.string s) v).run Tryf.prog w = .ok () w' ∧ TMap w' b (n + 1) F' ∧ w.grownBy w' (some b) ∧ w'.drawn = w.drawn := by
  obtain ⟨D, hown, hD⟩ := h
  have hk := keyOf_string_mk Tryf.underlying9 hs
  obtain ⟨w', hrun, hown', ht⟩ := hown.store lawS Tryf.underlying60 hn hk (val := v) (d := .held v) (ps := []) rfl
  refine ⟨w', hrun, ⟨_, hown', fun t htl => ?_⟩, ht.grown, ?_⟩
  · by_cases e : t = s
    · subst e
      rw [atKey_put_same hown.isMap (lawS.key hk), h1]
    · have hk2 := keyOf_string_mk Tryf.underlying9 htl
      rw [atKey_put_other, hD t htl, h2 t e]
      intro e'
      rw [e'] at hk2
      have := lawS.inj hk2 hk
      simp at this
      exact e this
  · obtain ⟨_, _, _, _, _, rfl⟩ := ht
    rfl

theorem RMap.store {w : World} {b n : Nat} {G : ByteArray → ByteArray → Value} (h : RMap w b n G) (hn : n < maxLen) (s t : ByteArray) (hs : s.size ≤ maxLen) (ht : t.size ≤ maxLen) (v : Value) (G' : ByteArray → ByteArray → Value)
    (h1 : G' s t = v) (h2 : ∀ x y, (x, y) ≠ (s, t) → G' x y = G x y) :
    ∃ w', (Instr.mapUpdate 61 (.map (some b)) (.agg #[.string s, .string t]) v).run Tryf.prog w = .ok () w' ∧ RMap w' b (n + 1) G' ∧ w.grownBy w' (some b) ∧ w'.drawn = w.drawn := by
  obtain ⟨D, hown, hD⟩ := h
  have hk := keyOf_two s t hs ht
  obtain ⟨w', hrun, hown', htn⟩ := hown.store lawR Tryf.underlying61 hn hk (val := v) (d := .held v) (ps := []) rfl
  refine ⟨w', hrun, ⟨_, hown', fun x y hx hy => ?_⟩, htn.grown, ?_⟩
  · by_cases e : (x, y) = (s, t)
    · simp only [Prod.mk.injEq] at e
      obtain ⟨rfl, rfl⟩ := e
      rw [atKey_put_same hown.isMap (lawR.key hk), h1]
    · have hk2 := keyOf_two x y hx hy
      rw [atKey_put_other, hD x y hx hy, h2 x y e]
      intro e'
      rw [e'] at hk2
      have := lawR.inj hk2 hk
      simp at this
      exact e (by rw [this.1, this.2])
  · obtain ⟨_, _, _, _, _, rfl⟩ := htn
    rfl
end Go.Proofs.Qxb6616336aFmt
