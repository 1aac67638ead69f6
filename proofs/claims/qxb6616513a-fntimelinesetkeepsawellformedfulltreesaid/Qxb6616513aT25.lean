import Derived.Test.Qxb6616513aT24
import Derived.Test.Qxb6616513aD
namespace Go.Proofs.Qxb6616513a
open Go.RowKit

/-- The law's answer. -/
def TruePost (w : World) (e : Ending) (w' : World) : Prop := e = .returned (.bool true) ∧ Below w.heap.size w w'

/-- A row's value and its cells. -/
theorem row_open {w : World} {B : Nat} {e : TypeId} {v : Value} {n : Nat} {xs : List Value} (h : w.ownsRow B e 1 v n xs) : ∃ a c, v = .slice a n c ∧ (n = 0 ∨ ∃ g, a = some ⟨g, 0, none⟩ ∧ g < w.heap.size ∧ ∀ j x, xs[j]? = some x → w.cell? ⟨g, j, none⟩ = some x) := by
  have h0 := h
  rcases h.2 with ⟨rfl, rfl⟩ | ⟨g, cap, cur, rfl, hb, hg, _⟩
  · exact ⟨none, 0, rfl, Or.inl rfl⟩
  · refine ⟨_, _, rfl, Or.inr ⟨g, rfl, (Array.getElem?_eq_some_iff.1 hg).1, fun j x hx => ?_⟩⟩
    have hl := (List.getElem?_eq_some_iff.1 hx).1
    rw [h.1] at hl
    exact (h0.cellAt j (by omega)).trans hx

theorem Two.below {w w' : World} {B : Nat} {v1 v2 : Value} {ps : List (Int × Nat)} (h : Two w B v1 v2 ps) (hb : Below w.heap.size w w') : Two w' B v1 v2 ps :=
  ⟨ownsRow_same h.1 fun b hb' => hb.block b (h.1.lt b hb').2, ownsRow_same h.2 fun b hb' => hb.block b (h.2.lt b hb').2⟩

/-- The cells of two rows at one place. -/
theorem Two.cells {w : World} {B : Nat} {a1 a2 : Option Addr} {n c1 c2 : Nat} {ps : List (Int × Nat)} (h : Two w B (.slice a1 n c1) (.slice a2 n c2) ps) {j : Nat} {p : Int × Nat} (hp : ps[j]? = some p) :
    ∃ g1 g2, a1 = some ⟨g1, 0, none⟩ ∧ a2 = some ⟨g2, 0, none⟩ ∧ g1 < w.heap.size ∧ g2 < w.heap.size ∧ w.cell? ⟨g1, j, none⟩ = some (.int .i64 p.1) ∧ w.cell? ⟨g2, j, none⟩ = some (.float .f64 p.2) := by
  have hl := (List.getElem?_eq_some_iff.1 hp).1
  obtain ⟨b1, d1, e1, h1⟩ := row_open h.1
  obtain ⟨b2, d2, e2, h2⟩ := row_open h.2
  simp only [Value.slice.injEq] at e1 e2
  obtain ⟨rfl, -, rfl⟩ := e1
  obtain ⟨rfl, -, rfl⟩ := e2
  rcases h1 with h0 | ⟨g1, rfl, l1, x1⟩
  · omega
  · rcases h2 with h0 | ⟨g2, rfl, l2, x2⟩
    · omega
    · exact ⟨g1, g2, rfl, rfl, l1, l2, x1 j _ (by rw [List.getElem?_map, hp]; rfl), x2 j _ (by rw [List.getElem?_map, hp]; rfl)⟩

/-- What stands while the script is set. -/
structure Tl (w wr : World) (b0 : Nat) (z : Nat → Int) (v : Nat → Nat) (k : Nat) (h : Nat) (t : HT h) : Prop where
  blk' : blk h t = b0
  at' : At wr h t
  wf : WF h (er h t)
  fl : flat h (er h t) = ups z v k
  nd : (foot h t).Nodup
  ge : ∀ x ∈ foot h t, w.heap.size ≤ x
  bel : Below w.heap.size w wr

theorem Tl.ok {w wr : World} {b0 : Nat} {z : Nat → Int} {v : Nat → Nat} {k h : Nat} {t : HT h} (T : Tl w wr b0 z v k h t) : Ok h (er h t) := wf_ok h _ T.wf (by rw [T.fl]; exact ups_asc z v k)

theorem Tl.step {w wr w' : World} {b0 : Nat} {z : Nat → Int} {v : Nat → Nat} {k h : Nat} {t : HT h} (T : Tl w wr b0 z v k h t) (hp : RootPost h t (z k, v k) wr w') : ∃ h' t', Tl w w' b0 z v (k + 1) h' t' := by
  obtain ⟨h', t', p1, p2, p3, p4, p5, p6⟩ := hp
  obtain ⟨s1, s2⟩ := setRoot_spec h (er h t) (z k, v k) T.wf (by rw [T.fl]; exact ups_asc z v k)
  rw [p3] at s1 s2
  refine ⟨h', t', p1.trans T.blk', p2, s1, ?_, p4, fun x hx => ?_, ?_⟩
  · show flat h' (er h' t') = up (ups z v k) (z k, v k)
    rw [s2, T.fl]
  · rcases p6 x hx with h1 | h1
    · exact T.ge x h1
    · exact Nat.le_trans T.bel.size h1
  · exact T.bel.trans ((p5.below w.heap.size T.bel.size T.ge))

theorem Tl.below {w wr w' : World} {b0 : Nat} {z : Nat → Int} {v : Nat → Nat} {k h : Nat} {t : HT h} (T : Tl w wr b0 z v k h t) (hb : Below wr.heap.size wr w') : Tl w w' b0 z v k h t :=
  ⟨T.blk', (Below.keeps hb []).at T.at' (by simp), T.wf, T.fl, T.nd, T.ge, T.bel.trans (hb.mono T.bel.size)⟩
theorem Tl.drewN {w wr : World} {b0 : Nat} {z : Nat → Int} {v : Nat → Nat} {k h : Nat} {t : HT h} (T : Tl w wr b0 z v k h t) (w' : World) (s : SameH wr w') : Tl w w' b0 z v k h t :=
  ⟨T.blk', s.at T.at', T.wf, T.fl, T.nd, T.ge, ⟨s.os.trans T.bel.os, s.tape.trans T.bel.tape, s.output.trans T.bel.output, by rw [s.heap]; exact T.bel.size, fun k hk => by rw [s.heap]; exact T.bel.block k hk⟩⟩

set_option maxHeartbeats 4000000 in
set_option maxRecDepth 100000 in
theorem f4_main (a1 a2 : Option Addr) (n c1 c2 : Nat) (z : Nat → Int) (v : Nat → Nat) (hn : n ≤ 65536) (w : World) (h1 : IntsAt w a1 n z) (h2 : FloatsAt w a2 n v) :
    Calls Try.prog 4 #[.slice a1 n c1, .slice a2 n c2] w (TruePost w) := by
  have q11 := zzBytes11 a1 a2 n c1 n c2 w (by omega) (by omega)
  rw [decide_eq_true (by omega)] at q11
  have hll : (((n : Nat) : Int) != ((n : Nat) : Int)) = false := by simp
  have HA : Hid (IntsAt w a1 n z ∧ FloatsAt w a2 n v) := ⟨h1, h2⟩
  clear h1 h2
  go_enter Try.func4, Try.ntmps4
  go_wp2_with fail
  refine q11.mono ?_
  rintro e w0 ⟨rfl, rfl⟩
  clear q11
  go_wp2_with fail
  refine (zznew_any w0).mono ?_
  rintro e w1 ⟨rfl, hw1⟩
  obtain ⟨b0, hb0⟩ : ∃ b0, b0 = w0.heap.size := ⟨_, rfl⟩
  have T0 : Hid (Tl w0 w1 b0 z v 0 0 (b0, .slice none 0 0, [])) := by
    rw [hw1, hb0]
    refine ⟨rfl, ⟨⟨60, heap_alloc_new w0 _⟩, World.ownsRow_nil _ _ _ _⟩, Nat.zero_le _, rfl, by simp [foot, Value.ownBlock], by simp [foot, Value.ownBlock], (Below.refl _ _).alloc (Nat.le_refl _) _⟩
  rw [← hb0]
  clear hw1 hb0
  go_wp2_with fail
  go_loopw [6] (fun i wr => ∃ (k : Nat), k ≤ n ∧ i = .int .i64 k ∧ ∃ h t, Tl w0 wr b0 z v k h t) (fun i _ => n - (intOf i).toNat)
  case atStart => exact ⟨0, Nat.zero_le _, rfl, 0, _, T0.out⟩
  case round =>
    clear T0
    obtain ⟨k, hk, rfl, h, t, T⟩ := hrel
    by_cases hkn : k < n
    · obtain ⟨d1, hd1, hc1⟩ : ∃ d : Addr, a1 = some d ∧ ∀ j, j < n → w0.cell? (d.add j) = some (.int .i64 (z j)) := by
        rcases HA.out.1 with h0 | h0
        · omega
        · exact h0
      obtain ⟨d2, hd2, hc2⟩ : ∃ d : Addr, a2 = some d ∧ ∀ j, j < n → w0.cell? (d.add j) = some (.float .f64 (v j)) := by
        rcases HA.out.2 with h0 | h0
        · omega
        · exact h0
      subst hd1 hd2
      have e1 := (T.bel.cell (p := d1.add k) (World.block_lt_of_cell? _ _ (hc1 k hkn))).trans (hc1 k hkn)
      have e2 := (T.bel.cell (p := d2.add k) (World.block_lt_of_cell? _ _ (hc2 k hkn))).trans (hc2 k hkn)
      have q13 : Calls Try.prog 13 #[.pointer (some ⟨b0, 0, none⟩), .int .i64 (z k), .float .f64 (v k)] wr.drew fun e w' => e = .returned (.tuple #[]) ∧ Hid (∃ h' t', Tl w0 w' b0 z v (k + 1) h' t') ∧ w'.cell? (d1.add k) = some (.int .i64 (z k)) ∧ w'.cell? (d2.add k) = some (.float .f64 (v k)) := by
        have Td := T.drewN wr.drew ⟨rfl, rfl, rfl, rfl⟩
        rw [← T.blk']
        refine (zzset_any h t (z k) (v k) wr.drew Td.at' Td.ok Td.nd).mono ?_
        rintro e w' ⟨rfl, hp⟩
        have hs := Td.step hp
        rw [T.blk']
        obtain ⟨h', t', T'⟩ := hs
        exact ⟨rfl, ⟨h', t', T'⟩, (T'.bel.cell (p := d1.add k) (World.block_lt_of_cell? _ _ (hc1 k hkn))).trans (hc1 k hkn), (T'.bel.cell (p := d2.add k) (World.block_lt_of_cell? _ _ (hc2 k hkn))).trans (hc2 k hkn)⟩
      clear T hc1 hc2
      go_wp2_with fail
      go_region_held3 (fun w' => w'.cell? (d1.add k) = some (.int .i64 (z k)) ∧ w'.cell? (d2.add k) = some (.float .f64 (v k))) (go_keep)
        ((go_at_call 13; refine q13.mono ?_; rintro e w5 ⟨rfl, HT5, x1, x2⟩))
      rename_i hHeld
      clear hHeld q13 x1 x2 e1 e2
      go_wp2_with fail
      go_roundw
      case rel =>
        obtain ⟨h', t', T'⟩ := HT5.out
        exact ⟨k + 1, by omega, by go_num, h', t', T'⟩
      case measure => simp [intOf]; omega
    · obtain rfl : k = n := by omega
      have hfl := T.fl
      have hul : (ups z v k).length ≤ 65536 := Nat.le_trans (ups_length z v k) hn
      obtain ⟨U, hU⟩ : ∃ U, U = ups z v k := ⟨_, rfl⟩
      have q14 : Calls Try.prog 14 #[.pointer (some ⟨b0, 0, none⟩), .slice none 0 0, .slice none 0 0] wr fun e w5 => ∃ ag cg av cv, e = .returned (.tuple #[.slice ag U.length cg, .slice av U.length cv]) ∧ Hid (Two w5 wr.heap.size (.slice ag U.length cg) (.slice av U.length cv) U ∧ Tl w0 w5 b0 z v k h t ∧ IntsAt w5 a1 k z ∧ FloatsAt w5 a2 k v) := by
        rw [← T.blk']
        refine (col_any h t wr wr.heap.size (.slice none 0 0) (.slice none 0 0) [] T.at' T.ok (At.lt h t T.at') (Nat.le_refl _) ⟨World.ownsRow_nil _ _ _ _, World.ownsRow_nil _ _ _ _⟩ (by rw [hfl]; simpa using hul)).mono ?_
        rintro e w5 ⟨v1, v2, rfl, hT, hB⟩
        rw [List.nil_append, hfl, ← hU] at hT
        obtain ⟨ag, cg, rfl, -⟩ := row_open hT.1
        obtain ⟨av, cv, rfl, -⟩ := row_open hT.2
        have T5 := T.below hB
        have hA := HA.out
        refine ⟨ag, cg, av, cv, rfl, hT, T.blk' ▸ T5, ?_, ?_⟩
        · rcases hA.1 with h0 | ⟨d, hd, hc⟩
          · exact Or.inl h0
          · exact Or.inr ⟨d, hd, fun j hj => (T5.bel.cell (p := d.add j) (World.block_lt_of_cell? _ _ (hc j hj))).trans (hc j hj)⟩
        · rcases hA.2 with h0 | ⟨d, hd, hc⟩
          · exact Or.inl h0
          · exact Or.inr ⟨d, hd, fun j hj => (T5.bel.cell (p := d.add j) (World.block_lt_of_cell? _ _ (hc j hj))).trans (hc j hj)⟩
      have HU : Hid (U = ups z v k ∧ U.length ≤ 65536) := ⟨hU, by rw [hU]; exact hul⟩
      have hUl : U.length ≤ 65536 := HU.out.2
      clear T hfl hul hU HA
      go_wp2_with fail
      refine (zzroot_any b0 wr).mono ?_
      rintro e w2 ⟨rfl, rfl⟩
      go_wp2_with fail
      refine q14.mono ?_
      rintro e w5 ⟨ag, cg, av, cv, rfl, H5⟩
      clear q14
      have q16 : Calls Try.prog 16 #[.slice a1 k c1, .slice a2 k c2] w5 fun e w6 => ∃ am cm aw cw, e = .returned (.tuple #[.slice am U.length cm, .slice aw U.length cw]) ∧ Hid (Two w6 w5.heap.size (.slice am U.length cm) (.slice aw U.length cw) U ∧ Below w5.heap.size w5 w6) := by
        refine (lastPerTime_any a1 a2 k c1 c2 z v hn w5 H5.out.2.2.1 H5.out.2.2.2).mono ?_
        rintro e w6 ⟨l, hp, hs, v1, v2, rfl, hT, hB⟩
        rw [lpt_ups z v k l hp hs, ← HU.out.1] at hT
        obtain ⟨am, cm, rfl, -⟩ := row_open hT.1
        obtain ⟨aw, cw, rfl, -⟩ := row_open hT.2
        exact ⟨am, cm, aw, cw, rfl, hT, hB⟩
      go_wp2_with fail
      refine q16.mono ?_
      rintro e w6 ⟨am, cm, aw, cw, rfl, H6⟩
      clear q16
      have q17 : Calls Try.prog 17 #[.pointer (some ⟨b0, 0, none⟩)] w6 fun e w7 => e = .returned (.int .i64 (U.length : Nat)) ∧ Hid (Below w6.heap.size w6 w7) := by
        have T6 := H5.out.2.1.below H6.out.2
        rw [← T6.blk']
        refine (zzlen_any h t w6 T6.at' T6.ok (by rw [T6.fl, ← HU.out.1]; exact hUl)).mono ?_
        rintro e w7 ⟨rfl, hB⟩
        rw [T6.fl, ← HU.out.1]
        exact ⟨rfl, hB⟩
      have hLL : (((U.length : Nat) : Int) != ((U.length : Nat) : Int)) = false := by simp
      go_wp2_with fail
      refine q17.mono ?_
      rintro e w7 ⟨rfl, H7⟩
      clear q17
      have HZ : Hid (Two w7 0 (.slice ag U.length cg) (.slice av U.length cv) U ∧ Two w7 0 (.slice am U.length cm) (.slice aw U.length cw) U ∧ Below w0.heap.size w0 w7) := by
        have hb56 := H6.out.2
        have hb67 := H7.out
        have t5 := (H5.out.1.below hb56).below hb67
        have t6 := H6.out.1.below hb67
        have b0' := H5.out.2.1.bel
        refine ⟨⟨own_base t5.1 (Nat.zero_le _), own_base t5.2 (Nat.zero_le _)⟩, ⟨own_base t6.1 (Nat.zero_le _), own_base t6.2 (Nat.zero_le _)⟩, (b0'.trans (hb56.mono b0'.size)).trans (hb67.mono (Nat.le_trans b0'.size hb56.size))⟩
      clear H5 H6 H7
      obtain ⟨L, hL⟩ : ∃ L, L = U.length := ⟨_, rfl⟩
      rw [← hL] at hLL hUl HZ
      rw [← hL]
      have HL : Hid (L = U.length) := hL
      clear hL
      go_wp2_with fail
      go_loopw [11] (fun vi wr => ∃ (i : Nat), i ≤ L ∧ vi = .int .i64 i ∧ Below w7.heap.size w7 wr) (fun vi _ => L - (intOf vi).toNat)
      case atStart => exact ⟨0, Nat.zero_le _, rfl, Below.refl _ _⟩
      case round =>
        obtain ⟨i, hi, rfl, hB⟩ := hrel
        by_cases hiL : i < L
        · obtain ⟨p, hp⟩ : ∃ p, U[i]? = some p := ⟨_, List.getElem?_eq_getElem (by rw [← HL.out]; exact hiL)⟩
          obtain ⟨g1, g2, rfl, rfl, m1, m2, x1, x2⟩ := HZ.out.1.cells hp
          obtain ⟨g3, g4, rfl, rfl, m3, m4, x3, x4⟩ := HZ.out.2.1.cells hp
          have y1 := (hB.cell (p := ⟨g1, i, none⟩) m1).trans x1
          have y2 := (hB.cell (p := ⟨g2, i, none⟩) m2).trans x2
          have y3 := (hB.cell (p := ⟨g3, i, none⟩) m3).trans x3
          have y4 := (hB.cell (p := ⟨g4, i, none⟩) m4).trans x4
          have q18 := sameFloat_refl p.2
          have hpp : (p.1 != p.1) = false := by simp
          have HBk : Hid (Below w7.heap.size w7 wr) := hB
          clear hp hB x1 x2 x3 x4
          go_wp2_with fail
          go_quiet ((go_at_call 18; exact Calls.quiet_of_same (q18 _)))
          go_wp2_with fail
          go_roundw
          case rel => exact ⟨i + 1, by omega, by go_num, below_drewN HBk.out _⟩
          case measure => simp [intOf]; omega
        · have HE : Hid (Below w0.heap.size w0 wr) := HZ.out.2.2.trans (hB.mono HZ.out.2.2.size)
          clear hB
          go_wp2_with fail
          go_ret
          exact ⟨rfl, HE.out⟩

end Go.Proofs.Qxb6616513a
