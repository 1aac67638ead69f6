import Derived.Test.Qxb6616506aDoorH
namespace Go.Proofs.Qxb6616506aDoor
open Go.RowKit

def Post3 (w : World) (e : Ending) (w' : World) : Prop := e = .returned (.bool true) ∧ Below w.heap.size w w'

/-- The reader as it is made. -/
theorem made_state {w w1 : World} {a : Option Addr} {l c d : Nat} {z : Nat → Int} (hb : Below w.heap.size w w1) (hD : DataAt w1 w.heap.size (.slice a l c) d z) :
    St w ((w1.alloc (.cells #[.slice a l c, .int .i64 0, .int .i64 (-1)] 46)).alloc (.cells #[.iface 35 (.pointer (some ⟨w1.heap.size, 0, none⟩)), .slice none 0 0] 41)) (.slice a l c) d z w1.heap.size (w1.heap.size + 1) 0 (.slice none 0 0) where
  bel := (hb.alloc hb.size _).alloc (by have := hb.size; simp; omega) _
  dat := hD.same fun bd hbd => by
    have := (hD.lt bd hbd).1
    rw [Below.heap_alloc _ _ _ (by simp; omega), Below.heap_alloc _ _ _ this]
  rb := ⟨-1, by rw [heap_alloc2_old]; rfl⟩
  rh := heap_alloc2_new _ _ _
  bge := hb.size
  hge := by have := hb.size; omega

theorem min_int (d x : Nat) (y : Int) (n : Nat) (w : World) (hy : y = (x : Int)) (hn : n = min d x) :
    Calls Tryd.prog 8 #[.int .i64 (d : Int), .int .i64 y] w fun e w' => e = .returned (.int .i64 (n : Int)) ∧ w' = w := by
  subst hy
  exact min_nat d x n w hn

theorem doubled {n d P : Nat} (h1 : 1 ≤ P) (hn : n = min d (4096 * (P - 1))) : (if n < d then min d (2 * n + 4096) else d) = min d (4096 * (P * 2 - 1)) := by
  split <;> omega

/-- The first loop's relation. -/
structure Rel1 (w wr : World) (dv : Value) (d : Nat) (z : Nat → Int) (bb bh M J P n cap : Nat) (bv : Value) : Prop where
  st : St w wr dv d z bb bh n bv
  buf : BufF wr w.heap.size dv bv n cap z
  full : n = d ∨ cap = n
  capb : cap ≤ 4194304
  jm : J ≤ M
  pw : P = 2 ^ J
  nn : n = min d (4096 * (P - 1))

theorem Rel1.pos {w wr : World} {dv : Value} {d : Nat} {z : Nat → Int} {bb bh M J P n cap : Nat} {bv : Value} (R : Rel1 w wr dv d z bb bh M J P n cap bv) (hM : M ≤ 12) : 1 ≤ P ∧ P ≤ 4096 := by
  have h1 : 1 ≤ 2 ^ J := Nat.one_le_two_pow
  have h2 : 2 ^ J ≤ 2 ^ 12 := Nat.pow_le_pow_right (by omega) (by have := R.jm; omega)
  rw [R.pw]
  exact ⟨h1, by simpa using h2⟩

/-- The second loop's relation. -/
structure Rel2 (w wr : World) (dv : Value) (d : Nat) (z : Nat → Int) (bb bh gp K pos c : Nat) (bv : Value) (row : Array Value) : Prop where
  st : St w wr dv d z bb bh pos bv
  buf : BufR wr w.heap.size gp bv c (pos - c) z
  prow : PRow w wr dv gp K row
  pd : pos ≤ d
  cp : c ≤ pos

theorem St.below {w0 w w' : World} {dv : Value} {d : Nat} {z : Nat → Int} {bb bh pos : Nat} {bv : Value} (S : St w0 w dv d z bb bh pos bv) (hb : Below w.heap.size w w') : St w0 w' dv d z bb bh pos bv where
  bel := S.bel.trans (hb.mono S.bel.size)
  dat := S.dat.same fun bd hbd => hb.block bd (S.dat.lt bd hbd).1
  rb := by
    obtain ⟨pr, h⟩ := S.rb
    exact ⟨pr, (hb.block _ (Array.getElem?_eq_some_iff.1 h).1).trans h⟩
  rh := (hb.block _ (Array.getElem?_eq_some_iff.1 S.rh).1).trans S.rh
  bge := S.bge
  hge := S.hge

theorem Rel1.toRel2 {w wr w3 : World} {dv : Value} {d : Nat} {z : Nat → Int} {bb bh M J P n cap : Nat} {bv : Value} {K : Nat} {xs : List Value} (R : Rel1 w wr dv d z bb bh M J P n cap bv)
    (hown : w3.ownsRow w.heap.size 5 1 (.slice (some ⟨wr.heap.size, 0, none⟩) K K) K xs) (hgrow : wr.grownBy w3 none) : ∃ row, Rel2 w w3 dv d z bb bh wr.heap.size K n 0 bv row := by
  obtain ⟨cs, hrow, hsz⟩ := made_row hown
  have hb : Below wr.heap.size wr w3 := (Below.refl _ _).grown hgrow (Nat.le_refl _) (fun k h => by cases h)
  refine ⟨cs, ⟨R.st.below hb, ?_, ⟨hrow, hsz, R.st.bel.size, fun e => ?_⟩, by have := R.nn; omega, Nat.zero_le _⟩⟩
  · rw [Nat.sub_zero]
    refine BufF.toR (dv := dv) (cap := cap) ?_ R.capb ?_
    · rcases R.buf with h | ⟨g, cs', h1, h2, h3, h4, r⟩
      · exact Or.inl h
      · exact Or.inr ⟨g, cs', h1, h2, h3, (hb.block g (Array.getElem?_eq_some_iff.1 h4).1).trans h4, r⟩
    · intro g hg e
      rcases R.buf with ⟨h, _⟩ | ⟨g', cs', h1, _, _, h4, _⟩
      · rw [h] at hg; cases hg
      · rw [h1] at hg
        simp only [Value.ownBlock, Option.some.injEq] at hg
        have := (Array.getElem?_eq_some_iff.1 h4).1
        omega
  · have := (R.st.dat.lt _ e).1
    omega

set_option maxRecDepth 100000 in
set_option maxHeartbeats 1000000 in
theorem law_main (a : Option Addr) (d cap M K : Nat) (z : Nat → Int) (w : World) (aE : Addr) (aU : Option Addr) (hd : d ≤ 1048576) (hM : M ≤ 12) (hK1 : 1 ≤ K) (hK2 : K ≤ 65536)
    (hnil : a = none → d = 0 ∧ cap = 0) (hc : BytesAt w a d z) (h2 : 2 ≤ w.heap.size) (hE : w.cell? ⟨0, 0, none⟩ = some (.iface 47 (.pointer (some aE)))) (hU : w.cell? ⟨1, 0, none⟩ = some (.iface 47 (.pointer aU))) :
    Calls Tryd.prog 3 #[.slice a d cap, .int .i64 (M : Int), .int .i64 (K : Int)] w (Post3 w) := by
  have q4 := zzBytes_any a d cap M K w (by omega)
  rw [decide_eq_true hd] at q4
  have q5 : Calls Tryd.prog 5 #[.slice a d cap] w (Post5 d z w) := by
    cases a with
    | none =>
      obtain ⟨rfl, rfl⟩ := hnil rfl
      exact clone_nil z w
    | some ad => exact clone_some ad d cap z w hd hc
  obtain ⟨i0, hi, hz0, hz1, hz2⟩ := info_parts Tryd.info5
  clear hnil hc
  have g1 : decide ((1048576 : Int) < (d : Int)) = false := by simp; omega
  have g2 : decide ((M : Int) < 0) = false := by simp
  have g3 : decide ((12 : Int) < (M : Int)) = false := by simp; omega
  have g4 : decide ((K : Int) < 1) = false := by simp; omega
  have g5 : decide ((65536 : Int) < (K : Int)) = false := by simp; omega
  go_enter Tryd.func3, Tryd.ntmps3
  go_wp2_with fail
  refine q4.mono ?_
  rintro e w0 ⟨rfl, rfl⟩
  clear q4
  go_wp2_with fail
  refine q5.mono ?_
  rintro e w1 ⟨dv, rfl, hb1, hD⟩
  clear q5
  obtain ⟨da, dl, dc, hdv, hdl⟩ : ∃ da dl dc, dv = .slice da dl dc ∧ dl = d := by
    rcases hD with ⟨h, h0⟩ | ⟨bd, cs, h, _⟩
    · exact ⟨_, _, _, h, h0.symm⟩
    · exact ⟨_, _, _, h, rfl⟩
  subst hdv hdl
  have S0 := made_state hb1 hD
  go_wp2_with fail
  refine (newReader_any da dl dc w1).mono ?_
  rintro e w2 ⟨rfl, hw2⟩
  rw [← hw2] at S0
  clear hw2 hD
  obtain ⟨bb, hbb⟩ : ∃ bb, bb = w1.heap.size := ⟨_, rfl⟩
  rw [← hbb] at S0 ⊢
  clear hbb
  obtain ⟨bh, hbh⟩ : ∃ bh, bh = bb + 1 := ⟨_, rfl⟩
  rw [← hbh] at S0 ⊢
  clear hbh
  have R0 : Rel1 w0 w2 (.slice da dl dc) dl z bb bh M 0 1 0 0 (.slice none 0 0) := ⟨S0, Or.inl ⟨rfl, rfl, rfl⟩, Or.inr rfl, by omega, by omega, rfl, by omega⟩
  clear S0 hb1
  go_wp2_with fail
  go_loopw [9, 10, 11] (fun pos pw j wr => ∃ (J P n cap : Nat) (bv : Value), pos = .int .i64 n ∧ pw = .int .i64 P ∧ j = .int .i64 ((J : Int) + 1) ∧ Rel1 w0 wr (.slice da dl dc) dl z bb bh M J P n cap bv) (fun _ _ j _ => M + 1 - (intOf j).toNat)
  case atStart => exact ⟨0, 1, 0, 0, _, rfl, rfl, rfl, R0⟩
  case round =>
    clear R0
    obtain ⟨J, P, n, cap, bv, rfl, rfl, rfl, R⟩ := hrel
    obtain ⟨hP1, hP2⟩ := R.pos hM
    have hJM := R.jm
    by_cases hJ : J < M
    · have q7 := zzfill_any w0 wr (.slice da dl dc) dl z bb bh n cap bv aE aU hd R.capb (by have := R.nn; omega) R.full R.st R.buf h2 hE hU
      have HR : Hid (Rel1 w0 wr (.slice da dl dc) dl z bb bh M J P n cap bv) := R
      clear R
      go_wp2_with fail
      refine q7.mono ?_
      rintro e w3 ⟨n', cap', bv', S', B', hf, hc', hn', he⟩
      clear q7
      rw [doubled hP1 HR.out.nn] at hn'
      have HN : Hid (n' = min dl (4096 * (P * 2 - 1))) := hn'
      have hnd' : n' ≤ dl := by omega
      clear hn'
      have hP3 : P ≤ 2048 := by
        have h2 : 2 ^ J ≤ 2 ^ 11 := Nat.pow_le_pow_right (by omega) (by omega)
        rw [HR.out.pw]
        simpa using h2
      have q8 := fun y hy => min_int dl (4096 * (P * 2 - 1)) y n' w3 hy HN.out
      obtain ⟨a', hbv⟩ := B'.val
      have q9 := buffered_any bh a' n' cap' w3 (by rw [← hbv]; exact S'.cells.2.1)
      have R' : Hid (Rel1 w0 w3 (.slice da dl dc) dl z bb bh M (J + 1) (P * 2) n' cap' bv') := ⟨S', B', hf, hc', by omega, by rw [HR.out.pw, Nat.pow_succ], HN.out⟩
      have b1 : ((n' : Int) != (n' : Int)) = false := by simp
      clear S' B' hf hbv
      rcases he with ⟨hlt, rfl⟩ | ⟨hge, ae, rfl⟩
      · go_wp2_with fail
        refine (q8 _ (by omega)).mono ?_
        rintro e w4 ⟨rfl, rfl⟩
        go_wp2_with fail
        refine q9.mono ?_
        rintro e w4 ⟨rfl, rfl⟩
        go_wp2_with fail
        go_roundw
        case rel => exact ⟨J + 1, P * 2, n', cap', bv', rfl, by go_num, by go_num, R'.out⟩
        case measure => simp [intOf]; omega
      · have hge' : ¬ n < dl := by omega
        clear hge
        go_wp2_with fail
        refine (q8 _ (by omega)).mono ?_
        rintro e w4 ⟨rfl, rfl⟩
        go_wp2_with fail
        refine q9.mono ?_
        rintro e w4 ⟨rfl, rfl⟩
        go_wp2_with fail
        go_roundw
        case rel => exact ⟨J + 1, P * 2, n', cap', bv', rfl, by go_num, by go_num, R'.out⟩
        case measure => simp [intOf]; omega
    · obtain rfl : J = M := by omega
      have HR : Hid (Rel1 w0 wr (.slice da dl dc) dl z bb bh J J P n cap bv) := R
      clear R
      go_wp2_with (at_make; refine wpList_make_full _ rfl _ _ 22 rfl w0.heap.size 5 i0 _ 1 Tryd.underlying22 hi hz0 hz1 _ _ _ _ K rfl rfl rfl rfl (by rw [hz2]; omega) (by unfold maxLen; omega) (by have := HR.out.st.bel.size; omega) ?_; intro w3 hown hgrow)
      obtain ⟨row, R2⟩ := HR.out.toRel2 hown hgrow
      clear hown hgrow HR
      obtain ⟨gp, hgp⟩ : ∃ gp, gp = wr.heap.size := ⟨_, rfl⟩
      rw [← hgp] at R2 ⊢
      clear hgp
      go_loopw [9, 15, 16] (fun pos c st wr => ∃ (p q s : Nat) (bv : Value) (row : Array Value), pos = .int .i64 p ∧ c = .int .i64 q ∧ st = .int .i64 s ∧ s ≤ q ∧ Rel2 w0 wr (.slice da dl dc) dl z bb bh gp K p q bv row) (fun _ _ st _ => dl + 2 - (intOf st).toNat)
      case atStart => exact ⟨n, 0, 0, bv, row, rfl, rfl, rfl, Nat.le_refl _, R2⟩
      case round =>
        clear R2
        obtain ⟨p, q, s, bv, row, rfl, rfl, rfl, hsq, R⟩ := hrel
        have hpd := R.pd
        have hqp := R.cp
        by_cases hqd : q = dl
        · obtain rfl : p = dl := by omega
          subst hqd
          have hB : BufR wr w0.heap.size gp bv q 0 z := by have h := R.buf; rwa [Nat.sub_self] at h
          have q10 := step_end w0 _ (.slice da q dc) q z bb bh gp K bv row aE hd R.st hB R.prow (by omega) hK2 h2 hE
          have b1 : ((q : Int) == (q : Int)) = true := by simp
          clear R hB
          go_wp2_with fail
          refine q10.mono ?_
          rintro e w5 ⟨bv', row', rfl, S5, B5, P5⟩
          go_wp2_with fail
          go_ret
          exact ⟨rfl, S5.bel⟩
        · have q10 := step_any w0 _ (.slice da dl dc) dl z bb bh gp K p q bv row aE hd R.st R.buf R.prow (by omega) hK2 hpd hqp (by omega) h2 hE
          have b1 : ((q : Int) == (dl : Int)) = false := beq_eq_false_iff_ne.2 (by omega)
          clear R
          go_wp2_with fail
          refine q10.mono ?_
          rintro e w5 ⟨m, p', hm0, hmp, hpd', bv', row', rfl, S5, B5, P5⟩
          clear q10
          go_wp2_with fail
          go_roundw
          case rel => exact ⟨p', q + m, s + 1, bv', row', rfl, rfl, by go_num, by omega, ⟨S5, B5, P5, hpd', hmp⟩⟩
          case measure => simp [intOf]; omega

set_option maxRecDepth 100000 in
set_option maxHeartbeats 1000000 in
theorem law_any (a : Option Addr) (len cap : Nat) (m k : Int) (z : Nat → Int) (w : World) (aE : Addr) (aU : Option Addr) (hl : len ≤ 9223372036854775807) (hm1 : -9223372036854775808 ≤ m) (hm2 : m ≤ 9223372036854775807) (hk1 : -9223372036854775808 ≤ k) (hk2 : k ≤ 9223372036854775807)
    (hnil : a = none → len = 0 ∧ cap = 0) (hc : BytesAt w a len z) (h2 : 2 ≤ w.heap.size) (hE : w.cell? ⟨0, 0, none⟩ = some (.iface 47 (.pointer (some aE)))) (hU : w.cell? ⟨1, 0, none⟩ = some (.iface 47 (.pointer aU))) :
    Calls Tryd.prog 3 #[.slice a len cap, .int .i64 m, .int .i64 k] w (Post3 w) := by
  have q4 := zzBytes_any a len cap m k w hl
  by_cases hlen : len ≤ 1048576
  · rw [decide_eq_true hlen] at q4
    by_cases hm : m < 0 ∨ 12 < m
    · rcases hm with hm | hm
      · go_enter Tryd.func3, Tryd.ntmps3
        go_wp2_with fail
        refine q4.mono ?_
        rintro e w0 ⟨rfl, rfl⟩
        go_wp2_with fail
        go_ret
        exact ⟨rfl, Below.refl _ _⟩
      · have hm' : ¬ m < 0 := by omega
        go_enter Tryd.func3, Tryd.ntmps3
        go_wp2_with fail
        refine q4.mono ?_
        rintro e w0 ⟨rfl, rfl⟩
        go_wp2_with fail
        go_ret
        exact ⟨rfl, Below.refl _ _⟩
    · by_cases hk : k < 1 ∨ 65536 < k
      · have hm' : ¬ m < 0 := by omega
        have hm'' : ¬ 12 < m := by omega
        rcases hk with hk | hk
        · go_enter Tryd.func3, Tryd.ntmps3
          go_wp2_with fail
          refine q4.mono ?_
          rintro e w0 ⟨rfl, rfl⟩
          go_wp2_with fail
          go_ret
          exact ⟨rfl, Below.refl _ _⟩
        · have hk' : ¬ k < 1 := by omega
          go_enter Tryd.func3, Tryd.ntmps3
          go_wp2_with fail
          refine q4.mono ?_
          rintro e w0 ⟨rfl, rfl⟩
          go_wp2_with fail
          go_ret
          exact ⟨rfl, Below.refl _ _⟩
      · obtain ⟨M, rfl⟩ := Int.eq_ofNat_of_zero_le (show 0 ≤ m by omega)
        obtain ⟨K, rfl⟩ := Int.eq_ofNat_of_zero_le (show 0 ≤ k by omega)
        exact law_main a len cap M K z w aE aU hlen (by omega) (by omega) (by omega) hnil hc h2 hE hU
  · rw [decide_eq_false hlen] at q4
    go_enter Tryd.func3, Tryd.ntmps3
    go_wp2_with fail
    refine q4.mono ?_
    rintro e w0 ⟨rfl, rfl⟩
    go_wp2_with fail
    go_ret
    exact ⟨rfl, Below.refl _ _⟩
end Go.Proofs.Qxb6616506aDoor
