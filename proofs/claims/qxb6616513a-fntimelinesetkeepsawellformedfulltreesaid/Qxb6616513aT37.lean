import Derived.Test.Qxb6616513aT36
namespace Go.Proofs.Qxb6616513a
open Go.RowKit

set_option maxHeartbeats 4000000 in
set_option maxRecDepth 100000 in
theorem f5_main (a1 a2 : Option Addr) (n c1 c2 : Nat) (z : Nat → Int) (v : Nat → Nat) (hn : n ≤ 65536) (w : World) (h1 : IntsAt w a1 n z) (h2 : FloatsAt w a2 n v) :
    Calls Try.prog 5 #[.slice a1 n c1, .slice a2 n c2] w (TruePost w) := by
  have q19 := zzBytes19 a1 a2 n c1 n c2 w (by omega) (by omega)
  rw [decide_eq_true (by omega)] at q19
  have hll : (((n : Nat) : Int) != ((n : Nat) : Int)) = false := by simp
  have HA : Hid (IntsAt w a1 n z ∧ FloatsAt w a2 n v) := ⟨h1, h2⟩
  clear h1 h2
  go_enter Try.func5, Try.ntmps5
  go_wp2_with fail
  refine q19.mono ?_
  rintro e w0 ⟨rfl, rfl⟩
  clear q19
  go_wp2_with fail
  refine (zznew_any w0).mono ?_
  rintro e w1 ⟨rfl, hw1⟩
  obtain ⟨b0, hb0⟩ : ∃ b0, b0 = w0.heap.size := ⟨_, rfl⟩
  have T0 : Hid (Ts w0 w1 b0 z v 0) := by
    rw [hw1, hb0]
    refine ⟨0, (w0.heap.size, .slice none 0 0, []), ⟨rfl, ⟨⟨60, heap_alloc_new w0 _⟩, World.ownsRow_nil _ _ _ _⟩, Nat.zero_le _, rfl, by simp [foot, Value.ownBlock], by simp [foot, Value.ownBlock], (Below.refl _ _).alloc (Nat.le_refl _) _⟩, shape0 z, Nat.le_refl _⟩
  rw [← hb0]
  clear hw1 hb0
  go_wp2_with fail
  go_loopw [6] (fun i wr => ∃ (k : Nat), k ≤ n ∧ i = .int .i64 k ∧ Ts w0 wr b0 z v k) (fun i _ => n - (intOf i).toNat)
  case atStart => exact ⟨0, Nat.zero_le _, rfl, T0.out⟩
  case round =>
    clear T0
    obtain ⟨k, hk, rfl, h, t, T, S, hht⟩ := hrel
    by_cases hkn : k < n
    · obtain ⟨d1, hd1, hc1⟩ : ∃ d : Addr, a1 = some d ∧ ∀ j, j < n → w0.cell? (d.add j) = some (.int .i64 (z j)) := by
        rcases HA.out.1 with h0 | h0
        · omega
        · exact h0
      obtain ⟨d2, hd2, hc2⟩ : ∃ d : Addr, a2 = some d ∧ ∀ j, j < n → w0.cell? (d.add j) = some (.float .f64 (v j)) := by
        rcases HA.out.2 with h0 | h0
        · omega
        · exact h0
      subst hd1 hd2
      have e1 := (T.bel.cell (p := d1.add k) (World.block_lt_of_cell? _ _ (hc1 k hkn))).trans (hc1 k hkn)
      have e2 := (T.bel.cell (p := d2.add k) (World.block_lt_of_cell? _ _ (hc2 k hkn))).trans (hc2 k hkn)
      have q13 : Calls Try.prog 13 #[.pointer (some ⟨b0, 0, none⟩), .int .i64 (z k), .float .f64 (v k)] wr.drew fun e w' => e = .returned (.tuple #[]) ∧ Hid (Ts w0 w' b0 z v (k + 1)) ∧ w'.cell? (d1.add k) = some (.int .i64 (z k)) ∧ w'.cell? (d2.add k) = some (.float .f64 (v k)) := by
        have Td := T.drewN wr.drew ⟨rfl, rfl, rfl, rfl⟩
        rw [← T.blk']
        refine (zzset_any h t (z k) (v k) wr.drew Td.at' Td.ok Td.nd).mono ?_
        rintro e w' ⟨rfl, hp⟩
        have hs := Ts.step Td S hht hp
        rw [T.blk']
        have hs0 := hs
        obtain ⟨h', t', T', -, -⟩ := hs
        exact ⟨rfl, hs0, (T'.bel.cell (p := d1.add k) (World.block_lt_of_cell? _ _ (hc1 k hkn))).trans (hc1 k hkn), (T'.bel.cell (p := d2.add k) (World.block_lt_of_cell? _ _ (hc2 k hkn))).trans (hc2 k hkn)⟩
      clear T S hht hc1 hc2
      go_wp2_with fail
      go_region_held3 (fun w' => w'.cell? (d1.add k) = some (.int .i64 (z k)) ∧ w'.cell? (d2.add k) = some (.float .f64 (v k))) (go_keep)
        ((go_at_call 13; refine q13.mono ?_; rintro e w5 ⟨rfl, HT5, x1, x2⟩))
      rename_i hHeld
      clear hHeld q13 x1 x2 e1 e2
      go_wp2_with fail
      go_roundw
      case rel =>
        exact ⟨k + 1, by omega, by go_num, HT5.out⟩
      case measure => simp [intOf]; omega
    · obtain rfl : k = n := by omega
      have hfl := T.fl
      have hul : (ups z v k).length ≤ 65536 := Nat.le_trans (ups_length z v k) hn
      obtain ⟨U, hU⟩ : ∃ U, U = ups z v k := ⟨_, rfl⟩
      have q20 : Calls Try.prog 20 #[.pointer (some ⟨b0, 0, none⟩), .bool true] wr fun e w5 => e = .returned (.tuple #[.int .i64 (h : Nat), .bool true]) ∧ Hid (Tl w0 w5 b0 z v k h t) := by
        rw [← T.blk']
        refine (wel_any h t true wr T.at' T.wf (by rw [hfl]; exact ups_asc z v k) ⟨fun _ => S.two', fun e => by cases e⟩ (by omega)).mono ?_
        rintro e w5 ⟨rfl, hB⟩
        rw [T.blk']
        exact ⟨rfl, T.below hB⟩
      obtain ⟨L, hL⟩ : ∃ L, L = U.length := ⟨_, rfl⟩
      have HU : Hid (U = ups z v k ∧ L = U.length ∧ Shape z k h (er h t)) := ⟨hU, hL, S⟩
      have hUl : L ≤ 65536 := by rw [hL, hU]; exact hul
      have q15 := zzroot_any b0 wr
      clear T S hfl hul hU hht hL
      go_wp2_with fail
      refine q15.mono ?_
      rintro e w2 ⟨rfl, rfl⟩
      go_wp2_with fail
      refine q20.mono ?_
      rintro e w3 ⟨rfl, H3⟩
      clear q20 q15
      have q14 : Calls Try.prog 14 #[.pointer (some ⟨b0, 0, none⟩), .slice none 0 0, .slice none 0 0] w3 fun e w5 => ∃ ag cg av cv, e = .returned (.tuple #[.slice ag L cg, .slice av L cv]) ∧ Hid (Two w5 w3.heap.size (.slice ag L cg) (.slice av L cv) U ∧ Tl w0 w5 b0 z v k h t) := by
        have T := H3.out
        have hfl := T.fl
        rw [← T.blk']
        refine (col_any h t w3 w3.heap.size (.slice none 0 0) (.slice none 0 0) [] T.at' T.ok (At.lt h t T.at') (Nat.le_refl _) ⟨World.ownsRow_nil _ _ _ _, World.ownsRow_nil _ _ _ _⟩ (by rw [hfl, ← HU.out.1, List.length_nil, ← HU.out.2.1]; omega)).mono ?_
        rintro e w5 ⟨v1, v2, rfl, hT, hB⟩
        rw [List.nil_append, hfl, ← HU.out.1] at hT
        obtain ⟨ag, cg, rfl, -⟩ := row_open hT.1
        obtain ⟨av, cv, rfl, -⟩ := row_open hT.2
        have T5 := T.below hB
        rw [← HU.out.2.1] at hT ⊢
        exact ⟨ag, cg, av, cv, rfl, hT, T.blk' ▸ T5⟩
      go_wp2_with fail
      refine q14.mono ?_
      rintro e w5 ⟨ag, cg, av, cv, rfl, H5⟩
      clear q14 H3
      go_wp2_with fail
      go_loopw [12] (fun vi wr => ∃ (i : Nat), 1 ≤ i ∧ (i ≤ L ∨ i = 1) ∧ vi = .int .i64 i ∧ Below w5.heap.size w5 wr) (fun vi _ => L - (intOf vi).toNat)
      case atStart => exact ⟨1, Nat.le_refl _, Or.inr rfl, rfl, Below.refl _ _⟩
      case round =>
        obtain ⟨i, hi1, hi2, rfl, hB⟩ := hrel
        by_cases hiL : i < L
        · obtain ⟨m, hm⟩ : ∃ m, i = m + 1 := ⟨i - 1, by omega⟩
          obtain ⟨p, hp⟩ : ∃ p, U[m]? = some p := ⟨_, List.getElem?_eq_getElem (by rw [← HU.out.2.1]; omega)⟩
          obtain ⟨q, hq⟩ : ∃ q, U[i]? = some q := ⟨_, List.getElem?_eq_getElem (by rw [← HU.out.2.1]; exact hiL)⟩
          have hpq : p.1 < q.1 := ups_next HU.out.1 hp (hm ▸ hq)
          obtain ⟨g1, g2, rfl, rfl, m1, m2, x1, -⟩ := H5.out.1.cells hp
          obtain ⟨g3, g4, e3, -, -, -, x3, -⟩ := H5.out.1.cells hq
          obtain rfl : g1 = g3 := by injection e3 with e3; injection e3
          have y1 := (hB.cell (p := ⟨g1, m, none⟩) m1).trans x1
          have y3 := (hB.cell (p := ⟨g1, i, none⟩) m1).trans x3
          have him : (i : Int) - 1 = (m : Int) := by omega
          have hmL : m < L := by omega
          have hzd : decide (q.1 ≤ p.1) = false := decide_eq_false (by omega)
          have HBk : Hid (Below w5.heap.size w5 wr) := hB
          clear hp hq hB x1 x3 e3 hm hpq
          go_wp2_with fail
          go_quiet (fail)
          go_wp2_with fail
          go_roundw
          case rel => exact ⟨i + 1, by omega, Or.inl (by omega), by go_num, below_drewN HBk.out _⟩
          case measure => simp [intOf]; omega
        · obtain ⟨w6, hw6⟩ : ∃ w6, w6 = wr := ⟨_, rfl⟩
          rw [← hw6] at hB
          rw [← hw6]
          clear hw6
          have H6 : Hid (Tl w0 w6 b0 z v k h t) := H5.out.2.below hB
          clear hB H5
          have q16 : Calls Try.prog 16 #[.slice a1 k c1, .slice a2 k c2] w6 fun e w7 => ∃ am cm aw cw, e = .returned (.tuple #[.slice am L cm, .slice aw L cw]) ∧ Hid (Tl w0 w7 b0 z v k h t) := by
            have T := H6.out
            refine (lastPerTime_any a1 a2 k c1 c2 z v hn w6 (ints_below HA.out.1 T.bel (Nat.le_refl _)) (floats_below HA.out.2 T.bel (Nat.le_refl _))).mono ?_
            rintro e w7 ⟨l, hp, hs, v1, v2, rfl, hT, hB⟩
            rw [lpt_ups z v k l hp hs, ← HU.out.1] at hT
            obtain ⟨am, cm, rfl, -⟩ := row_open hT.1
            obtain ⟨aw, cw, rfl, -⟩ := row_open hT.2
            rw [← HU.out.2.1]
            exact ⟨am, cm, aw, cw, rfl, T.below hB⟩
          go_wp2_with fail
          refine q16.mono ?_
          rintro e w7 ⟨am, cm, aw, cw, rfl, H7⟩
          clear q16 H6
          have q17 : Calls Try.prog 17 #[.pointer (some ⟨b0, 0, none⟩)] w7 fun e w8 => e = .returned (.int .i64 (L : Nat)) ∧ Hid (Tl w0 w8 b0 z v k h t) := by
            have T := H7.out
            rw [← T.blk']
            refine (zzlen_any h t w7 T.at' T.ok (by rw [T.fl, ← HU.out.1, ← HU.out.2.1]; exact hUl)).mono ?_
            rintro e w8 ⟨rfl, hB⟩
            rw [T.fl, ← HU.out.1, ← HU.out.2.1, T.blk']
            exact ⟨rfl, T.below hB⟩
          have hLL : (((L : Nat) : Int) != ((L : Nat) : Int)) = false := by simp
          go_wp2_with fail
          refine q17.mono ?_
          rintro e w8 ⟨rfl, H8⟩
          clear q17 H7
          obtain ⟨SZ, hSZ⟩ : ∃ SZ, SZ = sizes h (er h t) := ⟨_, rfl⟩
          obtain ⟨M, hM⟩ : ∃ M, M = SZ.length := ⟨_, rfl⟩
          have q21 : Calls Try.prog 21 #[.pointer (some ⟨b0, 0, none⟩), .slice none 0 0] w8 fun e w9 => ∃ sa cs, e = .returned (.slice sa M cs) ∧ Hid (Tl w0 w9 b0 z v k h t ∧ SizAt w9 sa M SZ) := by
            have T := H8.out
            rw [← T.blk']
            refine (siz_any h t w8 w8.heap.size (.slice none 0 0) [] T.at' T.wf (At.lt h t T.at') (Nat.le_refl _) (World.ownsRow_nil _ _ _ _) (by rw [List.length_nil, Nat.zero_add]; exact leaves_bound hn h (er h t) T.wf T.fl)).mono ?_
            rintro e w9 ⟨v', rfl, hN, hB⟩
            rw [List.nil_append, ← hSZ] at hN
            obtain ⟨sa, cs, rfl, hS⟩ := hN.open'
            rw [← hM] at hS ⊢
            rw [T.blk']
            exact ⟨sa, cs, rfl, T.below hB, hS⟩
          have hM1 : M ≤ 65537 := by
            have T := H8.out
            have := leaves_bound hn h (er h t) T.wf T.fl
            rw [hM, hSZ]
            unfold sizes
            rw [List.length_map]
            exact this
          have HS : Hid ((UpTo z k → ∀ j, j + 1 < M → SZ[j]? = some 128) ∧ (DownTo z k → ∀ j, 1 ≤ j → j < M → SZ[j]? = some 128)) := by
            refine ⟨fun hu j hj => ?_, fun hd j hj0 hj => ?_⟩
            · rw [hSZ]
              exact asc_size (HU.out.2.2.asc hu) (by rw [← hSZ, ← hM]; exact hj)
            · rw [hSZ]
              exact desc_size (HU.out.2.2.desc hd) hj0 (by rw [← hSZ, ← hM]; exact hj)
          clear hSZ hM HU
          go_wp2_with fail
          refine q21.mono ?_
          rintro e w9 ⟨sa, cs, rfl, H9⟩
          clear q21 H8
          have q22 : Calls Try.prog 22 #[.slice a1 k c1, .bool true] w9 fun e w10 => ∃ b, e = .returned (.bool b) ∧ Hid (b = true → UpTo z k) ∧ Hid (Below w9.heap.size w9 w10) := mono_up a1 k c1 z hn w9 (ints_below HA.out.1 H9.out.1.bel (Nat.le_refl _))
          go_wp2_with fail
          refine q22.mono ?_
          rintro e w10 ⟨bu, rfl, Hu, H10⟩
          clear q22
          have HX : Hid (Below w0.heap.size w0 w10 ∧ SizAt w10 sa M SZ) := ⟨H9.out.1.bel.trans (H10.out.mono H9.out.1.bel.size), H9.out.2.below H10.out⟩
          clear H9 H10
          cases bu with
          | true =>
            go_wp2_with fail
            go_loopw [16] (fun vi wr => ∃ (i : Nat), i ≤ M ∧ vi = .int .i64 i ∧ Below w10.heap.size w10 wr) (fun vi _ => M - (intOf vi).toNat)
            case atStart => exact ⟨0, Nat.zero_le _, rfl, Below.refl _ _⟩
            case round =>
              obtain ⟨i, hi, rfl, hB⟩ := hrel
              by_cases hiM : i + 1 < M
              · have hS := HS.out.1 (Hu.out (by trivial)) i hiM
                obtain ⟨g, hg, hgl, hx⟩ : ∃ g, sa = some ⟨g, 0, none⟩ ∧ g < w10.heap.size ∧ ∀ j x, SZ[j]? = some x → w10.cell? ⟨g, j, none⟩ = some (.int .i64 (x : Nat)) := by
                  rcases HX.out.2.2 with h0 | h0
                  · omega
                  · exact h0
                subst hg
                have y1 : wr.cell? ⟨g, i, none⟩ = some (.int .i64 128) := (hB.cell (p := ⟨g, i, none⟩) hgl).trans (hx i 128 hS)
                have hiM' : i < M := by omega
                have HBk : Hid (Below w10.heap.size w10 wr) := hB
                clear hS hx hB
                go_wp2_with fail
                go_roundw
                case rel => exact ⟨i + 1, by omega, by go_num, HBk.out⟩
                case measure => simp [intOf]; omega
              · have HY : Hid (Below w0.heap.size w0 wr ∧ SizAt wr sa M SZ) := ⟨HX.out.1.trans (hB.mono HX.out.1.size), HX.out.2.below hB⟩
                clear hB HX Hu
                obtain ⟨w11, hw11⟩ : ∃ w11, w11 = wr := ⟨_, rfl⟩
                rw [← hw11] at HY
                rw [← hw11]
                clear hw11
                have q22 : Calls Try.prog 22 #[.slice a1 k c1, .bool false] w11 fun e w12 => ∃ b, e = .returned (.bool b) ∧ Hid (b = true → DownTo z k) ∧ Hid (Below w11.heap.size w11 w12) := mono_down a1 k c1 z hn w11 (ints_below HA.out.1 HY.out.1 (Nat.le_refl _))
                go_wp2_with fail
                refine q22.mono ?_
                rintro e w12 ⟨bd, rfl, Hd, H12⟩
                clear q22
                have HX : Hid (Below w0.heap.size w0 w12 ∧ SizAt w12 sa M SZ) := ⟨HY.out.1.trans (H12.out.mono HY.out.1.size), HY.out.2.below H12.out⟩
                clear HY H12
                cases bd with
                | true =>
                  go_wp2_with fail
                  go_loopw [17] (fun vi wr => ∃ (i : Nat), 1 ≤ i ∧ (i ≤ M ∨ i = 1) ∧ vi = .int .i64 i ∧ Below w12.heap.size w12 wr) (fun vi _ => M - (intOf vi).toNat)
                  case atStart => exact ⟨1, Nat.le_refl _, Or.inr rfl, rfl, Below.refl _ _⟩
                  case round =>
                    obtain ⟨i, hi1, hi2, rfl, hB⟩ := hrel
                    by_cases hiM : i < M
                    · have hS := HS.out.2 (Hd.out (by trivial)) i hi1 hiM
                      obtain ⟨g, hg, hgl, hx⟩ : ∃ g, sa = some ⟨g, 0, none⟩ ∧ g < w12.heap.size ∧ ∀ j x, SZ[j]? = some x → w12.cell? ⟨g, j, none⟩ = some (.int .i64 (x : Nat)) := by
                        rcases HX.out.2.2 with h0 | h0
                        · omega
                        · exact h0
                      subst hg
                      have y1 : wr.cell? ⟨g, i, none⟩ = some (.int .i64 128) := (hB.cell (p := ⟨g, i, none⟩) hgl).trans (hx i 128 hS)
                      have HBk : Hid (Below w12.heap.size w12 wr) := hB
                      clear hS hx hB
                      go_wp2_with fail
                      go_roundw
                      case rel => exact ⟨i + 1, by omega, Or.inl (by omega), by go_num, HBk.out⟩
                      case measure => simp [intOf]; omega
                    · have HE : Hid (Below w0.heap.size w0 wr) := HX.out.1.trans (hB.mono HX.out.1.size)
                      clear hB
                      go_wp2_with fail
                      go_ret
                      exact ⟨rfl, HE.out⟩
                | false =>
                  go_wp2_with fail
                  go_ret
                  exact ⟨rfl, HX.out.1⟩
          | false =>
            have HY : Hid (Below w0.heap.size w0 w10 ∧ SizAt w10 sa M SZ) := HX.out
            clear HX Hu
            obtain ⟨w11, hw11⟩ : ∃ w11, w11 = w10 := ⟨_, rfl⟩
            rw [← hw11] at HY
            rw [← hw11]
            clear hw11
            have q22 : Calls Try.prog 22 #[.slice a1 k c1, .bool false] w11 fun e w12 => ∃ b, e = .returned (.bool b) ∧ Hid (b = true → DownTo z k) ∧ Hid (Below w11.heap.size w11 w12) := mono_down a1 k c1 z hn w11 (ints_below HA.out.1 HY.out.1 (Nat.le_refl _))
            go_wp2_with fail
            refine q22.mono ?_
            rintro e w12 ⟨bd, rfl, Hd, H12⟩
            clear q22
            have HX : Hid (Below w0.heap.size w0 w12 ∧ SizAt w12 sa M SZ) := ⟨HY.out.1.trans (H12.out.mono HY.out.1.size), HY.out.2.below H12.out⟩
            clear HY H12
            cases bd with
            | true =>
              go_wp2_with fail
              go_loopw [17] (fun vi wr => ∃ (i : Nat), 1 ≤ i ∧ (i ≤ M ∨ i = 1) ∧ vi = .int .i64 i ∧ Below w12.heap.size w12 wr) (fun vi _ => M - (intOf vi).toNat)
              case atStart => exact ⟨1, Nat.le_refl _, Or.inr rfl, rfl, Below.refl _ _⟩
              case round =>
                obtain ⟨i, hi1, hi2, rfl, hB⟩ := hrel
                by_cases hiM : i < M
                · have hS := HS.out.2 (Hd.out (by trivial)) i hi1 hiM
                  obtain ⟨g, hg, hgl, hx⟩ : ∃ g, sa = some ⟨g, 0, none⟩ ∧ g < w12.heap.size ∧ ∀ j x, SZ[j]? = some x → w12.cell? ⟨g, j, none⟩ = some (.int .i64 (x : Nat)) := by
                    rcases HX.out.2.2 with h0 | h0
                    · omega
                    · exact h0
                  subst hg
                  have y1 : wr.cell? ⟨g, i, none⟩ = some (.int .i64 128) := (hB.cell (p := ⟨g, i, none⟩) hgl).trans (hx i 128 hS)
                  have HBk : Hid (Below w12.heap.size w12 wr) := hB
                  clear hS hx hB
                  go_wp2_with fail
                  go_roundw
                  case rel => exact ⟨i + 1, by omega, Or.inl (by omega), by go_num, HBk.out⟩
                  case measure => simp [intOf]; omega
                · have HE : Hid (Below w0.heap.size w0 wr) := HX.out.1.trans (hB.mono HX.out.1.size)
                  clear hB
                  go_wp2_with fail
                  go_ret
                  exact ⟨rfl, HE.out⟩
            | false =>
              go_wp2_with fail
              go_ret
              exact ⟨rfl, HX.out.1⟩

end Go.Proofs.Qxb6616513a
