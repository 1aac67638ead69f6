import Derived.Test.Qxb6616513aT21
namespace Go.Proofs.Qxb6616513a
open Go.RowKit

set_option maxHeartbeats 4000000 in
set_option maxRecDepth 100000 in
theorem sortedIdx_any (a : Option Addr) (n c : Nat) (z : Nat → Int) (hn : n ≤ 65536) (w : World) (ha : IntsAt w a n z) :
    Calls Try.prog 34 #[.slice a n c] w (SortPost w n z) := by
  obtain ⟨i3, hi3, hz0, hz1, hz2⟩ := info_parts Try.inf3
  have HA : Hid (IntsAt w a n z) := ha
  clear ha
  go_enter Try.func34, Try.ntmps34
  go_wp2_with (at_make; refine wpList_make_full _ rfl _ _ 42 rfl w.heap.size 3 i3 _ 1 Try.underlying42 hi3 hz0 hz1 _ _ _ _ n rfl rfl rfl rfl (by rw [hz2]; omega) (by unfold maxLen; omega) (by simp) ?_; intro w1 hown1 hgrow1)
  have R1 : Hid (∃ l, IR w1 w.heap.size w.heap.size n l) := by
    refine ⟨List.replicate n 0, ?_⟩
    have hl := hown1.1
    unfold IR
    have e : (List.replicate n 0).map (fun i : Nat => (Value.int .i64 (i : Nat))) = (madeCells (Value.int .i64 0).cells (n * 1)).toList := by
      apply List.ext_getElem
      · rw [hl]; simp
      · intro k h1 h2
        simp [madeCells, Value.cells, Nat.mod_one]
    rw [e]; exact hown1
  have B1 : Hid (Below w.heap.size w w1) := (Below.refl _ _).grown hgrow1 (Nat.le_refl _) (fun k h => by cases h)
  clear hown1 hgrow1
  obtain ⟨ga, hga⟩ : ∃ ga, ga = w.heap.size := ⟨_, rfl⟩
  obtain ⟨B, hB⟩ : ∃ B, B = w.heap.size := ⟨_, rfl⟩
  rw [← hga]
  have R1' : Hid (∃ l, IR w1 B ga n l) := by rw [hga, hB]; exact R1
  have HB : Hid (B = w.heap.size) := hB
  clear R1 hga hB
  go_loopw [5] (fun i wr => ∃ (k : Nat) (l : List Nat), k ≤ n ∧ i = .int .i64 k ∧ Below w.heap.size w wr ∧ IR wr B ga n l ∧ ∀ j, j < k → l[j]? = some j) (fun i _ => n - (intOf i).toNat)
  case atStart =>
    obtain ⟨l, hl⟩ := R1'.out
    exact ⟨0, l, Nat.zero_le _, rfl, B1.out, hl, fun j hj => by omega⟩
  case round =>
    obtain ⟨k, l, hk, rfl, hBw, hR, hpre⟩ := hrel
    by_cases hlt : k < n
    · have hkl : k < l.length := by rw [hR.len]; exact hlt
      obtain ⟨xk, hxk⟩ : ∃ xk, l[k]? = some xk := ⟨_, List.getElem?_eq_getElem hkl⟩
      have e0 := hR.cell hxk
      have e1 := hR.frozen k
      have HE : Hid (Below w.heap.size w wr ∧ IR wr B ga n l ∧ (∀ j, j < k → l[j]? = some j) ∧ k < l.length) := ⟨hBw, hR, hpre, hkl⟩
      clear hBw hR hpre hkl hxk
      go_wp2_with fail
      go_roundw
      case rel =>
        have h4 := HE.out
        refine ⟨k + 1, l.set k k, by omega, by go_num, h4.1.setCell (by rw [← HB.out]; exact h4.2.1.ge) _, h4.2.1.set k k, fun j hj => ?_⟩
        by_cases e : j = k
        · subst e; rw [List.getElem?_set_self h4.2.2.2]
        · rw [List.getElem?_set_ne (by omega)]; exact h4.2.2.1 j (by omega)
      case measure => simp [intOf]; omega
    · obtain rfl : k = n := by omega
      have H0 : Hid (Below w.heap.size w wr ∧ IR wr B ga k l ∧ BlockSorted z k 1 l ∧ B ≤ wr.heap.size) := ⟨hBw, hR, good_one hpre, by rw [HB.out]; exact hBw.size⟩
      clear hBw hR hpre R1' B1
      obtain ⟨w2, rfl⟩ : ∃ w2, w2 = wr := ⟨_, rfl⟩
      go_wp2_with (at_make; refine wpList_make_full _ rfl _ _ 42 rfl B 3 i3 _ 1 Try.underlying42 hi3 hz0 hz1 _ _ _ _ k rfl rfl rfl rfl (by rw [hz2]; omega) (by unfold maxLen; omega) H0.out.2.2.2 ?_; intro w3 hown3 hgrow3)
      obtain ⟨gb, hgb⟩ : ∃ gb, gb = w2.heap.size := ⟨_, rfl⟩
      have H3 : Hid (Below w.heap.size w w3 ∧ IR w3 B ga k l ∧ BlockSorted z k 1 l ∧ (∃ lb, IR w3 B gb k lb) ∧ ga ≠ gb) := by
        have h0 := H0.out
        have hgl : ga < w2.heap.size := (World.ownsRow.lt h0.2.1 ga rfl).2
        refine ⟨h0.1.grown hgrow3 h0.1.size (fun k h => by cases h), ?_, h0.2.2.1, ⟨List.replicate k 0, ?_⟩, by omega⟩
        · exact World.ownsRow.kept h0.2.1 hgrow3 (Or.inr (by intro h; cases h))
        · have hl := hown3.1
          unfold IR
          have e : (List.replicate k 0).map (fun i : Nat => (Value.int .i64 (i : Nat))) = (madeCells (Value.int .i64 0).cells (k * 1)).toList := by
            apply List.ext_getElem
            · rw [hl]; simp
            · intro j h1 h2
              simp [madeCells, Value.cells, Nat.mod_one]
          rw [e, hgb]; exact hown3
      rw [← hgb]
      clear H0 hown3 hgrow3 hgb
      go_loopw [4, 6, 7] (fun va vb vw wr => ∃ (ga gb W : Nat) (la lb : List Nat), va = .slice (some ⟨ga, 0, none⟩) k k ∧ vb = .slice (some ⟨gb, 0, none⟩) k k ∧ vw = .int .i64 W ∧ 1 ≤ W ∧ W ≤ 131072 ∧ ga ≠ gb ∧ IR wr B ga k la ∧ IR wr B gb k lb ∧ BlockSorted z k W la ∧ Below w.heap.size w wr) (fun _ _ vw _ => k - (intOf vw).toNat)
      case atStart =>
        obtain ⟨h1, h2, h3, ⟨lb, h4⟩, h5⟩ := H3.out
        exact ⟨ga, gb, 1, l, lb, rfl, rfl, rfl, Nat.le_refl _, by omega, h5, h2, h4, h3, h1⟩
      case round =>
        clear H3
        obtain ⟨ga, gb, W, la, lb, rfl, rfl, rfl, hW1, hW2, hne, Ra, Rb, hBS, hBw⟩ := hrel
        by_cases hWk : W < k
        · have HP : Hid (ga ≠ gb ∧ IR wr B ga k la ∧ IR wr B gb k lb ∧ BlockSorted z k W la ∧ Below w.heap.size w wr) := ⟨hne, Ra, Rb, hBS, hBw⟩
          clear Ra Rb hBS hBw hne
          obtain ⟨w4, rfl⟩ : ∃ w4, w4 = wr := ⟨_, rfl⟩
          go_wp2_with fail
          go_loopw [8] (fun vl wr => ∃ (m : Nat) (lb : List Nat), vl = .int .i64 ((m * (2 * W) : Nat) : Int) ∧ m * (2 * W) < k + 2 * W ∧ IR wr B ga k la ∧ IR wr B gb k lb ∧ Below w.heap.size w wr ∧ ∀ m', m' < m → Good z lb (m' * (2 * W)) (min ((m' + 1) * (2 * W)) k)) (fun vl _ => k + 2 * W - (intOf vl).toNat)
          case atStart => exact ⟨0, lb, by simp, by omega, HP.out.2.1, HP.out.2.2.1, HP.out.2.2.2.2, fun m' h => by omega⟩
          case round =>
            obtain ⟨m, lb, rfl, hm, Ra, Rb, hBw, hG⟩ := hrel
            obtain ⟨lo, hlo⟩ : ∃ lo, lo = m * (2 * W) := ⟨_, rfl⟩
            rw [← hlo] at hm
            rw [← hlo]
            by_cases hlk : lo < k
            · obtain ⟨mid, hmid⟩ : ∃ mid, mid = min (lo + W) k := ⟨_, rfl⟩
              obtain ⟨hi, hhi⟩ : ∃ hi, hi = min (lo + 2 * W) k := ⟨_, rfl⟩
              have hm1 : min ((lo : Int) + (W : Int)) (k : Int) = (mid : Int) := by omega
              have hm2 : min ((lo : Int) + 2 * (W : Int)) (k : Int) = (hi : Int) := by omega
              have hmb : lo ≤ mid ∧ mid ≤ hi ∧ hi ≤ k := by omega
              obtain ⟨d, hd, hcd⟩ : ∃ d : Addr, a = some d ∧ ∀ j, j < k → w.cell? (d.add j) = some (.int .i64 (z j)) := by
                rcases HA.out with h0 | h0
                · omega
                · exact h0
              subst hd
              obtain ⟨M, hM⟩ : ∃ M, M = mrg z (seg la lo mid) (seg la mid hi) := ⟨_, rfl⟩
              have HQ : Hid (lo = m * (2 * W) ∧ mid = min (lo + W) k ∧ hi = min (lo + 2 * W) k ∧ BlockSorted z k W la ∧ M = mrg z (seg la lo mid) (seg la mid hi) ∧ (∀ j, j < k → w.cell? (d.add j) = some (.int .i64 (z j))) ∧ ga ≠ gb) := ⟨hlo, hmid, hhi, HP.out.2.2.2.1, hM, hcd, HP.out.1⟩
              have H4 : Hid (IR wr B ga k la ∧ IR wr B gb k lb ∧ Below w.heap.size w wr ∧ Mg z k W m lo mid hi la lb M lo mid lo) := ⟨Ra, Rb, hBw, ⟨Nat.le_refl _, hmb.1, Nat.le_refl _, hmb.2.1, by omega, by rw [seg_nil (Nat.le_refl _), ← hM]; rfl, hG⟩⟩
              clear Ra Rb hBw hG hlo hmid hhi hcd hM
              obtain ⟨w5, rfl⟩ : ∃ w5, w5 = wr := ⟨_, rfl⟩
              go_wp2_with fail
              go_loopw [11, 12, 13] (fun vi vj vq wr => ∃ (i j q : Nat) (lb : List Nat), vi = .int .i64 i ∧ vj = .int .i64 j ∧ vq = .int .i64 q ∧ IR wr B ga k la ∧ IR wr B gb k lb ∧ Below w.heap.size w wr ∧ Mg z k W m lo mid hi la lb M i j q) (fun vi vj _ _ => (mid + hi) - ((intOf vi).toNat + (intOf vj).toNat))
              case atStart => exact ⟨lo, mid, lo, lb, rfl, rfl, rfl, H4.out.1, H4.out.2.1, H4.out.2.2.1, H4.out.2.2.2⟩
              case round =>
                clear H4
                obtain ⟨i, j, q, lb, rfl, rfl, rfl, Ra, Rb, hBw, hMg⟩ := hrel
                have hb1 := hMg.h1; have hb2 := hMg.h2; have hb3 := hMg.h3; have hb4 := hMg.h4; have hb5 := hMg.h5
                by_cases hi1 : i < mid
                · by_cases hj1 : j < hi
                  · have hla : la.length = k := Ra.len
                    have hlb : lb.length = k := Rb.len
                    obtain ⟨x, hx⟩ : ∃ x, la[i]? = some x := ⟨_, List.getElem?_eq_getElem (by omega)⟩
                    obtain ⟨y, hy⟩ : ∃ y, la[j]? = some y := ⟨_, List.getElem?_eq_getElem (by omega)⟩
                    obtain ⟨o, ho⟩ : ∃ o, lb[q]? = some o := ⟨_, List.getElem?_eq_getElem (by omega)⟩
                    have hxk : x < k := bs_lt HQ.out.2.2.2.1 hW1 (by omega) hx
                    have hyk : y < k := bs_lt HQ.out.2.2.2.1 hW1 (by omega) hy
                    have e1 := Ra.cell hx
                    have e2 := Ra.cell hy
                    have e3 := Rb.cell ho
                    have e4 := Rb.frozen q
                    have hcd := HQ.out.2.2.2.2.2.1
                    have e5 := (hBw.cell (p := d.add x) (World.block_lt_of_cell? _ _ (hcd x hxk))).trans (hcd x hxk)
                    have e6 := (hBw.cell (p := d.add y) (World.block_lt_of_cell? _ _ (hcd y hyk))).trans (hcd y hyk)
                    have HE : Hid (IR wr B ga k la ∧ IR wr B gb k lb ∧ Below w.heap.size w wr ∧ Mg z k W m lo mid hi la lb M i j q ∧ la[i]? = some x ∧ la[j]? = some y ∧ q < lb.length) := ⟨Ra, Rb, hBw, hMg, hx, hy, by omega⟩
                    have hqk : q < k := by omega
                    clear Ra Rb hBw hMg hx hy ho hcd hla hlb
                    by_cases hzz : z y < z x
                    · go_wp2_with fail
                      go_quiet (fail)
                      go_wp2_with fail
                      go_roundw
                      case rel =>
                        have hE := HE.out
                        have s0 : (wr.drewN nq).heap = wr.heap := rfl
                        exact ⟨i, j + 1, q + 1, lb.set q y, rfl, by go_num, by go_num, (hE.1.same s0).other HQ.out.2.2.2.2.2.2 _ _, (hE.2.1.same s0).set q y, (below_drewN hE.2.2.1 _).setCell (by rw [← HB.out]; exact hE.2.1.ge) _, hE.2.2.2.1.right HQ.out.1 hi1 hj1 hE.2.2.2.2.1 hE.2.2.2.2.2.1 hzz hE.2.2.2.2.2.2⟩
                      case measure => simp [intOf]; omega
                    · go_wp2_with fail
                      go_quiet (fail)
                      go_wp2_with fail
                      go_roundw
                      case rel =>
                        have hE := HE.out
                        have s0 : (wr.drewN nq).heap = wr.heap := rfl
                        exact ⟨i + 1, j, q + 1, lb.set q x, by go_num, rfl, by go_num, (hE.1.same s0).other HQ.out.2.2.2.2.2.2 _ _, (hE.2.1.same s0).set q x, (below_drewN hE.2.2.1 _).setCell (by rw [← HB.out]; exact hE.2.1.ge) _, hE.2.2.2.1.left HQ.out.1 hi1 hj1 hE.2.2.2.2.1 hE.2.2.2.2.2.1 (by omega) hE.2.2.2.2.2.2⟩
                      case measure => simp [intOf]; omega
                  · have H5 : Hid (IR wr B ga k la ∧ IR wr B gb k lb ∧ Below w.heap.size w wr ∧ Mg z k W m lo mid hi la lb M i j q ∧ (i < mid → j = hi)) := ⟨Ra, Rb, hBw, hMg, fun _ => by omega⟩
                    clear Ra Rb hBw hMg
                    obtain ⟨w6, rfl⟩ : ∃ w6, w6 = wr := ⟨_, rfl⟩
                    go_wp2_with fail
                    go_loopw [11, 13] (fun vi vq wr => ∃ (i q : Nat) (lb : List Nat), vi = .int .i64 i ∧ vq = .int .i64 q ∧ IR wr B ga k la ∧ IR wr B gb k lb ∧ Below w.heap.size w wr ∧ Mg z k W m lo mid hi la lb M i j q ∧ (i < mid → j = hi)) (fun vi _ _ => mid - (intOf vi).toNat)
                    case atStart => exact ⟨i, q, lb, rfl, rfl, H5.out.1, H5.out.2.1, H5.out.2.2.1, H5.out.2.2.2.1, H5.out.2.2.2.2⟩
                    case round =>
                      clear H5
                      obtain ⟨i, q, lb, rfl, rfl, Ra, Rb, hBw, hMg, hij⟩ := hrel
                      have hb1 := hMg.h1; have hb2 := hMg.h2; have hb3 := hMg.h3; have hb4 := hMg.h4; have hb5 := hMg.h5
                      by_cases hi1 : i < mid
                      · have hla : la.length = k := Ra.len
                        have hlb : lb.length = k := Rb.len
                        have hjh := hij hi1
                        obtain ⟨x, hx⟩ : ∃ x, la[i]? = some x := ⟨_, List.getElem?_eq_getElem (by omega)⟩
                        obtain ⟨o, ho⟩ : ∃ o, lb[q]? = some o := ⟨_, List.getElem?_eq_getElem (by omega)⟩
                        have e2 := Ra.cell hx
                        have e3 := Rb.cell ho
                        have e4 := Rb.frozen q
                        have HE : Hid (IR wr B ga k la ∧ IR wr B gb k lb ∧ Below w.heap.size w wr ∧ Mg z k W m lo mid hi la lb M i j q ∧ la[i]? = some x ∧ q < lb.length ∧ j = hi) := ⟨Ra, Rb, hBw, hMg, hx, by omega, hjh⟩
                        have hqk : q < k := by omega
                        clear Ra Rb hBw hMg hx ho hla hlb hij hjh
                        go_wp2_with fail
                        go_roundw
                        case rel =>
                          have hE := HE.out
                          exact ⟨i + 1, q + 1, lb.set q x, by go_num, by go_num, hE.1.other HQ.out.2.2.2.2.2.2 _ _, hE.2.1.set q x, hE.2.2.1.setCell (by rw [← HB.out]; exact hE.2.1.ge) _, hE.2.2.2.1.restL HQ.out.1 hi1 hE.2.2.2.2.2.2 hE.2.2.2.2.1 hE.2.2.2.2.2.1, fun _ => hE.2.2.2.2.2.2⟩
                        case measure => simp [intOf]; omega
                      · obtain rfl : i = mid := by omega
                        have H6 : Hid (IR wr B ga k la ∧ IR wr B gb k lb ∧ Below w.heap.size w wr ∧ Mg z k W m lo i hi la lb M i j q) := ⟨Ra, Rb, hBw, hMg⟩
                        clear Ra Rb hBw hMg hij
                        obtain ⟨w7, rfl⟩ : ∃ w7, w7 = wr := ⟨_, rfl⟩
                        go_wp2_with fail
                        go_loopw [12, 13] (fun vj vq wr => ∃ (j q : Nat) (lb : List Nat), vj = .int .i64 j ∧ vq = .int .i64 q ∧ IR wr B ga k la ∧ IR wr B gb k lb ∧ Below w.heap.size w wr ∧ Mg z k W m lo i hi la lb M i j q) (fun vj _ _ => hi - (intOf vj).toNat)
                        case atStart => exact ⟨j, q, lb, rfl, rfl, H6.out.1, H6.out.2.1, H6.out.2.2.1, H6.out.2.2.2⟩
                        case round =>
                          clear H6
                          obtain ⟨j, q, lb, rfl, rfl, Ra, Rb, hBw, hMg⟩ := hrel
                          have hb1 := hMg.h1; have hb2 := hMg.h2; have hb3 := hMg.h3; have hb4 := hMg.h4; have hb5 := hMg.h5
                          by_cases hj1 : j < hi
                          · have hla : la.length = k := Ra.len
                            have hlb : lb.length = k := Rb.len
                            obtain ⟨y, hy⟩ : ∃ y, la[j]? = some y := ⟨_, List.getElem?_eq_getElem (by omega)⟩
                            obtain ⟨o, ho⟩ : ∃ o, lb[q]? = some o := ⟨_, List.getElem?_eq_getElem (by omega)⟩
                            have e2 := Ra.cell hy
                            have e3 := Rb.cell ho
                            have e4 := Rb.frozen q
                            have HE : Hid (IR wr B ga k la ∧ IR wr B gb k lb ∧ Below w.heap.size w wr ∧ Mg z k W m lo i hi la lb M i j q ∧ la[j]? = some y ∧ q < lb.length) := ⟨Ra, Rb, hBw, hMg, hy, by omega⟩
                            have hqk : q < k := by omega
                            clear Ra Rb hBw hMg hy ho hla hlb
                            go_wp2_with fail
                            go_roundw
                            case rel =>
                              have hE := HE.out
                              exact ⟨j + 1, q + 1, lb.set q y, by go_num, by go_num, hE.1.other HQ.out.2.2.2.2.2.2 _ _, hE.2.1.set q y, hE.2.2.1.setCell (by rw [← HB.out]; exact hE.2.1.ge) _, hE.2.2.2.1.restR HQ.out.1 rfl hj1 hE.2.2.2.2.1 hE.2.2.2.2.2⟩
                            case measure => simp [intOf]; omega
                          · obtain rfl : j = hi := by omega
                            have HE : Hid (IR wr B ga k la ∧ IR wr B gb k lb ∧ Below w.heap.size w wr ∧ Mg z k W m lo i j la lb M i j q) := ⟨Ra, Rb, hBw, hMg⟩
                            clear Ra Rb hBw hMg
                            go_wp2_with fail
                            go_roundw
                            case rel =>
                              have hE := HE.out
                              have hQ := HQ.out
                              refine ⟨m + 1, lb, ?_, ?_, hE.1, hE.2.1, hE.2.2.1, hE.2.2.2.done hQ.1 hQ.2.1 hQ.2.2.1 hlk hQ.2.2.2.1 hQ.2.2.2.2.1⟩
                              · have e : (m + 1) * (2 * W) = lo + 2 * W := by rw [Nat.add_mul, ← hQ.1]; omega
                                rw [e]; go_num
                              · have e : (m + 1) * (2 * W) = lo + 2 * W := by rw [Nat.add_mul, ← hQ.1]; omega
                                rw [e]; omega
                            case measure =>
                              simp [intOf]
                              omega
                · have H5 : Hid (IR wr B ga k la ∧ IR wr B gb k lb ∧ Below w.heap.size w wr ∧ Mg z k W m lo mid hi la lb M i j q ∧ (i < mid → j = hi)) := ⟨Ra, Rb, hBw, hMg, fun h => absurd h hi1⟩
                  clear Ra Rb hBw hMg
                  obtain ⟨w6, rfl⟩ : ∃ w6, w6 = wr := ⟨_, rfl⟩
                  go_wp2_with fail
                  go_loopw [11, 13] (fun vi vq wr => ∃ (i q : Nat) (lb : List Nat), vi = .int .i64 i ∧ vq = .int .i64 q ∧ IR wr B ga k la ∧ IR wr B gb k lb ∧ Below w.heap.size w wr ∧ Mg z k W m lo mid hi la lb M i j q ∧ (i < mid → j = hi)) (fun vi _ _ => mid - (intOf vi).toNat)
                  case atStart => exact ⟨i, q, lb, rfl, rfl, H5.out.1, H5.out.2.1, H5.out.2.2.1, H5.out.2.2.2.1, H5.out.2.2.2.2⟩
                  case round =>
                    clear H5
                    obtain ⟨i, q, lb, rfl, rfl, Ra, Rb, hBw, hMg, hij⟩ := hrel
                    have hb1 := hMg.h1; have hb2 := hMg.h2; have hb3 := hMg.h3; have hb4 := hMg.h4; have hb5 := hMg.h5
                    by_cases hi1 : i < mid
                    · have hla : la.length = k := Ra.len
                      have hlb : lb.length = k := Rb.len
                      have hjh := hij hi1
                      obtain ⟨x, hx⟩ : ∃ x, la[i]? = some x := ⟨_, List.getElem?_eq_getElem (by omega)⟩
                      obtain ⟨o, ho⟩ : ∃ o, lb[q]? = some o := ⟨_, List.getElem?_eq_getElem (by omega)⟩
                      have e2 := Ra.cell hx
                      have e3 := Rb.cell ho
                      have e4 := Rb.frozen q
                      have HE : Hid (IR wr B ga k la ∧ IR wr B gb k lb ∧ Below w.heap.size w wr ∧ Mg z k W m lo mid hi la lb M i j q ∧ la[i]? = some x ∧ q < lb.length ∧ j = hi) := ⟨Ra, Rb, hBw, hMg, hx, by omega, hjh⟩
                      have hqk : q < k := by omega
                      clear Ra Rb hBw hMg hx ho hla hlb hij hjh
                      go_wp2_with fail
                      go_roundw
                      case rel =>
                        have hE := HE.out
                        exact ⟨i + 1, q + 1, lb.set q x, by go_num, by go_num, hE.1.other HQ.out.2.2.2.2.2.2 _ _, hE.2.1.set q x, hE.2.2.1.setCell (by rw [← HB.out]; exact hE.2.1.ge) _, hE.2.2.2.1.restL HQ.out.1 hi1 hE.2.2.2.2.2.2 hE.2.2.2.2.1 hE.2.2.2.2.2.1, fun _ => hE.2.2.2.2.2.2⟩
                      case measure => simp [intOf]; omega
                    · obtain rfl : i = mid := by omega
                      have H6 : Hid (IR wr B ga k la ∧ IR wr B gb k lb ∧ Below w.heap.size w wr ∧ Mg z k W m lo i hi la lb M i j q) := ⟨Ra, Rb, hBw, hMg⟩
                      clear Ra Rb hBw hMg hij
                      obtain ⟨w7, rfl⟩ : ∃ w7, w7 = wr := ⟨_, rfl⟩
                      go_wp2_with fail
                      go_loopw [12, 13] (fun vj vq wr => ∃ (j q : Nat) (lb : List Nat), vj = .int .i64 j ∧ vq = .int .i64 q ∧ IR wr B ga k la ∧ IR wr B gb k lb ∧ Below w.heap.size w wr ∧ Mg z k W m lo i hi la lb M i j q) (fun vj _ _ => hi - (intOf vj).toNat)
                      case atStart => exact ⟨j, q, lb, rfl, rfl, H6.out.1, H6.out.2.1, H6.out.2.2.1, H6.out.2.2.2⟩
                      case round =>
                        clear H6
                        obtain ⟨j, q, lb, rfl, rfl, Ra, Rb, hBw, hMg⟩ := hrel
                        have hb1 := hMg.h1; have hb2 := hMg.h2; have hb3 := hMg.h3; have hb4 := hMg.h4; have hb5 := hMg.h5
                        by_cases hj1 : j < hi
                        · have hla : la.length = k := Ra.len
                          have hlb : lb.length = k := Rb.len
                          obtain ⟨y, hy⟩ : ∃ y, la[j]? = some y := ⟨_, List.getElem?_eq_getElem (by omega)⟩
                          obtain ⟨o, ho⟩ : ∃ o, lb[q]? = some o := ⟨_, List.getElem?_eq_getElem (by omega)⟩
                          have e2 := Ra.cell hy
                          have e3 := Rb.cell ho
                          have e4 := Rb.frozen q
                          have HE : Hid (IR wr B ga k la ∧ IR wr B gb k lb ∧ Below w.heap.size w wr ∧ Mg z k W m lo i hi la lb M i j q ∧ la[j]? = some y ∧ q < lb.length) := ⟨Ra, Rb, hBw, hMg, hy, by omega⟩
                          have hqk : q < k := by omega
                          clear Ra Rb hBw hMg hy ho hla hlb
                          go_wp2_with fail
                          go_roundw
                          case rel =>
                            have hE := HE.out
                            exact ⟨j + 1, q + 1, lb.set q y, by go_num, by go_num, hE.1.other HQ.out.2.2.2.2.2.2 _ _, hE.2.1.set q y, hE.2.2.1.setCell (by rw [← HB.out]; exact hE.2.1.ge) _, hE.2.2.2.1.restR HQ.out.1 rfl hj1 hE.2.2.2.2.1 hE.2.2.2.2.2⟩
                          case measure => simp [intOf]; omega
                        · obtain rfl : j = hi := by omega
                          have HE : Hid (IR wr B ga k la ∧ IR wr B gb k lb ∧ Below w.heap.size w wr ∧ Mg z k W m lo i j la lb M i j q) := ⟨Ra, Rb, hBw, hMg⟩
                          clear Ra Rb hBw hMg
                          go_wp2_with fail
                          go_roundw
                          case rel =>
                            have hE := HE.out
                            have hQ := HQ.out
                            refine ⟨m + 1, lb, ?_, ?_, hE.1, hE.2.1, hE.2.2.1, hE.2.2.2.done hQ.1 hQ.2.1 hQ.2.2.1 hlk hQ.2.2.2.1 hQ.2.2.2.2.1⟩
                            · have e : (m + 1) * (2 * W) = lo + 2 * W := by rw [Nat.add_mul, ← hQ.1]; omega
                              rw [e]; go_num
                            · have e : (m + 1) * (2 * W) = lo + 2 * W := by rw [Nat.add_mul, ← hQ.1]; omega
                              rw [e]; omega
                          case measure =>
                            simp [intOf]
                            omega
            · have HE : Hid (lo = m * (2 * W) ∧ IR wr B ga k la ∧ IR wr B gb k lb ∧ Below w.heap.size w wr ∧ ∀ m', m' < m → Good z lb (m' * (2 * W)) (min ((m' + 1) * (2 * W)) k)) := ⟨hlo, Ra, Rb, hBw, hG⟩
              clear Ra Rb hBw hG hlo
              go_wp2_with fail
              go_roundw
              case rel =>
                have hE := HE.out
                have hP := HP.out
                refine ⟨gb, ga, W * 2, lb, la, rfl, rfl, by go_num, by omega, by omega, hP.1.symm, hE.2.2.1, hE.2.1, fun m' hm' => ?_, hE.2.2.2.1⟩
                rw [Nat.mul_comm W 2] at hm' ⊢
                refine hE.2.2.2.2 m' ?_
                rcases Nat.lt_or_ge m' m with h' | h'
                · exact h'
                · have := Nat.mul_le_mul_right (2 * W) h'
                  rw [← hE.1] at this
                  omega
              case measure => simp [intOf]; omega
        · have HE : Hid (IR wr B ga k la ∧ BlockSorted z k W la ∧ Below w.heap.size w wr) := ⟨Ra, hBS, hBw⟩
          clear Ra Rb hBS hBw hne
          go_wp2_with fail
          go_ret
          have hE := HE.out
          rcases Nat.eq_zero_or_pos k with h0 | h0
          · subst h0
            have hl0 : la = [] := List.eq_nil_of_length_eq_zero hE.1.len
            subst hl0
            exact ⟨ga, [], rfl, by rw [← HB.out]; exact hE.1, List.Perm.refl _, List.Pairwise.nil, hE.2.2⟩
          · have hg := hE.2.1 0 (by omega)
            rw [Nat.zero_mul, show min ((0 + 1) * W) k = k by omega] at hg
            have hseg : seg la 0 k = la := by unfold seg; rw [List.drop_zero, List.take_of_length_le (by rw [hE.1.len]; exact Nat.le_refl _)]
            unfold Good at hg
            rw [hseg, Nat.sub_zero, ← List.range_eq_range'] at hg
            exact ⟨ga, la, rfl, by rw [← HB.out]; exact hE.1, hg.1, hg.2, hE.2.2⟩

end Go.Proofs.Qxb6616513a
