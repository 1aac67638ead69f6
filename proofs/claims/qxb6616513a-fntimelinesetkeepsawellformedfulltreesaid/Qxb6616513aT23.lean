import Derived.Test.Qxb6616513aT22
namespace Go.Proofs.Qxb6616513a
open Go.RowKit

/-- The last place of each run of equal times. -/
def lpt (z : Nat → Int) (v : Nat → Nat) : List Nat → List (Int × Nat)
  | [] => []
  | j :: r => match r with
    | [] => [(z j, v j)]
    | j' :: _ => if z j' = z j then lpt z v r else (z j, v j) :: lpt z v r

theorem lpt_one (z : Nat → Int) (v : Nat → Nat) (j : Nat) : lpt z v [j] = [(z j, v j)] := rfl
theorem lpt_two (z : Nat → Int) (v : Nat → Nat) (j j' : Nat) (r : List Nat) : lpt z v (j :: j' :: r) = if z j' = z j then lpt z v (j' :: r) else (z j, v j) :: lpt z v (j' :: r) := rfl

theorem lpt_length (z : Nat → Int) (v : Nat → Nat) : ∀ l, (lpt z v l).length ≤ l.length
  | [] => by simp [lpt]
  | [j] => by simp [lpt]
  | j :: j' :: r => by
    rw [lpt_two]
    have := lpt_length z v (j' :: r)
    split
    · simp at this ⊢; omega
    · simp at this ⊢; omega

/-- The floats of an argument. -/
def FloatsAt (w : World) (a : Option Addr) (n : Nat) (v : Nat → Nat) : Prop := n = 0 ∨ ∃ d : Addr, a = some d ∧ ∀ j, j < n → w.cell? (d.add j) = some (.float .f64 (v j))

def LptPost (w : World) (ps : List (Int × Nat)) (e : Ending) (w' : World) : Prop :=
  ∃ v1 v2, e = .returned (.tuple #[v1, v2]) ∧ Two w' w.heap.size v1 v2 ps ∧ Below w.heap.size w w'

theorem own_base {w : World} {B B' : Nat} {e : TypeId} {size : Nat} {v : Value} {n : Nat} {xs : List Value} (h : w.ownsRow B e size v n xs) (hB : B' ≤ B) : w.ownsRow B' e size v n xs := by
  refine ⟨h.1, ?_⟩
  rcases h.2 with h' | ⟨g, cap, cur, h1, h2, rest⟩
  · exact Or.inl h'
  · exact Or.inr ⟨g, cap, cur, h1, Nat.le_trans hB h2, rest⟩

set_option maxHeartbeats 4000000 in
set_option maxRecDepth 100000 in
theorem lastPerTime_any (a1 a2 : Option Addr) (n c1 c2 : Nat) (z : Nat → Int) (v : Nat → Nat) (hn : n ≤ 65536) (w : World) (h1 : IntsAt w a1 n z) (h2 : FloatsAt w a2 n v) :
    Calls Try.prog 16 #[.slice a1 n c1, .slice a2 n c2] w fun e w' => ∃ l : List Nat, l.Perm (List.range n) ∧ l.Pairwise (Lex z) ∧ LptPost w (lpt z v l) e w' := by
  obtain ⟨i2, hi2, hz20, hz21, hz22⟩ := info_parts Try.inf2
  obtain ⟨i3, hi3, hz30, hz31, hz32⟩ := info_parts Try.inf32
  have q34 := sortedIdx_any a1 n c1 z hn w h1
  have HA : Hid (IntsAt w a1 n z ∧ FloatsAt w a2 n v) := ⟨h1, h2⟩
  clear h1 h2
  go_enter Try.func16, Try.ntmps16
  go_wp2_with fail
  refine q34.mono ?_
  rintro e w1 ⟨g, l, rfl, hIR, hperm, hlex, hB1⟩
  clear q34
  have hll : l.length = n := hIR.len
  have hgl : g < w1.heap.size := (World.ownsRow.lt hIR g rfl).2
  have HL : Hid (l.Perm (List.range n) ∧ l.Pairwise (Lex z) ∧ IR w1 w.heap.size g n l ∧ Below w.heap.size w w1 ∧ l.length = n) := ⟨hperm, hlex, hIR, hB1, hll⟩
  clear hperm hlex hIR hB1 hll
  go_wp2_with fail
  go_loopw [7, 8, 9] (fun t u i wr => ∃ (k : Nat) (ps : List (Int × Nat)), k ≤ n ∧ i = .int .i64 k ∧ Below w1.heap.size w1 wr ∧ Two wr w1.heap.size t u ps ∧ ps ++ lpt z v (l.drop k) = lpt z v l ∧ ps.length ≤ k) (fun _ _ i _ => n - (intOf i).toNat)
  case atStart => exact ⟨0, [], Nat.zero_le _, rfl, Below.refl _ _, ⟨World.ownsRow_nil _ _ _ _, World.ownsRow_nil _ _ _ _⟩, by simp, by simp⟩
  case round =>
    obtain ⟨k, ps, hk, rfl, hB, hT, hps, hpl⟩ := hrel
    by_cases hkn : k < n
    · have hll := HL.out.2.2.2.2
      obtain ⟨j, hj⟩ : ∃ j, l[k]? = some j := ⟨_, List.getElem?_eq_getElem (by omega)⟩
      have hjn : j < n := by
        have := HL.out.1.mem_iff.1 (List.mem_of_getElem? hj)
        simpa using this
      obtain ⟨d1, hd1, hc1⟩ : ∃ d : Addr, a1 = some d ∧ ∀ j, j < n → w.cell? (d.add j) = some (.int .i64 (z j)) := by
        rcases HA.out.1 with h0 | h0
        · omega
        · exact h0
      obtain ⟨d2, hd2, hc2⟩ : ∃ d : Addr, a2 = some d ∧ ∀ j, j < n → w.cell? (d.add j) = some (.float .f64 (v j)) := by
        rcases HA.out.2 with h0 | h0
        · omega
        · exact h0
      subst hd1 hd2
      have hBw : Below w.heap.size w wr := HL.out.2.2.2.1.trans (hB.mono HL.out.2.2.2.1.size)
      have hcl : ∀ i x, l[i]? = some x → wr.cell? ⟨g, i, none⟩ = some (.int .i64 (x : Nat)) := fun i x hx => (hB.cell (p := ⟨g, i, none⟩) hgl).trans (HL.out.2.2.1.cell hx)
      have e1 := hcl k j hj
      have e2 := (hBw.cell (p := d1.add j) (World.block_lt_of_cell? _ _ (hc1 j hjn))).trans (hc1 j hjn)
      have e3 := (hBw.cell (p := d2.add j) (World.block_lt_of_cell? _ _ (hc2 j hjn))).trans (hc2 j hjn)
      have hle1 : w1.heap.size ≤ wr.heap.size := hB.size
      have hdr : l.drop k = j :: l.drop (k + 1) := by
        have := (List.getElem?_eq_some_iff.1 hj)
        rw [List.drop_eq_getElem_cons this.1, this.2]
      -- is the next at the same time?
      by_cases hsame : k + 1 < n ∧ ∃ j', l[k + 1]? = some j' ∧ z j' = z j
      · obtain ⟨hk1, j', hj', hz'⟩ := hsame
        have hjn' : j' < n := by
          have := HL.out.1.mem_iff.1 (List.mem_of_getElem? hj')
          simpa using this
        have e4 := hcl (k + 1) j' hj'
        have e5 := (hBw.cell (p := d1.add j') (World.block_lt_of_cell? _ _ (hc1 j' hjn'))).trans (hc1 j' hjn')
        have hps' : ps ++ lpt z v (l.drop (k + 1)) = lpt z v l := by
          rw [← hps, hdr]
          have hdr' : l.drop (k + 1) = j' :: l.drop (k + 1 + 1) := by
            have := (List.getElem?_eq_some_iff.1 hj')
            rw [List.drop_eq_getElem_cons this.1, this.2]
          rw [hdr', lpt_two, if_pos hz']
        have HE : Hid (Below w1.heap.size w1 wr ∧ Two wr w1.heap.size u7 u8 ps ∧ ps ++ lpt z v (l.drop (k + 1)) = lpt z v l ∧ ps.length ≤ k) := ⟨hB, hT, hps', hpl⟩
        have hb1 : (k : Int) + 1 < (n : Int) := by omega
        have hzd : (z j' == z j) = true := by simpa using hz'
        clear hB hT hps hps' hpl hj hj' hdr hcl hc1 hc2 hBw hll hz' e3
        go_wp2_with fail
        go_quiet (fail)
        go_wp2_with fail
        go_roundw
        case rel => exact ⟨k + 1, ps, by omega, by go_num, below_drewN HE.out.1 _, HE.out.2.1.same rfl, HE.out.2.2.1, by have := HE.out.2.2.2; omega⟩
        case measure => simp [intOf]; omega
      · by_cases hk1 : k + 1 < n
        · obtain ⟨j', hj'⟩ : ∃ j', l[k + 1]? = some j' := ⟨_, List.getElem?_eq_getElem (by omega)⟩
          have hz' : ¬ z j' = z j := fun e => hsame ⟨hk1, j', hj', e⟩
          have hjn' : j' < n := by
            have := HL.out.1.mem_iff.1 (List.mem_of_getElem? hj')
            simpa using this
          have e4 := hcl (k + 1) j' hj'
          have e5 := (hBw.cell (p := d1.add j') (World.block_lt_of_cell? _ _ (hc1 j' hjn'))).trans (hc1 j' hjn')
          have hps' : (ps ++ [(z j, v j)]) ++ lpt z v (l.drop (k + 1)) = lpt z v l := by
            rw [← hps, hdr]
            have hdr' : l.drop (k + 1) = j' :: l.drop (k + 1 + 1) := by
              have := (List.getElem?_eq_some_iff.1 hj')
              rw [List.drop_eq_getElem_cons this.1, this.2]
            rw [hdr', lpt_two, if_neg hz']
            simp
          have hb1 : (k : Int) + 1 < (n : Int) := by omega
          have hzd : (z j' == z j) = false := by simpa using hz'
          have HE : Hid (Below w1.heap.size w1 wr ∧ Two wr w1.heap.size u7 u8 ps ∧ (ps ++ [(z j, v j)]) ++ lpt z v (l.drop (k + 1)) = lpt z v l ∧ ps.length ≤ k) := ⟨hB, hT, hps', hpl⟩
          clear hB hT hps hps' hpl hj hdr hcl hc1 hc2 hBw hll hj' hz' hsame
          go_wp2_with fail
          go_quiet (fail)
          obtain ⟨w6, hw6⟩ : ∃ w6, w6 = wr.drewN nq := ⟨_, rfl⟩
          have H6 : Hid (Below w1.heap.size w1 w6 ∧ Two w6 w1.heap.size u7 u8 ps ∧ (ps ++ [(z j, v j)]) ++ lpt z v (l.drop (k + 1)) = lpt z v l ∧ ps.length ≤ k) := by
            rw [hw6]
            exact ⟨below_drewN HE.out.1 _, HE.out.2.1.same rfl, HE.out.2.2⟩
          have e2' : w6.cell? (d1.add j) = some (.int .i64 (z j)) := by rw [hw6]; exact e2
          have e3' : w6.cell? (d2.add j) = some (.float .f64 (v j)) := by rw [hw6]; exact e3
          have hle6 : w1.heap.size ≤ w6.heap.size := by rw [hw6]; exact hle1
          rw [← hw6]
          clear HE hw6 e1 e2 e3 e4 e5 hle1
          have hr1 := H6.out.2.1.1
          have hr2 := H6.out.2.1.2
          have hLk : ps.length ≤ 65535 := by have := H6.out.2.2.2; omega
          obtain ⟨L, hL⟩ : ∃ L, L = ps.length := ⟨_, rfl⟩
          rw [← hL] at hr1 hr2 hLk
          have f3 : ∀ W o, (w6.alloc o).grownBy W u7.ownBlock → W.cell? (d2.add j) = some (.float .f64 (v j)) := fun W o hg => by
            have hbl := World.block_lt_of_cell? _ _ e3'
            have hdb : (d2.add j).block < w1.heap.size := by
              have hb1 := HL.out.2.2.2.1
              rcases HA.out.2 with h0 | ⟨d, hd, hc⟩
              · omega
              · have hdd : d = d2 := (Option.some.inj hd).symm
                subst hdd
                exact Nat.lt_of_lt_of_le (World.block_lt_of_cell? _ _ (hc j hjn)) hb1.size
            have hne : some (d2.add j).block ≠ u7.ownBlock := fun e => by have := owned_ge hr1 _ e.symm; omega
            exact (World.cell?_of_block (hg.block _ (by simp; omega) hne)).trans ((World.cell?_of_block (Below.heap_alloc w6 _ _ hbl)).trans e3')
          go_wp2_with (first
            | (at_builtin; refine wpList_append_own _ rfl (.tmp 43) (.tmp 48) 26 rfl w1.heap.size 2 i2 (.int .i64 0) 1 8 Try.underlying26 hi2 hz20 hz21 hz22 rfl (by decide) _ _ _ rfl (hr1.alloc _) ⟨w6.heap.size, 0, none⟩ 1 1 [.int .i64 (z j)] rfl rfl (by intro t u ht; match t, ht with | 0, ht => simp at ht; subst ht; simp [Addr.add]) (by intro u hu; simp at hu; subst hu; rfl) (by unfold maxLen; omega) (by omega) (by simp; omega) ?_; intro t' w7 own7 grow7 _; have f3' := f3 w7 _ grow7)
            | (at_builtin; refine wpList_append_own _ rfl (.tmp 50) (.tmp 55) 27 rfl w1.heap.size 32 i3 (.float .f64 0) 1 8 Try.underlying27 hi3 hz30 hz31 hz32 rfl (by decide) _ _ _ rfl ((keepA hr2 hr1 grow7).alloc _) ⟨w7.heap.size, 0, none⟩ 1 1 [.float .f64 (v j)] rfl rfl (by intro t u ht; match t, ht with | 0, ht => simp at ht; subst ht; simp [Addr.add]) (by intro u hu; simp at hu; subst hu; rfl) (by unfold maxLen; omega) (by omega) (keepS hle6 grow7) ?_; intro v' w8 own8 grow8 _))
          go_roundw
          case rel =>
            have keep2 := keepA hr2 hr1 grow7
            have hle7 : w1.heap.size ≤ w7.heap.size := by have h4 := grow7.size; simp at h4; omega
            have own7' := keepB own7 keep2 grow8
            have b7 : Below w1.heap.size w1 w7 := (H6.out.1.alloc hle6 _).grown grow7 (by simp; omega) (owned_ge hr1)
            have b8 : Below w1.heap.size w1 w8 := (b7.alloc hle7 _).grown grow8 (by simp; omega) (owned_ge keep2)
            refine ⟨k + 1, ps ++ [(z j, v j)], by omega, by go_num, b8, ⟨?_, ?_⟩, H6.out.2.2.1, ?_⟩
            · rw [List.length_append, ← hL, List.map_append]; exact own7'
            · rw [List.length_append, ← hL, List.map_append]; exact own8
            · have := H6.out.2.2.2; simp; omega
          case measure => simp [intOf]; omega
        · have hb1 : ¬ (k : Int) + 1 < (n : Int) := by omega
          have hb1' : decide ((k : Int) + 1 < (n : Int)) = false := decide_eq_false hb1
          have hps' : (ps ++ [(z j, v j)]) ++ lpt z v (l.drop (k + 1)) = lpt z v l := by
            rw [← hps, hdr, List.drop_of_length_le (by omega), lpt_one]
            simp [lpt]
          have HE : Hid (Below w1.heap.size w1 wr ∧ Two wr w1.heap.size u7 u8 ps ∧ (ps ++ [(z j, v j)]) ++ lpt z v (l.drop (k + 1)) = lpt z v l ∧ ps.length ≤ k) := ⟨hB, hT, hps', hpl⟩
          clear hB hT hps hps' hpl hj hdr hcl hc1 hc2 hBw hll hsame
          go_wp2_with fail
          go_quiet (fail)
          obtain ⟨w6, hw6⟩ : ∃ w6, w6 = wr.drewN nq := ⟨_, rfl⟩
          have H6 : Hid (Below w1.heap.size w1 w6 ∧ Two w6 w1.heap.size u7 u8 ps ∧ (ps ++ [(z j, v j)]) ++ lpt z v (l.drop (k + 1)) = lpt z v l ∧ ps.length ≤ k) := by
            rw [hw6]
            exact ⟨below_drewN HE.out.1 _, HE.out.2.1.same rfl, HE.out.2.2⟩
          have e2' : w6.cell? (d1.add j) = some (.int .i64 (z j)) := by rw [hw6]; exact e2
          have e3' : w6.cell? (d2.add j) = some (.float .f64 (v j)) := by rw [hw6]; exact e3
          have hle6 : w1.heap.size ≤ w6.heap.size := by rw [hw6]; exact hle1
          rw [← hw6]
          clear HE hw6 e1 e2 e3 hle1
          have hr1 := H6.out.2.1.1
          have hr2 := H6.out.2.1.2
          have hLk : ps.length ≤ 65535 := by have := H6.out.2.2.2; omega
          obtain ⟨L, hL⟩ : ∃ L, L = ps.length := ⟨_, rfl⟩
          rw [← hL] at hr1 hr2 hLk
          have f3 : ∀ W o, (w6.alloc o).grownBy W u7.ownBlock → W.cell? (d2.add j) = some (.float .f64 (v j)) := fun W o hg => by
            have hbl := World.block_lt_of_cell? _ _ e3'
            have hdb : (d2.add j).block < w1.heap.size := by
              have hb1 := HL.out.2.2.2.1
              rcases HA.out.2 with h0 | ⟨d, hd, hc⟩
              · omega
              · have hdd : d = d2 := (Option.some.inj hd).symm
                subst hdd
                exact Nat.lt_of_lt_of_le (World.block_lt_of_cell? _ _ (hc j hjn)) hb1.size
            have hne : some (d2.add j).block ≠ u7.ownBlock := fun e => by have := owned_ge hr1 _ e.symm; omega
            exact (World.cell?_of_block (hg.block _ (by simp; omega) hne)).trans ((World.cell?_of_block (Below.heap_alloc w6 _ _ hbl)).trans e3')
          go_wp2_with (first
            | (at_builtin; refine wpList_append_own _ rfl (.tmp 43) (.tmp 48) 26 rfl w1.heap.size 2 i2 (.int .i64 0) 1 8 Try.underlying26 hi2 hz20 hz21 hz22 rfl (by decide) _ _ _ rfl (hr1.alloc _) ⟨w6.heap.size, 0, none⟩ 1 1 [.int .i64 (z j)] rfl rfl (by intro t u ht; match t, ht with | 0, ht => simp at ht; subst ht; simp [Addr.add]) (by intro u hu; simp at hu; subst hu; rfl) (by unfold maxLen; omega) (by omega) (by simp; omega) ?_; intro t' w7 own7 grow7 _; have f3' := f3 w7 _ grow7)
            | (at_builtin; refine wpList_append_own _ rfl (.tmp 50) (.tmp 55) 27 rfl w1.heap.size 32 i3 (.float .f64 0) 1 8 Try.underlying27 hi3 hz30 hz31 hz32 rfl (by decide) _ _ _ rfl ((keepA hr2 hr1 grow7).alloc _) ⟨w7.heap.size, 0, none⟩ 1 1 [.float .f64 (v j)] rfl rfl (by intro t u ht; match t, ht with | 0, ht => simp at ht; subst ht; simp [Addr.add]) (by intro u hu; simp at hu; subst hu; rfl) (by unfold maxLen; omega) (by omega) (keepS hle6 grow7) ?_; intro v' w8 own8 grow8 _))
          go_roundw
          case rel =>
            have keep2 := keepA hr2 hr1 grow7
            have hle7 : w1.heap.size ≤ w7.heap.size := by have h4 := grow7.size; simp at h4; omega
            have own7' := keepB own7 keep2 grow8
            have b7 : Below w1.heap.size w1 w7 := (H6.out.1.alloc hle6 _).grown grow7 (by simp; omega) (owned_ge hr1)
            have b8 : Below w1.heap.size w1 w8 := (b7.alloc hle7 _).grown grow8 (by simp; omega) (owned_ge keep2)
            refine ⟨k + 1, ps ++ [(z j, v j)], by omega, by go_num, b8, ⟨?_, ?_⟩, H6.out.2.2.1, ?_⟩
            · rw [List.length_append, ← hL, List.map_append]; exact own7'
            · rw [List.length_append, ← hL, List.map_append]; exact own8
            · have := H6.out.2.2.2; simp; omega
          case measure => simp [intOf]; omega
    · obtain rfl : k = n := by omega
      rw [List.drop_of_length_le (by rw [HL.out.2.2.2.2]; exact Nat.le_refl _)] at hps
      have hps' : ps = lpt z v l := by rw [← hps]; simp [lpt]
      have HE : Hid (Below w.heap.size w wr ∧ Two wr w.heap.size u7 u8 (lpt z v l)) := by
        have hb1 := HL.out.2.2.2.1
        rw [← hps']
        exact ⟨hb1.trans (hB.mono hb1.size), own_base hT.1 hb1.size, own_base hT.2 hb1.size⟩
      clear hB hT hps hps' hpl
      go_wp2_with fail
      go_ret2
      exact ⟨l, HL.out.1, HL.out.2.1, _, _, rfl, HE.out.2, HE.out.1⟩

end Go.Proofs.Qxb6616513a
