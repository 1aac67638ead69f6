import Derived.Test.Qxb6616506aDoorF
namespace Go.Proofs.Qxb6616506aDoor
open Go.RowKit

/-- What 'zzReadStep' leaves. -/
def StepPost (w0 : World) (dv : Value) (d : Nat) (z : Nat → Int) (bb bh gp k c m pos' : Nat) (e : Ending) (w' : World) : Prop :=
  ∃ bv' row', e = .returned (.tuple #[.bool true, .int .i64 (pos' : Int), .int .i64 ((c + m : Nat) : Int)]) ∧
    St w0 w' dv d z bb bh pos' bv' ∧ BufR w' w0.heap.size gp bv' (c + m) (pos' - (c + m)) z ∧ PRow w0 w' dv gp k row'

theorem min_nat (a b m : Nat) (w : World) (h : m = Nat.min a b) :
    Calls Tryd.prog 8 #[.int .i64 (a : Int), .int .i64 (b : Int)] w fun e w' => e = .returned (.int .i64 (m : Int)) ∧ w' = w := by
  refine (min_any a b w).mono ?_
  rintro e w' ⟨rfl, rfl⟩
  refine ⟨?_, rfl⟩
  have hm : m = min a b := h
  congr 2
  split <;> omega

theorem BufR.val {w : World} {B gp : Nat} {bv : Value} {c len : Nat} {z : Nat → Int} (h : BufR w B gp bv c len z) : ∃ a cap, bv = .slice a len cap := by
  obtain ⟨a, cap, h, _⟩ := h
  exact ⟨a, cap, h⟩

/-- One Read with bytes left, whatever is in the buffer. -/
theorem read_any (w0 w : World) (dv : Value) (d : Nat) (z : Nat → Int) (bb bh gp k pos c len m pos' : Nat) (bv : Value) (row : Array Value) (aE : Addr) (hd : d ≤ 1048576)
    (S : St w0 w dv d z bb bh pos bv) (hB : BufR w w0.heap.size gp bv c len z) (hp : PRow w0 w dv gp k row) (hk : 0 < k) (hpos : pos ≤ d) (hlen : pos = c + len)
    (hm : m = if len = 0 then Nat.min (d - pos) k else Nat.min len k) (hpos' : pos' = if len = 0 then pos + m else pos) (h2 : 2 ≤ w0.heap.size) (hE : w0.cell? ⟨0, 0, none⟩ = some (.iface 47 (.pointer (some aE)))) :
    Calls Tryd.prog 14 #[.pointer (some ⟨bh, 0, none⟩), .slice (some ⟨gp, 0, none⟩) k k] w (ReadPost w0 dv d z bb bh gp k c m pos') := by
  obtain ⟨a, cap, rfl, hlc, hcap, hc⟩ := hB
  by_cases h0 : len = 0
  · rw [if_pos h0] at hm hpos'
    subst h0 hpos' hlen
    exact read_stream w0 w dv d z bb bh gp k _ m cap a row aE hd S hp hk hpos hcap hm h2 hE
  · rw [if_neg h0] at hm hpos'
    subst hpos'
    rcases hc with h | ⟨g, o, cs, rfl, h1, h3, h4, h5⟩
    · exact absurd h h0
    · exact read_buf w0 w dv d z bb bh gp k pos' c len m cap g o cs row S h1 h3 h4 h5 hp hm (by omega) hk hlc hcap hlen

/-- The comparison of what was read with the data. -/
theorem same_read {w0 w : World} {bd d : Nat} {z : Nat → Int} {bb bh gp k pos c m : Nat} {bv : Value} {row : Array Value} (S : St w0 w (.slice (some ⟨bd, 0, none⟩) d d) d z bb bh pos bv) (hp : PRow w0 w (.slice (some ⟨bd, 0, none⟩) d d) gp k row)
    (sg : Seg row 0 m z c) (hm : m ≤ 1048576) (hcm : c + m ≤ d) (n L : Nat) (hL : L = m) :
    Calls Tryd.prog 15 #[.slice (some ⟨gp, 0, none⟩) m k, .slice (some ⟨bd, c, none⟩) L (d - c)] (w.drewN n) fun e w' => e = .returned (.bool true) ∧ ∃ q, w' = (w.drewN n).drewN q := by
  subst hL
  refine same_any (some ⟨gp, 0, none⟩) (some ⟨bd, c, none⟩) L k (d - c) z c (w.drewN n) hm (Or.inr ⟨gp, 0, rfl, fun j hj => ?_⟩) (Or.inr ⟨bd, c, rfl, fun j hj => ?_⟩)
  · rw [cell_of_row (w.drewN n) gp (0 + j) row 5 _ hp.cells]
    exact sg j hj
  · rcases S.dat with ⟨h, _⟩ | ⟨bd', cs, h, _, hcs, _, hseg⟩
    · cases h
    · simp only [Value.slice.injEq, Option.some.injEq, Addr.mk.injEq, and_true] at h
      subst h
      rw [cell_of_row (w.drewN n) bd (c + j) cs 5 _ hcs]
      have := hseg (c + j) (by omega)
      simpa using this

set_option maxRecDepth 100000 in
set_option maxHeartbeats 800000 in
theorem step_buf (w0 w : World) (bd d : Nat) (z : Nat → Int) (bb bh gp k pos c len m : Nat) (bv : Value) (row : Array Value) (aE : Addr) (hd : d ≤ 1048576)
    (S : St w0 w (.slice (some ⟨bd, 0, none⟩) d d) d z bb bh pos bv) (hB : BufR w w0.heap.size gp bv c len z) (hp : PRow w0 w (.slice (some ⟨bd, 0, none⟩) d d) gp k row) (hk : 0 < k) (hk2 : k ≤ 65536) (hpos : pos ≤ d) (hlen : pos = c + len)
    (hl0 : 0 < len) (hm : m = Nat.min len k) (h2 : 2 ≤ w0.heap.size) (hE : w0.cell? ⟨0, 0, none⟩ = some (.iface 47 (.pointer (some aE)))) :
    Calls Tryd.prog 10 #[.pointer (some ⟨bh, 0, none⟩), .slice (some ⟨gp, 0, none⟩) k k, .slice (some ⟨bd, 0, none⟩) d d, .int .i64 (pos : Int), .int .i64 (c : Int)] w (StepPost w0 (.slice (some ⟨bd, 0, none⟩) d d) d z bb bh gp k c m pos) := by
  have q14 := read_any w0 w _ d z bb bh gp k pos c len m pos bv row aE hd S hB hp hk hpos hlen (by rw [if_neg (by omega)]; exact hm) (by rw [if_neg (by omega)]) h2 hE
  obtain ⟨a, cap, rfl⟩ := hB.val
  have q9 := buffered_any bh a len cap w S.cells.2.1
  have hmn : m = Nat.min k len := by rw [hm]; exact Nat.min_comm _ _
  have q8 := min_nat k len m w hmn
  have hm0 : 0 < m := by rw [hm]; exact Nat.lt_min.2 ⟨hl0, hk⟩
  have hml : m ≤ len := by rw [hm]; exact Nat.min_le_left _ _
  have hmk : m ≤ k := by rw [hm]; exact Nat.min_le_right _ _
  have hcd : c < d := by omega
  have b1 : ((len : Int) != (pos : Int) - (c : Int)) = false := by simp; omega
  have b2 : ((m : Int) != (m : Int)) = false := by simp
  have b3 : ((m : Int) == 0) = false := beq_eq_false_iff_ne.2 (by omega)
  have b4 : ((len : Int) == 0) = false := beq_eq_false_iff_ne.2 (by omega)
  have HL : Hid (pos = c + len) := hlen
  clear S hB hp hlen hm hmn hE
  go_enter Tryd.func10, Tryd.ntmps10
  go_wp2_with fail
  refine q9.mono ?_
  rintro e w1 ⟨rfl, rfl⟩
  go_wp2_with fail
  refine q8.mono ?_
  rintro e w1 ⟨rfl, rfl⟩
  go_wp2_with fail
  refine q14.mono ?_
  rintro e w4 ⟨bv', row', err, rfl, he1, _, S4, B4, P4, sg4⟩
  obtain rfl := he1 (by omega)
  clear q14 q8 q9
  go_wp2_with fail
  have hcm : c + m ≤ d := by have := HL.out; omega
  have q15 := same_read S4 P4 sg4 (by omega) hcm
  have hcm' : (c : Int) + (m : Int) ≤ (d : Int) := by omega
  have hmk' : (m : Int) ≤ (k : Int) := by omega
  go_quiet ((go_at_call 15; exact Calls.quiet_of (q15 _ _ (by omega))))
  clear q15
  obtain ⟨l', hl'⟩ : ∃ l', l' = pos - (c + m) := ⟨_, rfl⟩
  rw [← hl'] at B4
  obtain ⟨a', cap', hbv⟩ := B4.val
  have q9 := fun n => buffered_any bh a' l' cap' (w4.drewN n) (by rw [← hbv]; exact S4.cells.2.1)
  have b5 : ((l' : Int) != (pos : Int) - ((c : Int) + (m : Int))) = false := by have := HL.out; simp; omega
  have HL' : Hid (l' = pos - (c + m)) := hl'
  clear hl' hbv
  go_wp2_with fail
  refine (q9 _).mono ?_
  rintro e w5 ⟨rfl, rfl⟩
  go_wp2_with fail
  go_ret3
  exact ⟨bv', row', by simp, ⟨below_drewN S4.bel _, S4.dat, S4.rb, S4.rh, S4.bge, S4.hge⟩, by rw [← HL'.out]; exact B4, ⟨P4.cells, P4.size, P4.ge, P4.ne⟩⟩

set_option maxRecDepth 100000 in
set_option maxHeartbeats 800000 in
theorem step_stream (w0 w : World) (bd d : Nat) (z : Nat → Int) (bb bh gp k c m : Nat) (bv : Value) (row : Array Value) (aE : Addr) (hd : d ≤ 1048576)
    (S : St w0 w (.slice (some ⟨bd, 0, none⟩) d d) d z bb bh c bv) (hB : BufR w w0.heap.size gp bv c 0 z) (hp : PRow w0 w (.slice (some ⟨bd, 0, none⟩) d d) gp k row) (hk : 0 < k) (hk2 : k ≤ 65536) (hcd : c < d) (hm : m = Nat.min (d - c) k) (h2 : 2 ≤ w0.heap.size) (hE : w0.cell? ⟨0, 0, none⟩ = some (.iface 47 (.pointer (some aE)))) :
    Calls Tryd.prog 10 #[.pointer (some ⟨bh, 0, none⟩), .slice (some ⟨gp, 0, none⟩) k k, .slice (some ⟨bd, 0, none⟩) d d, .int .i64 (c : Int), .int .i64 (c : Int)] w (StepPost w0 (.slice (some ⟨bd, 0, none⟩) d d) d z bb bh gp k c m (c + m)) := by
  have q14 := read_any w0 w _ d z bb bh gp k c c 0 m (c + m) bv row aE hd S hB hp hk (by omega) (by omega) (by rw [if_pos rfl]; exact hm) (by rw [if_pos rfl]) h2 hE
  obtain ⟨a, cap, rfl⟩ := hB.val
  have q9 := buffered_any bh a 0 cap w S.cells.2.1
  have hmn : m = Nat.min k (d - c) := by rw [hm]; exact Nat.min_comm _ _
  have q8 := min_nat k (d - c) m w hmn
  have ed : ((d - c : Nat) : Int) = (d : Int) - (c : Int) := by omega
  rw [ed] at q8
  have hm0 : 0 < m := by rw [hm]; exact Nat.lt_min.2 ⟨by omega, hk⟩
  have hml : m ≤ d - c := by rw [hm]; exact Nat.min_le_left _ _
  have hmk : m ≤ k := by rw [hm]; exact Nat.min_le_right _ _
  have b1 : ((0 : Int) != (c : Int) - (c : Int)) = false := by simp
  have b2 : ((m : Int) != (m : Int)) = false := by simp
  have b3 : ((m : Int) == 0) = false := beq_eq_false_iff_ne.2 (by omega)
  clear S hB hp hm hmn hE ed
  go_enter Tryd.func10, Tryd.ntmps10
  go_wp2_with fail
  refine q9.mono ?_
  rintro e w1 ⟨rfl, rfl⟩
  go_wp2_with fail
  refine q8.mono ?_
  rintro e w1 ⟨rfl, rfl⟩
  go_wp2_with fail
  refine q14.mono ?_
  rintro e w4 ⟨bv', row', err, rfl, he1, _, S4, B4, P4, sg4⟩
  obtain rfl := he1 (by omega)
  clear q14 q8 q9
  go_wp2_with fail
  have hcm : c + m ≤ d := by omega
  have q15 := same_read S4 P4 sg4 (by omega) hcm
  have hcm' : (c : Int) + (m : Int) ≤ (d : Int) := by omega
  have hmk' : (m : Int) ≤ (k : Int) := by omega
  go_quiet ((go_at_call 15; exact Calls.quiet_of (q15 _ _ (by omega))))
  clear q15
  rw [Nat.sub_self] at B4
  obtain ⟨a', cap', hbv⟩ := B4.val
  have q9 := fun n => buffered_any bh a' 0 cap' (w4.drewN n) (by rw [← hbv]; exact S4.cells.2.1)
  have b5 : ((0 : Int) != ((c : Int) + (m : Int)) - ((c : Int) + (m : Int))) = false := by simp
  clear hbv
  go_wp2_with fail
  refine (q9 _).mono ?_
  rintro e w5 ⟨rfl, rfl⟩
  go_wp2_with fail
  go_ret3
  exact ⟨bv', row', by simp, ⟨below_drewN S4.bel _, S4.dat, S4.rb, S4.rh, S4.bge, S4.hge⟩, by rw [Nat.sub_self]; exact B4, ⟨P4.cells, P4.size, P4.ge, P4.ne⟩⟩
end Go.Proofs.Qxb6616506aDoor
