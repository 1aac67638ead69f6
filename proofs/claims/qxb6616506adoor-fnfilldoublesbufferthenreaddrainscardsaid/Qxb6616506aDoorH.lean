import Derived.Test.Qxb6616506aDoorG
namespace Go.Proofs.Qxb6616506aDoor
open Go.RowKit

set_option maxRecDepth 100000 in
set_option maxHeartbeats 800000 in
theorem step_end (w0 w : World) (dv : Value) (d : Nat) (z : Nat → Int) (bb bh gp k : Nat) (bv : Value) (row : Array Value) (aE : Addr) (hd : d ≤ 1048576)
    (S : St w0 w dv d z bb bh d bv) (hB : BufR w w0.heap.size gp bv d 0 z) (hp : PRow w0 w dv gp k row) (hk : 0 < k) (hk2 : k ≤ 65536)
    (h2 : 2 ≤ w0.heap.size) (hE : w0.cell? ⟨0, 0, none⟩ = some (.iface 47 (.pointer (some aE)))) :
    Calls Tryd.prog 10 #[.pointer (some ⟨bh, 0, none⟩), .slice (some ⟨gp, 0, none⟩) k k, dv, .int .i64 (d : Int), .int .i64 (d : Int)] w (StepPost w0 dv d z bb bh gp k d 0 d) := by
  have hm : 0 = Nat.min (d - d) k := by rw [Nat.sub_self]; exact (Nat.zero_min _).symm
  have q14 := read_any w0 w _ d z bb bh gp k d d 0 0 d bv row aE hd S hB hp hk (Nat.le_refl _) (by omega) (by rw [if_pos rfl]; exact hm) (by rw [if_pos rfl]; rfl) h2 hE
  obtain ⟨a, cap, rfl⟩ := hB.val
  have q9 := buffered_any bh a 0 cap w S.cells.2.1
  have q8 := min_nat k 0 0 w (Nat.min_zero _).symm
  have b1 : ((0 : Int) != (d : Int) - (d : Int)) = false := by simp
  rcases S.dat with ⟨rfl, rfl⟩ | ⟨bd, cs, rfl, _⟩
  · clear S hB hp hm hE
    go_enter Tryd.func10, Tryd.ntmps10
    go_wp2_with fail
    refine q9.mono ?_
    rintro e w1 ⟨rfl, rfl⟩
    go_wp2_with fail
    refine q8.mono ?_
    rintro e w1 ⟨rfl, rfl⟩
    go_wp2_with fail
    refine q14.mono ?_
    rintro e w4 ⟨bv', row', err, rfl, _, he1, S4, B4, P4, sg4⟩
    obtain ⟨ae, rfl⟩ := he1 rfl
    clear q14 q8 q9
    go_wp2_with fail
    have q15 := fun n => same_any (some ⟨gp, 0, none⟩) none 0 k 0 z 0 (w4.drewN n) (Nat.zero_le _) (Or.inl rfl) (Or.inl rfl)
    go_quiet ((go_at_call 15; exact Calls.quiet_of (q15 _)))
    clear q15
    obtain ⟨a', cap', hbv⟩ := B4.val
    have q9 := fun n => buffered_any bh a' 0 cap' (w4.drewN n) (by rw [← hbv]; exact S4.cells.2.1)
    clear hbv
    go_wp2_with fail
    refine (q9 _).mono ?_
    rintro e w5 ⟨rfl, rfl⟩
    go_wp2_with fail
    go_ret3
    exact ⟨bv', row', by simp, ⟨below_drewN S4.bel _, S4.dat, S4.rb, S4.rh, S4.bge, S4.hge⟩, B4, ⟨P4.cells, P4.size, P4.ge, P4.ne⟩⟩
  · clear S hB hp hm hE
    go_enter Tryd.func10, Tryd.ntmps10
    go_wp2_with fail
    refine q9.mono ?_
    rintro e w1 ⟨rfl, rfl⟩
    go_wp2_with fail
    refine q8.mono ?_
    rintro e w1 ⟨rfl, rfl⟩
    go_wp2_with fail
    refine q14.mono ?_
    rintro e w4 ⟨bv', row', err, rfl, _, he1, S4, B4, P4, sg4⟩
    obtain ⟨ae, rfl⟩ := he1 rfl
    clear q14 q8 q9
    go_wp2_with fail
    have q15 := fun n b => same_any (some ⟨gp, 0, none⟩) b 0 k 0 z 0 (w4.drewN n) (Nat.zero_le _) (Or.inl rfl) (Or.inl rfl)
    go_quiet ((go_at_call 15; exact Calls.quiet_of (q15 _ _)))
    clear q15
    rw [show d - (d + 0) = 0 by omega] at B4
    obtain ⟨a', cap', hbv⟩ := B4.val
    have q9 := fun n => buffered_any bh a' 0 cap' (w4.drewN n) (by rw [← hbv]; exact S4.cells.2.1)
    clear hbv
    go_wp2_with fail
    refine (q9 _).mono ?_
    rintro e w5 ⟨rfl, rfl⟩
    go_wp2_with fail
    go_ret3
    exact ⟨bv', row', by simp, ⟨below_drewN S4.bel _, S4.dat, S4.rb, S4.rh, S4.bge, S4.hge⟩, by rw [show d - (d + 0) = 0 by omega]; exact B4, ⟨P4.cells, P4.size, P4.ge, P4.ne⟩⟩

/-- One step of the draining, with bytes left. -/
theorem step_any (w0 w : World) (dv : Value) (d : Nat) (z : Nat → Int) (bb bh gp k pos c : Nat) (bv : Value) (row : Array Value) (aE : Addr) (hd : d ≤ 1048576)
    (S : St w0 w dv d z bb bh pos bv) (hB : BufR w w0.heap.size gp bv c (pos - c) z) (hp : PRow w0 w dv gp k row) (hk : 0 < k) (hk2 : k ≤ 65536) (hpos : pos ≤ d) (hcp : c ≤ pos) (hcd : c < d)
    (h2 : 2 ≤ w0.heap.size) (hE : w0.cell? ⟨0, 0, none⟩ = some (.iface 47 (.pointer (some aE)))) :
    Calls Tryd.prog 10 #[.pointer (some ⟨bh, 0, none⟩), .slice (some ⟨gp, 0, none⟩) k k, dv, .int .i64 (pos : Int), .int .i64 (c : Int)] w fun e w' =>
      ∃ m pos', 0 < m ∧ c + m ≤ pos' ∧ pos' ≤ d ∧ StepPost w0 dv d z bb bh gp k c m pos' e w' := by
  rcases S.dat with ⟨_, h0⟩ | ⟨bd, cs, rfl, _⟩
  · omega
  by_cases h : c = pos
  · subst h
    rw [Nat.sub_self] at hB
    refine (step_stream w0 w bd d z bb bh gp k c _ bv row aE hd S hB hp hk hk2 hcd rfl h2 hE).mono fun e w' h => ⟨_, _, ?_, ?_, ?_, h⟩
    · exact Nat.lt_min.2 ⟨by omega, hk⟩
    · exact Nat.le_refl _
    · have : Nat.min (d - c) k ≤ d - c := Nat.min_le_left _ _
      omega
  · refine (step_buf w0 w bd d z bb bh gp k pos c (pos - c) _ bv row aE hd S hB hp hk hk2 hpos (by omega) (by omega) rfl h2 hE).mono fun e w' h => ⟨_, _, ?_, ?_, hpos, h⟩
    · exact Nat.lt_min.2 ⟨by omega, hk⟩
    · have : Nat.min (pos - c) k ≤ pos - c := Nat.min_le_left _ _
      omega
end Go.Proofs.Qxb6616506aDoor
