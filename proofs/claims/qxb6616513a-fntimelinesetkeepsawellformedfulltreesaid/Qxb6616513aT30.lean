import Derived.Test.Qxb6616513aT29
namespace Go.Proofs.Qxb6616513a
open Go.RowKit

theorem zzBytes19 (a1 a2 : Option Addr) (l1 c1 l2 c2 : Nat) (w : World) (h1 : l1 ≤ 9223372036854775807) (h2 : l2 ≤ 9223372036854775807) :
    Calls Try.prog 19 #[.slice a1 l1 c1, .slice a2 l2 c2] w fun e w' => e = .returned (.bool (decide (l1 + l2 ≤ 1048576))) ∧ w' = w := by
  by_cases h : l1 ≤ 1048576
  · by_cases h' : l2 ≤ 1048576
    · by_cases h'' : l1 + l2 ≤ 1048576
      · go_enter Try.func19, Try.ntmps19
        go_wp2
        go_ret
        exact ⟨by simp [h''], rfl⟩
      · have h3 : 1048576 < l1 + l2 := by omega
        go_enter Try.func19, Try.ntmps19
        go_wp2
        go_ret
        exact ⟨by simp [h''], rfl⟩
    · have h3 : 1048576 < l2 := by omega
      go_enter Try.func19, Try.ntmps19
      go_wp2
      go_ret
      exact ⟨by simp; omega, rfl⟩
  · have h3 : 1048576 < l1 := by omega
    go_enter Try.func19, Try.ntmps19
    go_wp2
    go_ret
    exact ⟨by simp; omega, rfl⟩

set_option maxHeartbeats 1000000 in
set_option maxRecDepth 100000 in
/-- The earliest time under a node. -/
theorem earliest_any (h : Nat) (t : HT h) (f : Int) (w : World) (ha : At w h t) (hw : WF h (er h t)) (hf : (flat h (er h t)).head?.map (·.1) = some f) :
    Calls Try.prog 36 #[.pointer (some ⟨blk h t, 0, none⟩)] w fun e w' => e = .returned (.tuple #[.int .i64 f, .bool true]) ∧ Below w.heap.size w w' := by
  obtain ⟨b0, hb0⟩ : ∃ b0, b0 = blk h t := ⟨_, rfl⟩
  rw [← hb0]
  have HS : Hid (b0 = blk h t ∧ At w h t ∧ WF h (er h t) ∧ (flat h (er h t)).head?.map (·.1) = some f) := ⟨hb0, ha, hw, hf⟩
  clear hb0 ha hw hf
  go_enter Try.func36, Try.ntmps36
  go_wp2_with fail
  go_loopg [0] h (fun k p wr => ∃ (t' : HT k), p = .pointer (some ⟨blk k t', 0, none⟩) ∧ At wr k t' ∧ WF k (er k t') ∧ (flat k (er k t')).head?.map (·.1) = some f ∧ Below w.heap.size w wr)
  case atStart => exact ⟨t, by rw [← HS.out.1], HS.out.2.1, HS.out.2.2.1, HS.out.2.2.2, Below.refl _ _⟩
  case round =>
    obtain ⟨t', rfl, ha, hw, hf, hB⟩ := hrel
    cases gk with
    | zero =>
      obtain ⟨b, v, ps⟩ := t'
      obtain ⟨c0, c1, -, hv⟩ := leaf_cells ha
      change ps.head?.map (·.1) = some f at hf
      obtain ⟨p, r, rfl⟩ := List.exists_cons_of_ne_nil (head_some_ne hf)
      have hpf : p.1 = f := by simpa using hf
      rcases hv with ⟨_, h0⟩ | ⟨g, cap, rfl, hnc, hgl, hc⟩
      · cases h0
      obtain ⟨x0, x1⟩ := hc 0 p rfl
      have hbb : blk 0 (b, .slice (some ⟨g, 0, none⟩) (p :: r).length cap, p :: r) = b := rfl
      have q32 := zzkc_any b none 0 0 wr c1
      have q30 := zzpc_any b (some ⟨g, 0, none⟩) (p :: r).length cap wr c0
      have q31 := zzpoint_any b g (p :: r).length cap 0 p.1 p.2 wr c0 (by simp) x0 x1
      simp only [List.length_cons] at q30 q31
      have hln : (((r.length + 1 : Nat) : Int) == 0) = false := by simp; omega
      have HE : Hid (p.1 = f ∧ Below w.heap.size w wr) := ⟨hpf, hB⟩
      rw [hbb]
      clear ha hw hf hB hc x0 x1 c0 c1 hpf hbb
      go_wp2_with fail
      refine q32.mono ?_
      rintro e w2 ⟨rfl, rfl⟩
      go_wp2_with fail
      refine q30.mono ?_
      rintro e w3 ⟨rfl, rfl⟩
      go_wp2_with fail
      refine q31.mono ?_
      rintro e w4 ⟨rfl, q, rfl⟩
      go_wp2_with fail
      go_ret2
      exact ⟨by rw [← HE.out.1]; rfl, below_drewN HE.out.2 _⟩
    | succ k =>
      obtain ⟨b, v, ks⟩ := t'
      obtain ⟨c0, c1, -, hkk, hv⟩ := node_cells ha
      have hw' : WF (k + 1) (ks.map fun q => (q.1, er k q.2)) := hw
      have hne : ks ≠ [] := fun e => hw'.1 (by rw [e]; rfl)
      obtain ⟨p, r, rfl⟩ := List.exists_cons_of_ne_nil hne
      rcases hv with ⟨_, h0⟩ | ⟨g, cap, rfl, hnc, hgl, hc⟩
      · cases h0
      obtain ⟨x0, x1⟩ := hc 0 p rfl
      have hkw := hw'.2.2 (p.1, er k p.2) (by simp)
      have hfp : (flat k (er k p.2)).head?.map (·.1) = some f := by
        rw [flat_er, List.flatMap_cons] at hf
        obtain ⟨q, qs, hq⟩ := List.exists_cons_of_ne_nil (head_some_ne hkw.2)
        rw [hq] at hf ⊢
        simpa using hf
      have hbb : blk (k + 1) (b, .slice (some ⟨g, 0, none⟩) (p :: r).length cap, p :: r) = b := rfl
      have q32 := zzkc_any b (some ⟨g, 0, none⟩) (p :: r).length cap wr c1
      have q33 := zzkid_any b g (p :: r).length cap 0 p.1 (blk k p.2) wr c1 (by simp) x0 x1
      simp only [List.length_cons] at q32 q33
      have hln : (0 : Int) < ((r.length + 1 : Nat) : Int) := by omega
      have HE : Hid (At wr k p.2 ∧ WF k (er k p.2) ∧ (flat k (er k p.2)).head?.map (·.1) = some f ∧ Below w.heap.size w wr) := ⟨hkk p (by simp), hkw.1, hfp, hB⟩
      obtain ⟨bp, hbp⟩ : ∃ bp, bp = blk k p.2 := ⟨_, rfl⟩
      rw [← hbp] at q33
      have HP : Hid (bp = blk k p.2) := hbp
      rw [hbb]
      clear ha hw hw' hf hB hc x0 x1 c0 c1 hbb hkk hkw hfp hne hbp
      go_wp2_with fail
      refine q32.mono ?_
      rintro e w2 ⟨rfl, rfl⟩
      go_wp2_with fail
      refine q33.mono ?_
      rintro e w4 ⟨rfl, q, rfl⟩
      go_wp2_with fail
      go_roundg k
      case measure => omega
      case rel =>
        have hE := HE.out
        exact ⟨p.2, by rw [HP.out], (SameH.mk rfl rfl rfl rfl : SameH w2 (w2.drewN q)).at hE.1, hE.2.1, hE.2.2.1, below_drewN hE.2.2.2 _⟩

end Go.Proofs.Qxb6616513a
