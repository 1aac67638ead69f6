import Derived.Test.Qxb6616513aT33
namespace Go.Proofs.Qxb6616513a
open Go.RowKit

set_option maxHeartbeats 4000000 in
set_option maxRecDepth 100000 in
theorem wel_node (h : Nat) (ih : WelOk h) : WelOk (h + 1) := by
  rintro ⟨b, v, ks⟩ r w ha hw hs hr hh
  obtain ⟨c0, c1, -, hkk, hv⟩ := node_cells ha
  have hw' : WF (h + 1) (ks.map fun q => (q.1, er h q.2)) := hw
  have hs' : Asc (times (flat (h + 1) (ks.map fun q => (q.1, er h q.2)))) := hs
  have hlen : ks.length ≤ 64 := by simpa using hw'.2.1
  have hne : ks ≠ [] := fun e => hw'.1 (by rw [e]; rfl)
  have hpos : 0 < ks.length := List.length_pos_iff.2 hne
  have h2 : r = true → 2 ≤ ks.length := fun e => by
    have : 2 ≤ (ks.map fun q => (q.1, er h q.2)).length := hr.1 e
    simpa using this
  have hbl : b < w.heap.size := At.lt (h + 1) _ ha b (by simp [foot])
  show Calls Try.prog 20 #[.pointer (some ⟨b, 0, none⟩), .bool r] w fun e w' => e = .returned (.tuple #[.int .i64 ((h + 1 : Nat) : Int), .bool true]) ∧ Below w.heap.size w w'
  rcases hv with ⟨_, h0⟩ | ⟨g, cap, rfl, hnc, hgl, hc⟩
  · exact absurd h0 hne
  have HK : Hid ((∀ k ∈ ks, At w h k.2 ∧ WF h (er h k.2) ∧ Asc (times (flat h (er h k.2))) ∧ (flat h (er h k.2)).head?.map (·.1) = some k.1) ∧ (∀ j p, ks[j]? = some p → w.cell? ⟨g, j * 2, none⟩ = some (.int .i64 p.1) ∧ w.cell? ⟨g, j * 2 + 1, none⟩ = some (.pointer (some ⟨blk h p.2, 0, none⟩)))) := by
    refine ⟨fun k hk => ?_, hc⟩
    have hm : (k.1, er h k.2) ∈ ks.map fun q => (q.1, er h q.2) := List.mem_map.2 ⟨k, hk, rfl⟩
    exact ⟨hkk k hk, (hw'.2.2 _ hm).1, (kids_asc hs').1 _ hm, (hw'.2.2 _ hm).2⟩
  have q30 := zzpc_any b none 0 0 w c0
  have q32 := zzkc_any b (some ⟨g, 0, none⟩) ks.length cap w c1
  have hl0 : (((ks.length : Nat) : Int) == 0) = false := beq_eq_false_iff_ne.2 (by omega)
  have hcond : r = false ∨ ¬ ((ks.length : Nat) : Int) < 2 := by
    cases r with
    | false => exact Or.inl rfl
    | true => right; have := h2 rfl; omega
  clear ha hw hw' hs hs' hr hkk hc hne h2 c0
  go_enter Try.func20, Try.ntmps20
  go_wp2_with fail
  refine q30.mono ?_
  rintro e w2 ⟨rfl, rfl⟩
  go_wp2_with fail
  refine q32.mono ?_
  rintro e w3 ⟨rfl, rfl⟩
  clear q30 q32
  go_upto_region 14 with fail
  go_cut [70] from 58 to 70 (fun s wc => s = .bool false ∧ wc = w3)
  case first =>
    rcases hcond with rfl | hcond
    · go_wp2_with fail
      go_meet
      case rel => exact ⟨by simp; try omega, rfl⟩
    · cases r with
      | true =>
        go_wp2_with fail
        go_meet
        case rel => exact ⟨by simp; try omega, rfl⟩
      | false =>
        go_wp2_with fail
        go_meet
        case rel => exact ⟨by simp; try omega, rfl⟩
  case rest =>
    obtain ⟨rfl, rfl⟩ := hcut
    clear hcond
    go_wp2_with fail
    go_loopw [13, 14] (fun d i wr => ∃ (k : Nat), k ≤ ks.length ∧ i = .int .i64 k ∧ d = .int .i64 (if k = 0 then -1 else (h : Int)) ∧ Below wc.heap.size wc wr) (fun _ i _ => ks.length - (intOf i).toNat)
    case atStart => exact ⟨0, Nat.zero_le _, rfl, rfl, Below.refl _ _⟩
    case round =>
      obtain ⟨k, hk, rfl, rfl, hB⟩ := hrel
      by_cases hkl : k < ks.length
      · obtain ⟨p, hp⟩ : ∃ p, ks[k]? = some p := ⟨_, List.getElem?_eq_getElem hkl⟩
        obtain ⟨x0, x1⟩ := HK.out.2 k p hp
        have hkp := HK.out.1 p (List.mem_of_getElem? hp)
        have e1 := (hB.cell (p := ⟨b, 1, none⟩) hbl).trans c1
        have q33 := zzkid_any b g ks.length cap k p.1 (blk h p.2) wr e1 hkl ((hB.cell (p := ⟨g, k * 2, none⟩) hgl).trans x0) ((hB.cell (p := ⟨g, k * 2 + 1, none⟩) hgl).trans x1)
        have q36 : ∀ q, Calls Try.prog 36 #[.pointer (some ⟨blk h p.2, 0, none⟩)] (wr.drewN q) fun e w' => e = .returned (.tuple #[.int .i64 p.1, .bool true]) ∧ Hid (Below wc.heap.size wc w') ∧ Calls Try.prog 20 #[.pointer (some ⟨blk h p.2, 0, none⟩), .bool false] w' fun e w'' => e = .returned (.tuple #[.int .i64 (h : Nat), .bool true]) ∧ Hid (Below wc.heap.size wc w'') := by
          intro q
          have hB' : Below wc.heap.size wc (wr.drewN q) := hB.trans ⟨rfl, rfl, rfl, Nat.le_refl _, fun _ _ => rfl⟩
          have hat : At (wr.drewN q) h p.2 := At.same h p.2 hkp.1 fun z hz => hB'.block z (At.lt h p.2 hkp.1 z hz)
          refine (earliest_any h p.2 p.1 (wr.drewN q) hat hkp.2.1 hkp.2.2.2).mono ?_
          rintro e w' ⟨rfl, hB2⟩
          have hB3 := hB'.trans (hB2.mono hB'.size)
          have hat' : At w' h p.2 := At.same h p.2 hkp.1 fun z hz => hB3.block z (At.lt h p.2 hkp.1 z hz)
          refine ⟨rfl, hB3, (ih p.2 false w' hat' hkp.2.1 hkp.2.2.1 ⟨(fun e => by cases e), fun _ => head_some_ne hkp.2.2.2⟩ (by omega)).mono ?_⟩
          rintro e w'' ⟨rfl, hB4⟩
          exact ⟨rfl, hB3.trans (hB4.mono hB3.size)⟩
        obtain ⟨bp, hbp⟩ : ∃ bp, bp = blk h p.2 := ⟨_, rfl⟩
        rw [← hbp] at q33 q36
        have hpp : (p.1 != p.1) = false := by simp
        have hhh : ((h : Int) != (h : Int)) = false := by simp
        clear hp x0 x1 hkp hB e1 hbp
        by_cases hk0 : k = 0
        · subst hk0
          rw [if_pos rfl]
          go_wp2_with fail
          refine q33.mono ?_
          rintro e w5 ⟨rfl, q, rfl⟩
          go_wp2_with fail
          refine (q36 q).mono ?_
          rintro e w6 ⟨rfl, H6, q20⟩
          go_wp2_with fail
          refine q20.mono ?_
          rintro e w7 ⟨rfl, H7⟩
          clear q20 q33 q36
          go_wp2_with fail
          go_roundw
          case rel => exact ⟨0 + 1, by omega, by go_num, by rw [if_neg (by omega)], H7.out⟩
          case measure => simp [intOf]; omega
        · rw [if_neg hk0]
          have hge : (0 : Int) ≤ (h : Int) := by omega
          go_wp2_with fail
          refine q33.mono ?_
          rintro e w5 ⟨rfl, q, rfl⟩
          go_wp2_with fail
          refine (q36 q).mono ?_
          rintro e w6 ⟨rfl, H6, q20⟩
          go_wp2_with fail
          refine q20.mono ?_
          rintro e w7 ⟨rfl, H7⟩
          clear q20 q33 q36
          go_wp2_with fail
          go_roundw
          case rel => exact ⟨k + 1, by omega, by go_num, by rw [if_neg (by omega)], H7.out⟩
          case measure => simp [intOf]; omega
      · obtain rfl : k = ks.length := by omega
        rw [if_neg (by omega)]
        have HE : Hid (Below wc.heap.size wc wr) := hB
        clear hB
        go_wp2_with fail
        go_ret2
        exact ⟨by go_num, HE.out⟩

theorem wel_any : ∀ h : Nat, WelOk h
  | 0 => wel_leaf
  | h + 1 => wel_node h (wel_any h)

end Go.Proofs.Qxb6616513a
