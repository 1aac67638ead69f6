import Derived.Test.Qxb6616513aT13
namespace Go.Proofs.Qxb6616513a
open Go.RowKit

/-- ZZset. -/
theorem zzset_any (h : Nat) (t : HT h) (x : Int) (y : Nat) (w : World) (ha : At w h t) (hok : Ok h (er h t)) (hnd : (foot h t).Nodup) :
    Calls Try.prog 13 #[.pointer (some ⟨blk h t, 0, none⟩), .int .i64 x, .float .f64 y] w fun e w' => e = .returned (.tuple #[]) ∧ RootPost h t (x, y) w w' := by
  have q := tlset_any h t x y w ha hok hnd
  obtain ⟨b0, hb0⟩ : ∃ b0, b0 = blk h t := ⟨_, rfl⟩
  rw [← hb0] at q ⊢
  clear hb0 ha hok hnd
  go_enter Try.func13, Try.ntmps13
  go_wp2_with fail
  refine q.mono ?_
  rintro e w1 ⟨rfl, hP⟩
  have HP : Hid (RootPost h t (x, y) w w1) := hP
  clear hP q
  go_wp2_with fail
  refine bodyPost_end (v := .tuple #[]) (by simp [results, Try.f13]) rfl ⟨rfl, HP.out⟩

/-- ZZnewTimeline. -/
theorem zznew_any (w : World) : Calls Try.prog 12 #[] w fun e w' => e = .returned (.pointer (some ⟨w.heap.size, 0, none⟩)) ∧ w' = w.alloc (.cells #[.slice none 0 0, .slice none 0 0] 60) := by
  go_enter Try.func12, Try.ntmps12
  go_wp2_with fail
  go_ret
  exact ⟨rfl, rfl⟩

theorem zzroot_any (b : Nat) (w : World) : Calls Try.prog 15 #[.pointer (some ⟨b, 0, none⟩)] w fun e w' => e = .returned (.pointer (some ⟨b, 0, none⟩)) ∧ w' = w := by
  go_enter Try.func15, Try.ntmps15
  go_wp2_with fail
  go_ret
  exact ⟨rfl, rfl⟩

theorem zzpc_any (b : Nat) (a : Option Addr) (n c : Nat) (w : World) (h : w.cell? ⟨b, 0, none⟩ = some (.slice a n c)) : Calls Try.prog 30 #[.pointer (some ⟨b, 0, none⟩)] w fun e w' => e = .returned (.int .i64 (n : Nat)) ∧ w' = w := by
  go_enter Try.func30, Try.ntmps30
  go_wp2_with fail
  go_ret
  exact ⟨rfl, rfl⟩

theorem zzkc_any (b : Nat) (a : Option Addr) (n c : Nat) (w : World) (h : w.cell? ⟨b, 1, none⟩ = some (.slice a n c)) : Calls Try.prog 32 #[.pointer (some ⟨b, 0, none⟩)] w fun e w' => e = .returned (.int .i64 (n : Nat)) ∧ w' = w := by
  go_enter Try.func32, Try.ntmps32
  go_wp2_with fail
  go_ret
  exact ⟨rfl, rfl⟩

theorem zzpoint_any (b g n c i : Nat) (x : Int) (y : Nat) (w : World) (h : w.cell? ⟨b, 0, none⟩ = some (.slice (some ⟨g, 0, none⟩) n c)) (hi : i < n) (h0 : w.cell? ⟨g, i * 2, none⟩ = some (.int .i64 x)) (h1 : w.cell? ⟨g, i * 2 + 1, none⟩ = some (.float .f64 y)) :
    Calls Try.prog 31 #[.pointer (some ⟨b, 0, none⟩), .int .i64 (i : Nat)] w fun e w' => e = .returned (.tuple #[.int .i64 x, .float .f64 y]) ∧ ∃ q, w' = w.drewN q := by
  go_enter Try.func31, Try.ntmps31
  go_wp2_with fail
  go_quiet (fail)
  go_wp2_with fail
  go_ret2
  exact ⟨rfl, _, rfl⟩

theorem zzkid_any (b g n c i : Nat) (x : Int) (bk : Nat) (w : World) (h : w.cell? ⟨b, 1, none⟩ = some (.slice (some ⟨g, 0, none⟩) n c)) (hi : i < n) (h0 : w.cell? ⟨g, i * 2, none⟩ = some (.int .i64 x)) (h1 : w.cell? ⟨g, i * 2 + 1, none⟩ = some (.pointer (some ⟨bk, 0, none⟩))) :
    Calls Try.prog 33 #[.pointer (some ⟨b, 0, none⟩), .int .i64 (i : Nat)] w fun e w' => e = .returned (.tuple #[.int .i64 x, .pointer (some ⟨bk, 0, none⟩)]) ∧ ∃ q, w' = w.drewN q := by
  go_enter Try.func33, Try.ntmps33
  go_wp2_with fail
  go_quiet (fail)
  go_wp2_with fail
  go_ret2
  exact ⟨rfl, _, rfl⟩

/-- The points of a tree, left to right. -/
def flat : (h : Nat) → T h → List (Int × Nat)
  | 0, ps => ps
  | h + 1, ks => (show List (Int × T h) from ks).flatMap fun k => flat h k.2

/-- node.len. -/
def LenOk (h : Nat) : Prop := ∀ (t : HT h) (w : World), At w h t → Ok h (er h t) → (flat h (er h t)).length ≤ 65536 →
  Calls Try.prog 45 #[.pointer (some ⟨blk h t, 0, none⟩)] w fun e w' => e = .returned (.int .i64 ((flat h (er h t)).length : Nat)) ∧ Below w.heap.size w w'

theorem len_leaf : LenOk 0 := by
  rintro ⟨b, v, ps⟩ w ha _ hl
  obtain ⟨c0, c1, -, hv⟩ := leaf_cells ha
  show Calls Try.prog 45 #[.pointer (some ⟨b, 0, none⟩)] w fun e w' => e = .returned (.int .i64 (ps.length : Nat)) ∧ Below w.heap.size w w'
  obtain ⟨a, c, rfl⟩ : ∃ a c, v = .slice a ps.length c := by
    rcases hv with ⟨rfl, rfl⟩ | ⟨g, cap, rfl, _⟩
    · exact ⟨none, 0, rfl⟩
    · exact ⟨_, _, rfl⟩
  clear hv ha
  go_enter Try.func45, Try.ntmps45
  go_wp2_with fail
  refine wp_loop_rounds 1 ?_
  rw [rounds_succ]
  go_wp2_with fail
  go_ret
  exact ⟨rfl, Below.refl _ _⟩

/-- How many lie under the first k kids. -/
def flatN (h : Nat) (ks : List (Int × HT h)) (k : Nat) : Nat := ((ks.take k).flatMap fun q => flat h (er h q.2)).length

theorem flat_er (h b : Nat) (v : Value) (ks : List (Int × HT h)) : flat (h + 1) (er (h + 1) (b, v, ks)) = ks.flatMap fun q => flat h (er h q.2) := by
  rw [er_succ]
  show (ks.map fun k => (k.1, er h k.2)).flatMap (fun k => flat h k.2) = _
  rw [List.flatMap_map]

theorem flatN_succ {h : Nat} {ks : List (Int × HT h)} {k : Nat} {q : Int × HT h} (hq : ks[k]? = some q) : flatN h ks (k + 1) = flatN h ks k + (flat h (er h q.2)).length := by
  unfold flatN
  rw [List.take_add_one, hq]
  simp

theorem flatN_le {h : Nat} {ks : List (Int × HT h)} (k : Nat) : flatN h ks k ≤ (ks.flatMap fun q => flat h (er h q.2)).length := by
  unfold flatN
  conv => rhs; rw [← List.take_append_drop k ks]
  rw [List.flatMap_append, List.length_append]
  omega

set_option maxHeartbeats 1000000 in
set_option maxRecDepth 100000 in
theorem len_node (h : Nat) (ih : LenOk h) : LenOk (h + 1) := by
  rintro ⟨b, v, ks⟩ w ha hok hl
  rw [flat_er] at hl
  obtain ⟨c0, c1, -, hkk, hv⟩ := node_cells ha
  show Calls Try.prog 45 #[.pointer (some ⟨b, 0, none⟩)] w fun e w' => e = .returned (.int .i64 ((flat (h + 1) (er (h + 1) (b, v, ks))).length : Nat)) ∧ Below w.heap.size w w'
  rw [flat_er]
  rcases hv with ⟨rfl, rfl⟩ | ⟨g, cap, rfl, hnc, hgl, hc⟩
  · go_enter Try.func45, Try.ntmps45
    go_wp2_with fail
    refine wp_loop_rounds 1 ?_
    rw [rounds_succ]
    go_wp2_with fail
    go_ret
    exact ⟨rfl, Below.refl _ _⟩
  · obtain ⟨N, hN⟩ : ∃ N, N = (ks.flatMap fun q => flat h (er h q.2)).length := ⟨_, rfl⟩
    rw [← hN] at hl ⊢
    have hlen : ks.length ≤ 64 := by
      have : (ks.map fun k => (k.1, er h k.2)).length ≤ 64 := hok.2.2.1
      simpa using this
    have HN : Hid (N = flatN h ks ks.length ∧ (∀ k, flatN h ks k ≤ N) ∧ (∀ k ∈ ks, At w h k.2 ∧ Ok h (er h k.2)) ∧ (∀ j k, ks[j]? = some k → w.cell? ⟨g, j * 2, none⟩ = some (.int .i64 k.1) ∧ w.cell? ⟨g, j * 2 + 1, none⟩ = some (.pointer (some ⟨blk h k.2, 0, none⟩)))) := by
      refine ⟨?_, fun k => ?_, fun k hk => ⟨hkk k hk, (hok.2.2.2 (k.1, er h k.2) (List.mem_map.2 ⟨k, hk, rfl⟩)).1⟩, hc⟩
      · rw [hN]; unfold flatN; rw [List.take_length]
      · rw [hN]; exact flatN_le k
    clear ha hkk hN hok hc
    go_enter Try.func45, Try.ntmps45
    go_wp2_with fail
    go_loopw [3, 16] (fun s i wr => ∃ (k : Nat), k ≤ ks.length ∧ i = .int .i64 k ∧ s = .int .i64 (flatN h ks k : Nat) ∧ Below w.heap.size w wr) (fun _ i _ => ks.length - (intOf i).toNat)
    case atStart => exact ⟨0, Nat.zero_le _, rfl, rfl, Below.refl _ _⟩
    case round =>
      obtain ⟨k, hk, rfl, rfl, hB⟩ := hrel
      by_cases hlt : k < ks.length
      · obtain ⟨q, hq⟩ : ∃ q, ks[k]? = some q := ⟨_, List.getElem?_eq_getElem hlt⟩
        obtain ⟨x0, x1⟩ := HN.out.2.2.2 k q hq
        have e0 := (hB.cell (p := ⟨g, k * 2, none⟩) hgl).trans x0
        have e1 := (hB.cell (p := ⟨g, k * 2 + 1, none⟩) hgl).trans x1
        have hkq := HN.out.2.2.1 q (List.mem_of_getElem? hq)
        have hs := flatN_succ hq
        have hle := HN.out.2.1 (k + 1)
        obtain ⟨bq, hbq⟩ : ∃ bq, bq = blk h q.2 := ⟨_, rfl⟩
        rw [← hbq] at e1
        have q45 : Calls Try.prog 45 #[.pointer (some ⟨bq, 0, none⟩)] (wr.alloc (.cells #[.int .i64 q.1, .pointer (some ⟨bq, 0, none⟩)] 84)) fun e w' => e = .returned (.int .i64 ((flat h (er h q.2)).length : Nat)) ∧ Hid (Below w.heap.size w w') := by
          have hB2 : Below w.heap.size w (wr.alloc (.cells #[.int .i64 q.1, .pointer (some ⟨bq, 0, none⟩)] 84)) := hB.alloc hB.size _
          have hat : At (wr.alloc (.cells #[.int .i64 q.1, .pointer (some ⟨bq, 0, none⟩)] 84)) h q.2 := At.same h q.2 hkq.1 fun z hz => hB2.block z (At.lt h q.2 hkq.1 z hz)
          rw [hbq]
          rw [hbq] at hat hB2
          refine (ih q.2 _ hat hkq.2 (by omega)).mono ?_
          rintro e w' ⟨rfl, hB'⟩
          exact ⟨rfl, hB2.trans (hB'.mono hB2.size)⟩
        obtain ⟨m, hm⟩ : ∃ m, m = (flat h (er h q.2)).length := ⟨_, rfl⟩
        rw [← hm] at q45 hs
        obtain ⟨f0, hf0⟩ : ∃ f0, f0 = flatN h ks k := ⟨_, rfl⟩
        rw [← hf0] at hs ⊢
        have hsum : f0 + m ≤ 65536 := by omega
        have HSm : Hid (flatN h ks (k + 1) = f0 + m) := hs
        clear hq x0 x1 hkq hbq hB hs hm hf0 hle
        go_wp2_with fail
        refine q45.mono ?_
        rintro e w5 ⟨rfl, HB5⟩
        clear q45 e0 e1
        go_wp2_with fail
        go_roundw
        case rel => exact ⟨k + 1, by omega, by go_num, by rw [HSm.out]; go_num, HB5.out⟩
        case measure => simp [intOf]; omega
      · obtain rfl : k = ks.length := by omega
        have HE : Hid (flatN h ks ks.length = N ∧ Below w.heap.size w wr) := ⟨HN.out.1.symm, hB⟩
        clear hB
        obtain ⟨f0, hf0⟩ : ∃ f0, f0 = flatN h ks ks.length := ⟨_, rfl⟩
        rw [← hf0]
        rw [← hf0] at HE
        clear hf0
        go_wp2_with fail
        go_ret
        exact ⟨by rw [← HE.out.1]; rfl, HE.out.2⟩

theorem len_any : ∀ h : Nat, LenOk h
  | 0 => len_leaf
  | h + 1 => len_node h (len_any h)

/-- ZZlen. -/
theorem zzlen_any (h : Nat) (t : HT h) (w : World) (ha : At w h t) (hok : Ok h (er h t)) (hl : (flat h (er h t)).length ≤ 65536) :
    Calls Try.prog 17 #[.pointer (some ⟨blk h t, 0, none⟩)] w fun e w' => e = .returned (.int .i64 ((flat h (er h t)).length : Nat)) ∧ Below w.heap.size w w' := by
  have q := len_any h t w ha hok hl
  obtain ⟨b0, hb0⟩ : ∃ b0, b0 = blk h t := ⟨_, rfl⟩
  obtain ⟨m, hm⟩ : ∃ m, m = (flat h (er h t)).length := ⟨_, rfl⟩
  rw [← hb0, ← hm] at q ⊢
  clear hb0 ha hok hl hm
  have q35 : Calls Try.prog 35 #[.pointer (some ⟨b0, 0, none⟩)] w fun e w' => e = .returned (.int .i64 (m : Nat)) ∧ Below w.heap.size w w' := by
    go_enter Try.func35, Try.ntmps35
    go_wp2_with fail
    refine q.mono ?_
    rintro e w1 ⟨rfl, hP⟩
    have HP : Hid (Below w.heap.size w w1) := hP
    clear hP q
    go_wp2_with fail
    go_ret
    exact ⟨rfl, HP.out⟩
  go_enter Try.func17, Try.ntmps17
  go_wp2_with fail
  refine q35.mono ?_
  rintro e w1 ⟨rfl, hP⟩
  have HP : Hid (Below w.heap.size w w1) := hP
  clear hP q q35
  go_wp2_with fail
  go_ret
  exact ⟨rfl, HP.out⟩

theorem zzBytes11 (a1 a2 : Option Addr) (l1 c1 l2 c2 : Nat) (w : World) (h1 : l1 ≤ 9223372036854775807) (h2 : l2 ≤ 9223372036854775807) :
    Calls Try.prog 11 #[.slice a1 l1 c1, .slice a2 l2 c2] w fun e w' => e = .returned (.bool (decide (l1 + l2 ≤ 1048576))) ∧ w' = w := by
  by_cases h : l1 ≤ 1048576
  · by_cases h' : l2 ≤ 1048576
    · by_cases h'' : l1 + l2 ≤ 1048576
      · go_enter Try.func11, Try.ntmps11
        go_wp2
        go_ret
        exact ⟨by simp [h''], rfl⟩
      · have h3 : 1048576 < l1 + l2 := by omega
        go_enter Try.func11, Try.ntmps11
        go_wp2
        go_ret
        exact ⟨by simp [h''], rfl⟩
    · have h3 : 1048576 < l2 := by omega
      go_enter Try.func11, Try.ntmps11
      go_wp2
      go_ret
      exact ⟨by simp; omega, rfl⟩
  · have h3 : 1048576 < l1 := by omega
    go_enter Try.func11, Try.ntmps11
    go_wp2
    go_ret
    exact ⟨by simp; omega, rfl⟩

end Go.Proofs.Qxb6616513a
