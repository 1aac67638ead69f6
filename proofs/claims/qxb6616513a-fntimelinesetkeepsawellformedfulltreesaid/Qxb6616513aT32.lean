import Derived.Test.Qxb6616513aT31
namespace Go.Proofs.Qxb6616513a
open Go.RowKit

theorem leaves_len : ∀ (h : Nat) (t : T h), WF h t → flat h t ≠ [] → (leaves h t).length ≤ (flat h t).length
  | 0, ps, _, hn => by
    change List (Int × Nat) at ps
    have : 0 < ps.length := List.length_pos_iff.2 hn
    show 1 ≤ ps.length
    omega
  | h + 1, ks, hw, hn => by
    change List (Int × T h) at ks
    have hk : ∀ k ∈ ks, (leaves h k.2).length ≤ (flat h k.2).length := fun k hk => leaves_len h k.2 (hw.2.2 k hk).1 (head_some_ne (hw.2.2 k hk).2)
    rw [leaves_node, flat_node]
    clear hw hn
    induction ks with
    | nil => simp
    | cons k ks ih =>
      rw [List.flatMap_cons, List.flatMap_cons, List.length_append, List.length_append]
      have h1 := hk k (by simp)
      have h2 := ih (fun q hq => hk q (by simp [hq]))
      omega

/-- A row of numbers. -/
def NR (w : World) (B : Nat) (v : Value) (l : List Nat) : Prop := w.ownsRow B 3 1 v l.length (l.map fun i => .int .i64 (i : Nat))
theorem NR.same {w w' : World} {B : Nat} {v : Value} {l : List Nat} (h : NR w B v l) (s : w'.heap = w.heap) : NR w' B v l := ownsRow_same h fun b _ => by rw [s]

def sizes (h : Nat) (t : T h) : List Nat := (leaves h t).map List.length

def SizOk (h : Nat) : Prop := ∀ (t : HT h) (w : World) (B : Nat) (v : Value) (l0 : List Nat), At w h t → WF h (er h t) → (∀ z ∈ foot h t, z < B) → B ≤ w.heap.size → NR w B v l0 → l0.length + (leaves h (er h t)).length ≤ 65537 →
  Calls Try.prog 21 #[.pointer (some ⟨blk h t, 0, none⟩), v] w fun e w' => ∃ v', e = .returned v' ∧ NR w' B v' (l0 ++ sizes h (er h t)) ∧ Below B w w'

set_option maxHeartbeats 1000000 in
set_option maxRecDepth 100000 in
theorem siz_leaf : SizOk 0 := by
  rintro ⟨b, v, ps⟩ w B v0 l0 ha hw hlt hBw hN hl
  obtain ⟨i3, hi3, hz0, hz1, hz2⟩ := info_parts Try.inf3
  obtain ⟨c0, c1, -, hv⟩ := leaf_cells ha
  have hw' : ps.length ≤ 128 := hw
  show Calls Try.prog 21 #[.pointer (some ⟨b, 0, none⟩), v0] w fun e w' => ∃ v', e = .returned v' ∧ NR w' B v' (l0 ++ [ps.length]) ∧ Below B w w'
  obtain ⟨a, c, rfl⟩ : ∃ a c, v = .slice a ps.length c := by
    rcases hv with ⟨rfl, rfl⟩ | ⟨g, cap, rfl, _⟩
    · exact ⟨none, 0, rfl⟩
    · exact ⟨_, _, rfl⟩
  have q32 := zzkc_any b none 0 0 w c1
  have q30 := zzpc_any b a ps.length c w c0
  change l0.length + 1 ≤ 65537 at hl
  have HN : Hid (NR w B v0 l0) := hN
  have hr1 : w.ownsRow B 3 1 v0 l0.length (l0.map fun i => .int .i64 (i : Nat)) := hN
  obtain ⟨L, hL⟩ : ∃ L, L = l0.length := ⟨_, rfl⟩
  rw [← hL] at hr1 hl
  clear hv ha hw hlt hN c0 c1
  go_enter Try.func21, Try.ntmps21
  go_wp2_with fail
  refine q32.mono ?_
  rintro e w2 ⟨rfl, rfl⟩
  go_wp2_with fail
  refine q30.mono ?_
  rintro e w3 ⟨rfl, rfl⟩
  go_wp2_with (at_builtin; refine wpList_append_own _ rfl (.tmp 11) (.tmp 14) 42 rfl B 3 i3 (.int .i64 0) 1 8 Try.underlying42 hi3 hz0 hz1 hz2 rfl (by decide) _ _ _ rfl (hr1.alloc _) ⟨w3.heap.size, 0, none⟩ 1 1 [.int .i64 (ps.length : Nat)] rfl rfl (by intro t u ht; match t, ht with | 0, ht => simp at ht; subst ht; simp [Addr.add]) (by intro u hu; simp at hu; subst hu; rfl) (by unfold maxLen; omega) (by omega) (by simp; omega) ?_; intro t' w7 own7 grow7 _)
  go_ret
  refine ⟨_, rfl, ?_, ((Below.refl B w3).alloc hBw _).grown grow7 (by simp; omega) (owned_ge hr1)⟩
  unfold NR
  rw [List.length_append, ← hL, List.map_append]
  exact own7

/-- The leaves under the first k kids. -/
def leavesK (h : Nat) (ks : List (Int × HT h)) (k : Nat) : List (List (Int × Nat)) := (ks.take k).flatMap fun q => leaves h (er h q.2)
theorem leavesK_succ {h : Nat} {ks : List (Int × HT h)} {k : Nat} {q : Int × HT h} (hq : ks[k]? = some q) : leavesK h ks (k + 1) = leavesK h ks k ++ leaves h (er h q.2) := by
  unfold leavesK
  rw [List.take_add_one, hq]
  simp
theorem leaves_er (h b : Nat) (v : Value) (ks : List (Int × HT h)) : leaves (h + 1) (er (h + 1) (b, v, ks)) = leavesK h ks ks.length := by
  rw [er_succ]
  show (ks.map fun k => (k.1, er h k.2)).flatMap (fun k => leaves h k.2) = _
  rw [List.flatMap_map]
  unfold leavesK
  rw [List.take_length]
theorem leavesK_le {h : Nat} {ks : List (Int × HT h)} (k : Nat) : (leavesK h ks k).length ≤ (leavesK h ks ks.length).length := by
  unfold leavesK
  rw [List.take_length]
  conv => rhs; rw [← List.take_append_drop k ks]
  rw [List.flatMap_append, List.length_append]
  omega

set_option maxHeartbeats 2000000 in
set_option maxRecDepth 100000 in
theorem siz_node (h : Nat) (ih : SizOk h) : SizOk (h + 1) := by
  rintro ⟨b, v, ks⟩ w B v0 l0 ha hw hlt hBw hN hl
  rw [leaves_er] at hl
  obtain ⟨c0, c1, -, hkk, hv⟩ := node_cells ha
  have hbB : b < B := hlt b (by simp [foot])
  have hw' : WF (h + 1) (ks.map fun q => (q.1, er h q.2)) := hw
  have hlen : ks.length ≤ 64 := by simpa using hw'.2.1
  have hne : ks ≠ [] := fun e => hw'.1 (by rw [e]; rfl)
  have hpos : 0 < ks.length := List.length_pos_iff.2 hne
  show Calls Try.prog 21 #[.pointer (some ⟨b, 0, none⟩), v0] w fun e w' => ∃ v', e = .returned v' ∧ NR w' B v' (l0 ++ sizes (h + 1) (er (h + 1) (b, v, ks))) ∧ Below B w w'
  unfold sizes
  rw [leaves_er]
  rcases hv with ⟨_, h0⟩ | ⟨g, cap, rfl, hnc, hgl, hc⟩
  · exact absurd h0 hne
  have hgB : g < B := hlt g (by simp [foot, Value.ownBlock])
  have HK : Hid ((∀ k ∈ ks, At w h k.2 ∧ WF h (er h k.2) ∧ ∀ z ∈ foot h k.2, z < B) ∧ (∀ j p, ks[j]? = some p → w.cell? ⟨g, j * 2, none⟩ = some (.int .i64 p.1) ∧ w.cell? ⟨g, j * 2 + 1, none⟩ = some (.pointer (some ⟨blk h p.2, 0, none⟩)))) := ⟨fun k hk => ⟨hkk k hk, (hw'.2.2 (k.1, er h k.2) (List.mem_map.2 ⟨k, hk, rfl⟩)).1, fun z hz => hlt z (by
    rw [foot_succ]
    exact List.mem_cons_of_mem _ (List.mem_append_right _ (mem_kidsFoot.2 ⟨k, hk, hz⟩)))⟩, hc⟩
  have H2 : Hid (NR w B v0 l0 ∧ l0.length + (leavesK h ks ks.length).length ≤ 65537) := ⟨hN, hl⟩
  obtain ⟨R, hR⟩ : ∃ R, R = l0 ++ (leavesK h ks ks.length).map List.length := ⟨_, rfl⟩
  rw [← hR]
  have HR : Hid (R = l0 ++ (leavesK h ks ks.length).map List.length) := hR
  have q32 := zzkc_any b (some ⟨g, 0, none⟩) ks.length cap w c1
  have hl0 : (((ks.length : Nat) : Int) == 0) = false := by simp; omega
  clear ha hw hw' hlt hkk hl hR hN hc hne
  go_enter Try.func21, Try.ntmps21
  go_wp2_with fail
  refine q32.mono ?_
  rintro e w5 ⟨rfl, rfl⟩
  clear q32
  go_wp2_with fail
  go_loopw [1, 5] (fun t i wr => ∃ (k : Nat), k ≤ ks.length ∧ i = .int .i64 k ∧ Below B w5 wr ∧ NR wr B t (l0 ++ (leavesK h ks k).map List.length)) (fun _ i _ => ks.length - (intOf i).toNat)
  case atStart => exact ⟨0, Nat.zero_le _, rfl, Below.refl _ _, by simpa [leavesK] using H2.out.1⟩
  case round =>
    obtain ⟨k, hk, rfl, hB, hT⟩ := hrel
    have e1 := (hB.cell (p := ⟨b, 1, none⟩) hbB).trans c1
    have q32 := zzkc_any b (some ⟨g, 0, none⟩) ks.length cap wr e1
    by_cases hkl : k < ks.length
    · obtain ⟨p, hp⟩ : ∃ p, ks[k]? = some p := ⟨_, List.getElem?_eq_getElem hkl⟩
      obtain ⟨x0, x1⟩ := HK.out.2 k p hp
      have q33 := zzkid_any b g ks.length cap k p.1 (blk h p.2) wr e1 hkl ((hB.cell (p := ⟨g, k * 2, none⟩) hgB).trans x0) ((hB.cell (p := ⟨g, k * 2 + 1, none⟩) hgB).trans x1)
      have hkp := HK.out.1 p (List.mem_of_getElem? hp)
      have ek := leavesK_succ hp
      have hlk := leavesK_le (ks := ks) (k + 1)
      have hL1 := H2.out.2
      have q21 : ∀ q, Calls Try.prog 21 #[.pointer (some ⟨blk h p.2, 0, none⟩), u1] (wr.drewN q) fun e w' => ∃ v1, e = .returned v1 ∧ Hid (NR w' B v1 (l0 ++ (leavesK h ks (k + 1)).map List.length) ∧ Below B w5 w') := by
        intro q
        have hB' : Below B w5 (wr.drewN q) := hB.trans ⟨rfl, rfl, rfl, Nat.le_refl _, fun _ _ => rfl⟩
        have hat : At (wr.drewN q) h p.2 := At.same h p.2 hkp.1 fun z hz => hB'.block z (hkp.2.2 z hz)
        refine (ih p.2 (wr.drewN q) B u1 (l0 ++ (leavesK h ks k).map List.length) hat hkp.2.1 hkp.2.2 (below_le hB' hBw) (hT.same rfl) (by rw [ek, List.length_append] at hlk; rw [List.length_append, List.length_map]; omega)).mono ?_
        rintro e w' ⟨v1, rfl, hT', hB2⟩
        refine ⟨v1, rfl, ?_, hB'.trans hB2⟩
        rw [ek, List.map_append, ← List.append_assoc]
        exact hT'
      obtain ⟨bp, hbp⟩ : ∃ bp, bp = blk h p.2 := ⟨_, rfl⟩
      rw [← hbp] at q33 q21
      clear hT hB e1 hp x0 x1 ek hkp hbp hlk hL1
      go_wp2_with fail
      refine q32.mono ?_
      rintro e w6 ⟨rfl, rfl⟩
      go_wp2_with fail
      refine q33.mono ?_
      rintro e w7 ⟨rfl, q, rfl⟩
      go_wp2_with fail
      refine (q21 q).mono ?_
      rintro e w8 ⟨v1', rfl, H8⟩
      clear q21 q33 q32
      go_wp2_with fail
      go_roundw
      case rel => exact ⟨k + 1, by omega, by go_num, H8.out.2, H8.out.1⟩
      case measure => simp [intOf]; omega
    · obtain rfl : k = ks.length := by omega
      have HE : Hid (NR wr B u1 R ∧ Below B w5 wr) := ⟨by rw [HR.out]; exact hT, hB⟩
      clear hT hB e1
      go_wp2_with fail
      refine q32.mono ?_
      rintro e w6 ⟨rfl, rfl⟩
      go_wp2_with fail
      go_ret
      exact ⟨_, rfl, HE.out.1, HE.out.2⟩

theorem siz_any : ∀ h : Nat, SizOk h
  | 0 => siz_leaf
  | h + 1 => siz_node h (siz_any h)

end Go.Proofs.Qxb6616513a
