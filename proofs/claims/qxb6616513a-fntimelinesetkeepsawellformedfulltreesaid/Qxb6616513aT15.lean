import Derived.Test.Qxb6616513aT14
namespace Go.Proofs.Qxb6616513a
open Go.RowKit

theorem Try.inf2 : (Try.prog.info? 2).map (fun i => (i.zero, i.size, i.bytes)) = some (some (.int .i64 0), 1, 8) := by kernel_rfl
theorem Try.inf32 : (Try.prog.info? 32).map (fun i => (i.zero, i.size, i.bytes)) = some (some (.float .f64 0), 1, 8) := by kernel_rfl

theorem rows_apart {w : World} {base : Nat} {t v : Value} {n m : Nat} {xs ys : List Value} {e1 e2 : TypeId} (he : e1 ≠ e2) (h1 : w.ownsRow base e1 1 t n xs) (h2 : w.ownsRow base e2 1 v m ys) : t.ownBlock = none ∨ t.ownBlock ≠ v.ownBlock := by
  rcases h1.2 with ⟨rfl, _⟩ | ⟨g, cap, cur, rfl, _, hg, _⟩
  · exact Or.inl rfl
  · right
    rcases h2.2 with ⟨rfl, _⟩ | ⟨g', cap', cur', rfl, _, hg', _⟩
    · intro h; cases h
    · intro h
      have e : g = g' := Option.some.inj h
      subst e
      rw [hg] at hg'
      simp at hg'
      exact he hg'.2

theorem keepA {wr w4 : World} {o : Obj} {B : Nat} {t v : Value} {n m : Nat} {xs ys : List Value} (hr2 : wr.ownsRow B 32 1 v m ys) (hr1 : wr.ownsRow B 2 1 t n xs) (grow : (wr.alloc o).grownBy w4 t.ownBlock) : w4.ownsRow B 32 1 v m ys :=
  (hr2.alloc o).kept grow (rows_apart (by decide) (hr2.alloc o) (hr1.alloc o))
theorem keepB {wr w4 : World} {o : Obj} {B : Nat} {t v : Value} {n m : Nat} {xs ys : List Value} (hr1 : wr.ownsRow B 2 1 t n xs) (hr2 : wr.ownsRow B 32 1 v m ys) (grow : (wr.alloc o).grownBy w4 v.ownBlock) : w4.ownsRow B 2 1 t n xs :=
  (hr1.alloc o).kept grow (rows_apart (by decide) (hr1.alloc o) (hr2.alloc o))
theorem keepS {wr w4 : World} {o o' : Obj} {B : Nat} {row : Option Nat} (h : B ≤ wr.heap.size) (grow : (wr.alloc o).grownBy w4 row) : B ≤ (w4.alloc o').heap.size := by
  have h4 := grow.size
  simp at h4 ⊢
  omega
theorem owned_ge {w : World} {base : Nat} {v : Value} {m : Nat} {ys : List Value} {e : TypeId} (h : w.ownsRow base e 1 v m ys) : ∀ k, v.ownBlock = some k → base ≤ k := by
  rcases h.2 with ⟨rfl, _⟩ | ⟨g, cap, cur, rfl, hb, _⟩
  · intro k h; cases h
  · intro k h; cases h; exact hb

/-- Two rows, of the times and of the values. -/
def Two (w : World) (B : Nat) (v1 v2 : Value) (ps : List (Int × Nat)) : Prop :=
  w.ownsRow B 2 1 v1 ps.length (ps.map fun p => .int .i64 p.1) ∧ w.ownsRow B 32 1 v2 ps.length (ps.map fun p => .float .f64 p.2)

theorem Two.same {w w' : World} {B : Nat} {v1 v2 : Value} {ps : List (Int × Nat)} (h : Two w B v1 v2 ps) (s : w'.heap = w.heap) : Two w' B v1 v2 ps :=
  ⟨ownsRow_same h.1 fun b _ => by rw [s], ownsRow_same h.2 fun b _ => by rw [s]⟩

def ColPost (B : Nat) (ps : List (Int × Nat)) (w : World) (e : Ending) (w' : World) : Prop :=
  ∃ v1 v2, e = .returned (.tuple #[v1, v2]) ∧ Two w' B v1 v2 ps ∧ Below B w w'

def ColOk (h : Nat) : Prop := ∀ (t : HT h) (w : World) (B : Nat) (v1 v2 : Value) (ps0 : List (Int × Nat)), At w h t → Ok h (er h t) → (∀ z ∈ foot h t, z < B) → B ≤ w.heap.size → Two w B v1 v2 ps0 → ps0.length + (flat h (er h t)).length ≤ 65536 →
  Calls Try.prog 14 #[.pointer (some ⟨blk h t, 0, none⟩), v1, v2] w (ColPost B (ps0 ++ flat h (er h t)) w)

theorem below_le {B : Nat} {a w : World} (h : Below B a w) (hB : B ≤ a.heap.size) : B ≤ w.heap.size := Nat.le_trans hB h.size

set_option maxHeartbeats 2000000 in
set_option maxRecDepth 100000 in
theorem col_leaf : ColOk 0 := by
  rintro ⟨b, v, ps⟩ w B v1 v2 ps0 ha hok hlt hBw h2 hl
  obtain ⟨i2, hi2, hz20, hz21, hz22⟩ := info_parts Try.inf2
  obtain ⟨i3, hi3, hz30, hz31, hz32⟩ := info_parts Try.inf32
  obtain ⟨c0, c1, -, hv⟩ := leaf_cells ha
  have hbB : b < B := hlt b (by simp [foot])
  change ps0.length + ps.length ≤ 65536 at hl
  show Calls Try.prog 14 #[.pointer (some ⟨b, 0, none⟩), v1, v2] w (ColPost B (ps0 ++ ps) w)
  obtain ⟨a, c, rfl⟩ : ∃ a c, v = .slice a ps.length c := by
    rcases hv with ⟨rfl, rfl⟩ | ⟨g, cap, rfl, _⟩
    · exact ⟨none, 0, rfl⟩
    · exact ⟨_, _, rfl⟩
  have HV : Hid (ps = [] ∨ ∃ g, a = some ⟨g, 0, none⟩ ∧ g < B ∧ ∀ j p, ps[j]? = some p → w.cell? ⟨g, j * 2, none⟩ = some (.int .i64 p.1) ∧ w.cell? ⟨g, j * 2 + 1, none⟩ = some (.float .f64 p.2)) := by
    rcases hv with ⟨_, h0⟩ | ⟨g, cap, h', _, _, hc⟩
    · exact Or.inl h0
    · simp only [Value.slice.injEq, true_and] at h'
      exact Or.inr ⟨g, h'.1, hlt g (by simp [foot, Value.ownBlock, h'.1]), hc⟩
  have H2 : Hid (Two w B v1 v2 ps0) := h2
  clear hv ha hok hlt h2
  go_enter Try.func14, Try.ntmps14
  go_wp2_with fail
  go_loopw [1, 2, 8] (fun t v i wr => ∃ (k : Nat), k ≤ ps.length ∧ i = .int .i64 k ∧ Below B w wr ∧ Two wr B t v (ps0 ++ ps.take k)) (fun _ _ i _ => ps.length - (intOf i).toNat)
  case atStart => exact ⟨0, Nat.zero_le _, rfl, Below.refl _ _, by simpa using H2.out⟩
  case round =>
    obtain ⟨k, hk, rfl, hB, hT⟩ := hrel
    have e0 := (hB.cell (p := ⟨b, 0, none⟩) hbB).trans c0
    have e1 := (hB.cell (p := ⟨b, 1, none⟩) hbB).trans c1
    have q30 := zzpc_any b a ps.length c wr e0
    have q32 := zzkc_any b none 0 0 wr e1
    by_cases hkl : k < ps.length
    · obtain ⟨p, hp⟩ : ∃ p, ps[k]? = some p := ⟨_, List.getElem?_eq_getElem hkl⟩
      obtain ⟨g, ha, hgB, hc⟩ : ∃ g, a = some ⟨g, 0, none⟩ ∧ g < B ∧ ∀ j p, ps[j]? = some p → w.cell? ⟨g, j * 2, none⟩ = some (.int .i64 p.1) ∧ w.cell? ⟨g, j * 2 + 1, none⟩ = some (.float .f64 p.2) := by
        rcases HV.out with h0 | h0
        · rw [h0] at hkl; simp at hkl
        · exact h0
      obtain ⟨x0, x1⟩ := hc k p hp
      have q31 := zzpoint_any b g ps.length c k p.1 p.2 wr (by rw [e0, ha]) hkl ((hB.cell (p := ⟨g, k * 2, none⟩) hgB).trans x0) ((hB.cell (p := ⟨g, k * 2 + 1, none⟩) hgB).trans x1)
      have ek : ps.take (k + 1) = ps.take k ++ [p] := by rw [List.take_add_one, hp]; rfl
      have HE : Hid (Two wr B u1 u2 (ps0 ++ ps.take k) ∧ Below B w wr ∧ ps.take (k + 1) = ps.take k ++ [p]) := ⟨hT, hB, ek⟩
      have hLk : (ps0 ++ ps.take k).length ≤ 65535 := by simp; omega
      have hle1 : B ≤ wr.heap.size := below_le hB hBw
      clear hT hB e0 e1 hp ha hc x0 x1 ek q32
      go_wp2_with fail
      refine q30.mono ?_
      rintro e w5 ⟨rfl, rfl⟩
      go_wp2_with fail
      refine q31.mono ?_
      rintro e w6 ⟨rfl, q, hw6⟩
      have H6 : Hid (Two w6 B u1 u2 (ps0 ++ ps.take k) ∧ Below B w w6 ∧ ps.take (k + 1) = ps.take k ++ [p]) := by
        rw [hw6]
        exact ⟨HE.out.1.same rfl, HE.out.2.1.trans ⟨rfl, rfl, rfl, Nat.le_refl _, fun _ _ => rfl⟩, HE.out.2.2⟩
      have hle6 : B ≤ w6.heap.size := by rw [hw6]; exact hle1
      clear HE hw6 q31 q30 hle1
      have hr1 := H6.out.1.1
      have hr2 := H6.out.1.2
      obtain ⟨L, hL⟩ : ∃ L, L = (ps0 ++ ps.take k).length := ⟨_, rfl⟩
      rw [← hL] at hr1 hr2 hLk
      go_wp2_with (first
        | (at_builtin; refine wpList_append_own _ rfl (.tmp 26) (.tmp 28) 26 rfl B 2 i2 (.int .i64 0) 1 8 Try.underlying26 hi2 hz20 hz21 hz22 rfl (by decide) _ _ _ rfl (hr1.alloc _) ⟨w6.heap.size, 0, none⟩ 1 1 [.int .i64 p.1] rfl rfl (by intro t u ht; match t, ht with | 0, ht => simp at ht; subst ht; simp [Addr.add]) (by intro u hu; simp at hu; subst hu; rfl) (by unfold maxLen; omega) (by omega) (by simp; omega) ?_; intro t' w7 own7 grow7 _)
        | (at_builtin; refine wpList_append_own _ rfl (.tmp 30) (.tmp 32) 27 rfl B 32 i3 (.float .f64 0) 1 8 Try.underlying27 hi3 hz30 hz31 hz32 rfl (by decide) _ _ _ rfl ((keepA hr2 hr1 grow7).alloc _) ⟨w7.heap.size, 0, none⟩ 1 1 [.float .f64 p.2] rfl rfl (by intro t u ht; match t, ht with | 0, ht => simp at ht; subst ht; simp [Addr.add]) (by intro u hu; simp at hu; subst hu; rfl) (by unfold maxLen; omega) (by omega) (keepS hle6 grow7) ?_; intro v' w8 own8 grow8 _))
      go_roundw
      case rel =>
        have keep2 := keepA hr2 hr1 grow7
        have hle7 : B ≤ w7.heap.size := by have h4 := grow7.size; simp at h4; omega
        have own7' := keepB own7 keep2 grow8
        have b7 : Below B w w7 := (H6.out.2.1.alloc hle6 _).grown grow7 (by simp; omega) (owned_ge hr1)
        have b8 : Below B w w8 := (b7.alloc hle7 _).grown grow8 (by simp; omega) (owned_ge keep2)
        refine ⟨k + 1, by omega, by go_num, b8, ?_, ?_⟩
        · rw [H6.out.2.2, ← List.append_assoc, List.length_append, ← hL, List.map_append]; exact own7'
        · rw [H6.out.2.2, ← List.append_assoc, List.length_append, ← hL, List.map_append]; exact own8
      case measure => simp [intOf]; omega
    · obtain rfl : k = ps.length := by omega
      rw [List.take_length] at hT
      have HE : Hid (Two wr B u1 u2 (ps0 ++ ps) ∧ Below B w wr) := ⟨hT, hB⟩
      clear hT hB e0 e1
      go_wp2_with fail
      refine q30.mono ?_
      rintro e w5 ⟨rfl, rfl⟩
      go_wp2_with fail
      refine wp_loop_rounds 1 ?_
      rw [rounds_succ]
      go_wp2_with fail
      refine q32.mono ?_
      rintro e w6 ⟨rfl, rfl⟩
      go_wp2_with fail
      go_ret2
      exact ⟨_, _, rfl, HE.out.1, HE.out.2⟩

/-- The points under the first k kids. -/
def flatK (h : Nat) (ks : List (Int × HT h)) (k : Nat) : List (Int × Nat) := (ks.take k).flatMap fun q => flat h (er h q.2)
theorem flatK_succ {h : Nat} {ks : List (Int × HT h)} {k : Nat} {q : Int × HT h} (hq : ks[k]? = some q) : flatK h ks (k + 1) = flatK h ks k ++ flat h (er h q.2) := by
  unfold flatK
  rw [List.take_add_one, hq]
  simp

set_option maxHeartbeats 2000000 in
set_option maxRecDepth 100000 in
theorem col_node (h : Nat) (ih : ColOk h) : ColOk (h + 1) := by
  rintro ⟨b, v, ks⟩ w B v1 v2 ps0 ha hok hlt hBw h2 hl
  rw [flat_er] at hl
  obtain ⟨c0, c1, -, hkk, hv⟩ := node_cells ha
  have hbB : b < B := hlt b (by simp [foot])
  have hlen : ks.length ≤ 64 := by
    have : (ks.map fun k => (k.1, er h k.2)).length ≤ 64 := hok.2.2.1
    simpa using this
  show Calls Try.prog 14 #[.pointer (some ⟨b, 0, none⟩), v1, v2] w (ColPost B (ps0 ++ flat (h + 1) (er (h + 1) (b, v, ks))) w)
  rw [flat_er]
  obtain ⟨a, c, rfl⟩ : ∃ a c, v = .slice a ks.length c := by
    rcases hv with ⟨rfl, rfl⟩ | ⟨g, cap, rfl, _⟩
    · exact ⟨none, 0, rfl⟩
    · exact ⟨_, _, rfl⟩
  have HV : Hid (ks = [] ∨ ∃ g, a = some ⟨g, 0, none⟩ ∧ g < B ∧ ∀ j p, ks[j]? = some p → w.cell? ⟨g, j * 2, none⟩ = some (.int .i64 p.1) ∧ w.cell? ⟨g, j * 2 + 1, none⟩ = some (.pointer (some ⟨blk h p.2, 0, none⟩))) := by
    rcases hv with ⟨_, h0⟩ | ⟨g, cap, h', _, _, hc⟩
    · exact Or.inl h0
    · simp only [Value.slice.injEq, true_and] at h'
      exact Or.inr ⟨g, h'.1, hlt g (by simp [foot, Value.ownBlock, h'.1]), hc⟩
  have HK : Hid (∀ k ∈ ks, At w h k.2 ∧ Ok h (er h k.2) ∧ ∀ z ∈ foot h k.2, z < B) := fun k hk => ⟨hkk k hk, (hok.2.2.2 (k.1, er h k.2) (List.mem_map.2 ⟨k, hk, rfl⟩)).1, fun z hz => hlt z (by
    rw [foot_succ]
    exact List.mem_cons_of_mem _ (List.mem_append_right _ (mem_kidsFoot.2 ⟨k, hk, hz⟩)))⟩
  have H2 : Hid (Two w B v1 v2 ps0) := h2
  have HL : Hid (ps0.length + (flatK h ks ks.length).length ≤ 65536 ∧ (ks.flatMap fun q => flat h (er h q.2)) = flatK h ks ks.length) := by
    unfold flatK
    rw [List.take_length]
    exact ⟨hl, rfl⟩
  have HLk : Hid (∀ k, (flatK h ks k).length ≤ (flatK h ks ks.length).length) := fun k => by
    have := flatN_le (h := h) (ks := ks) k
    unfold flatK
    rw [List.take_length]
    exact this
  obtain ⟨R, hR⟩ : ∃ R, R = ps0 ++ ks.flatMap fun q => flat h (er h q.2) := ⟨_, rfl⟩
  rw [← hR]
  have HR : Hid (R = ps0 ++ flatK h ks ks.length) := by rw [← HL.out.2]; exact hR
  clear hv ha hok hlt h2 hkk hl hR
  have q30 := zzpc_any b none 0 0 w c0
  go_enter Try.func14, Try.ntmps14
  go_wp2_with fail
  refine wp_loop_rounds 1 ?_
  rw [rounds_succ]
  go_wp2_with fail
  refine q30.mono ?_
  rintro e w5 ⟨rfl, rfl⟩
  clear q30
  go_wp2_with fail
  go_loopw [1, 2, 11] (fun t v i wr => ∃ (k : Nat), k ≤ ks.length ∧ i = .int .i64 k ∧ Below B w5 wr ∧ Two wr B t v (ps0 ++ flatK h ks k)) (fun _ _ i _ => ks.length - (intOf i).toNat)
  case atStart => exact ⟨0, Nat.zero_le _, rfl, Below.refl _ _, by simpa [flatK] using H2.out⟩
  case round =>
    obtain ⟨k, hk, rfl, hB, hT⟩ := hrel
    have e1 := (hB.cell (p := ⟨b, 1, none⟩) hbB).trans c1
    have q32 := zzkc_any b a ks.length c wr e1
    by_cases hkl : k < ks.length
    · obtain ⟨p, hp⟩ : ∃ p, ks[k]? = some p := ⟨_, List.getElem?_eq_getElem hkl⟩
      obtain ⟨g, ha, hgB, hc⟩ : ∃ g, a = some ⟨g, 0, none⟩ ∧ g < B ∧ ∀ j p, ks[j]? = some p → w5.cell? ⟨g, j * 2, none⟩ = some (.int .i64 p.1) ∧ w5.cell? ⟨g, j * 2 + 1, none⟩ = some (.pointer (some ⟨blk h p.2, 0, none⟩)) := by
        rcases HV.out with h0 | h0
        · rw [h0] at hkl; simp at hkl
        · exact h0
      obtain ⟨x0, x1⟩ := hc k p hp
      have q33 := zzkid_any b g ks.length c k p.1 (blk h p.2) wr (by rw [e1, ha]) hkl ((hB.cell (p := ⟨g, k * 2, none⟩) hgB).trans x0) ((hB.cell (p := ⟨g, k * 2 + 1, none⟩) hgB).trans x1)
      have hkp := HK.out p (List.mem_of_getElem? hp)
      have ek := flatK_succ hp
      have hlk := HLk.out (k + 1)
      have hL1 := HL.out.1
      have q14 : ∀ q, Calls Try.prog 14 #[.pointer (some ⟨blk h p.2, 0, none⟩), u1, u2] (wr.drewN q) fun e w' => ∃ v1 v2, e = .returned (.tuple #[v1, v2]) ∧ Hid (Two w' B v1 v2 (ps0 ++ flatK h ks (k + 1)) ∧ Below B w5 w') := by
        intro q
        have hB' : Below B w5 (wr.drewN q) := hB.trans ⟨rfl, rfl, rfl, Nat.le_refl _, fun _ _ => rfl⟩
        have hat : At (wr.drewN q) h p.2 := At.same h p.2 hkp.1 fun z hz => hB'.block z (hkp.2.2 z hz)
        refine (ih p.2 (wr.drewN q) B u1 u2 (ps0 ++ flatK h ks k) hat hkp.2.1 hkp.2.2 (below_le hB' hBw) (hT.same rfl) (by rw [ek, List.length_append] at hlk; rw [List.length_append]; omega)).mono ?_
        rintro e w' ⟨v1, v2, rfl, hT', hB2⟩
        rw [ek, ← List.append_assoc]
        exact ⟨v1, v2, rfl, hT', hB'.trans hB2⟩
      obtain ⟨bp, hbp⟩ : ∃ bp, bp = blk h p.2 := ⟨_, rfl⟩
      rw [← hbp] at q33 q14
      clear hT hB e1 hp ha hc x0 x1 ek hkp hbp hlk hL1
      go_wp2_with fail
      refine q32.mono ?_
      rintro e w6 ⟨rfl, rfl⟩
      go_wp2_with fail
      refine q33.mono ?_
      rintro e w7 ⟨rfl, q, rfl⟩
      go_wp2_with fail
      refine (q14 q).mono ?_
      rintro e w8 ⟨v1', v2', rfl, H8⟩
      clear q14 q33 q32
      go_wp2_with fail
      go_roundw
      case rel => exact ⟨k + 1, by omega, by go_num, H8.out.2, H8.out.1⟩
      case measure => simp [intOf]; omega
    · obtain rfl : k = ks.length := by omega
      have HE : Hid (Two wr B u1 u2 R ∧ Below B w5 wr) := ⟨by rw [HR.out]; exact hT, hB⟩
      clear hT hB e1
      go_wp2_with fail
      refine q32.mono ?_
      rintro e w6 ⟨rfl, rfl⟩
      go_wp2_with fail
      go_ret2
      exact ⟨_, _, rfl, HE.out.1, HE.out.2⟩

theorem col_any : ∀ h : Nat, ColOk h
  | 0 => col_leaf
  | h + 1 => col_node h (col_any h)

end Go.Proofs.Qxb6616513a
