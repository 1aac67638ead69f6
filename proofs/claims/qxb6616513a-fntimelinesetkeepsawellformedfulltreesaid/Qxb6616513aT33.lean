import Derived.Test.Qxb6616513aT32
namespace Go.Proofs.Qxb6616513a
open Go.RowKit

/-- What wellFormed asks of a node: of the root, of another. -/
def Asked (h : Nat) (t : T h) (r : Bool) : Prop := (r = true → two h t) ∧ (r = false → flat h t ≠ [])

def WelOk (h : Nat) : Prop := ∀ (t : HT h) (r : Bool) (w : World), At w h t → WF h (er h t) → Asc (times (flat h (er h t))) → Asked h (er h t) r → h ≤ 1000000 →
  Calls Try.prog 20 #[.pointer (some ⟨blk h t, 0, none⟩), .bool r] w fun e w' => e = .returned (.tuple #[.int .i64 (h : Nat), .bool true]) ∧ Below w.heap.size w w'

set_option maxHeartbeats 2000000 in
set_option maxRecDepth 100000 in
theorem wel_leaf : WelOk 0 := by
  rintro ⟨b, v, ps⟩ r w ha hw hs hr _
  obtain ⟨c0, c1, -, hv⟩ := leaf_cells ha
  have hl : ps.length ≤ 128 := hw
  have hs' : ps.Pairwise (fun a b => a.1 < b.1) := (asc_iff ps).1 hs
  have hr' : r = false → ps ≠ [] := hr.2
  have hbl : b < w.heap.size := At.lt 0 _ ha b (by simp [foot])
  show Calls Try.prog 20 #[.pointer (some ⟨b, 0, none⟩), .bool r] w fun e w' => e = .returned (.tuple #[.int .i64 0, .bool true]) ∧ Below w.heap.size w w'
  obtain ⟨a, c, rfl⟩ : ∃ a c, v = .slice a ps.length c := by
    rcases hv with ⟨rfl, rfl⟩ | ⟨g, cap, rfl, _⟩
    · exact ⟨none, 0, rfl⟩
    · exact ⟨_, _, rfl⟩
  have HV : Hid (ps = [] ∨ ∃ g, a = some ⟨g, 0, none⟩ ∧ g < w.heap.size ∧ ∀ j p, ps[j]? = some p → w.cell? ⟨g, j * 2, none⟩ = some (.int .i64 p.1) ∧ w.cell? ⟨g, j * 2 + 1, none⟩ = some (.float .f64 p.2)) := by
    rcases hv with ⟨_, h0⟩ | ⟨g, cap, h', _, hg, hc⟩
    · exact Or.inl h0
    · simp only [Value.slice.injEq, true_and] at h'
      exact Or.inr ⟨g, h'.1, hg, hc⟩
  have q30 := zzpc_any b a ps.length c w c0
  have q32 := zzkc_any b none 0 0 w c1
  have HP : Hid (ps.Pairwise (fun a b => a.1 < b.1)) := hs'
  have hcond : r = true ∨ ((((ps.length : Nat) : Int) == 0) = false) := by
    cases r with
    | true => exact Or.inl rfl
    | false =>
      right
      have := List.length_pos_iff.2 (hr' rfl)
      exact beq_eq_false_iff_ne.2 (by omega)
  clear hv ha hw hs hs' hr hr' c1
  go_enter Try.func20, Try.ntmps20
  go_wp2_with fail
  refine q30.mono ?_
  rintro e w2 ⟨rfl, rfl⟩
  go_wp2_with fail
  refine q32.mono ?_
  rintro e w3 ⟨rfl, rfl⟩
  clear q30 q32
  go_upto_region 4 with fail
  go_cut [36] from 27 to 36 (fun s wc => s = .bool false ∧ wc = w3)
  case first =>
    rcases hcond with rfl | hcond
    · by_cases h0 : ps.length = 0
      · have h0' : (((ps.length : Nat) : Int) == 0) = true := beq_iff_eq.2 (by omega)
        go_wp2_with fail
        go_meet
        case rel => exact ⟨by simp; try omega, rfl⟩
      · have h0' : (((ps.length : Nat) : Int) == 0) = false := beq_eq_false_iff_ne.2 (by omega)
        go_wp2_with fail
        go_meet
        case rel => exact ⟨by simp; try omega, rfl⟩
    · go_wp2_with fail
      go_meet
      case rel => exact ⟨by simp; try omega, rfl⟩
  case rest =>
    obtain ⟨rfl, rfl⟩ := hcut
    clear hcond
    go_wp2_with fail
    go_loopw [8] (fun i wr => ∃ (k : Nat), 1 ≤ k ∧ (k ≤ ps.length ∨ k = 1) ∧ i = .int .i64 k ∧ Below wc.heap.size wc wr) (fun i _ => ps.length - (intOf i).toNat)
    case atStart => exact ⟨1, Nat.le_refl _, Or.inr rfl, rfl, Below.refl _ _⟩
    case round =>
      obtain ⟨k, hk1, hk2, rfl, hB⟩ := hrel
      by_cases hkn : k < ps.length
      · obtain ⟨g, hag, hgl, hc⟩ : ∃ g, a = some ⟨g, 0, none⟩ ∧ g < wc.heap.size ∧ ∀ j p, ps[j]? = some p → wc.cell? ⟨g, j * 2, none⟩ = some (.int .i64 p.1) ∧ wc.cell? ⟨g, j * 2 + 1, none⟩ = some (.float .f64 p.2) := by
          rcases HV.out with h0 | h0
          · rw [h0] at hkn; simp at hkn
          · exact h0
        subst hag
        obtain ⟨m, hm⟩ : ∃ m, k = m + 1 := ⟨k - 1, by omega⟩
        obtain ⟨p, hp⟩ : ∃ p, ps[m]? = some p := ⟨_, List.getElem?_eq_getElem (by omega)⟩
        obtain ⟨p', hp'⟩ : ∃ p', ps[k]? = some p' := ⟨_, List.getElem?_eq_getElem hkn⟩
        have hlt : p.1 < p'.1 := by
          obtain ⟨l1, e1⟩ := List.getElem?_eq_some_iff.1 hp
          obtain ⟨l2, e2⟩ := List.getElem?_eq_some_iff.1 hp'
          have := List.pairwise_iff_getElem.1 HP.out m k l1 l2 (by omega)
          rw [e1, e2] at this
          exact this
        have hcc : ∀ q, ((wr.drewN q).cell? ⟨b, 0, none⟩ = some (.slice (some ⟨g, 0, none⟩) ps.length c)) := fun q => (hB.cell (p := ⟨b, 0, none⟩) hbl).trans c0
        have q31a := zzpoint_any b g ps.length c m p.1 p.2 wr (hcc 0) (by omega) ((hB.cell (p := ⟨g, m * 2, none⟩) hgl).trans (hc m p hp).1) ((hB.cell (p := ⟨g, m * 2 + 1, none⟩) hgl).trans (hc m p hp).2)
        have q31b := fun q => zzpoint_any b g ps.length c k p'.1 p'.2 (wr.drewN q) (hcc q) hkn ((hB.cell (p := ⟨g, k * 2, none⟩) hgl).trans (hc k p' hp').1) ((hB.cell (p := ⟨g, k * 2 + 1, none⟩) hgl).trans (hc k p' hp').2)
        have hkm : (k : Int) - 1 = (m : Int) := by omega
        have hnn : ¬ p'.1 ≤ p.1 := by omega
        have HE : Hid (Below wc.heap.size wc wr) := hB
        clear hB hc hp hp' hm hcc c0
        go_wp2_with fail
        refine q31a.mono ?_
        rintro e w5 ⟨rfl, q, rfl⟩
        go_wp2_with fail
        refine (q31b q).mono ?_
        rintro e w6 ⟨rfl, q', rfl⟩
        clear q31a q31b
        go_wp2_with fail
        go_roundw
        case rel => exact ⟨k + 1, by omega, Or.inl (by omega), by go_num, HE.out.trans ⟨rfl, rfl, rfl, Nat.le_refl _, fun _ _ => rfl⟩⟩
        case measure => simp [intOf]; omega
      · have HE : Hid (Below wc.heap.size wc wr) := hB
        clear hB
        go_wp2_with fail
        go_ret2
        exact ⟨rfl, HE.out⟩

end Go.Proofs.Qxb6616513a
