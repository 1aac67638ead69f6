import Derived.Test.Qxb6616336aFmtG
import Derived.RegionTactic
import Derived.Deep.QuietTactic
import Derived.BigQuiet
namespace Go.Proofs.Qxb6616336aFmt
open Go.RowKit Go.Maps

theorem makeMap60 (n : Int) (w : World) : (Instr.makeMap 60 (some (.int .i64 n))).run Tryf.prog w = .ok (.map (some w.heap.size)) (w.alloc (.map #[] 0)) := by
  simp [Instr.makeMap, run_underlying Tryf.underlying60, asInt, newObj, Result.andThen]
  rfl

/-- The index while it is filled: kt types are entered, k types are done, and q relations of the next. -/
structure Inv14 (w wr : World) (bt : Nat) (br : Nat → Nat) (nm : Nat → ByteArray) (rl : Nat → Nat) (rn : Nat → Nat → ByteArray) (kt k q : Nat) (F : ByteArray → Value) (G : ByteArray → ByteArray → Value) : Prop where
  bel : Below w.heap.size w wr
  size : w.heap.size + 1 + 1 < wr.heap.size
  box : wr.heap[w.heap.size + 1 + 1]? = some (.cells #[.map (some w.heap.size), .map (some (w.heap.size + 1))] 63 (0, 0))
  tm : TMap wr w.heap.size kt F
  rm : RMap wr (w.heap.size + 1) (k * 1048576 + q) G
  ti : TInv nm bt kt F
  ri : RInv nm rl rn br k q G

theorem Inv14.start (w : World) (bt : Nat) (br : Nat → Nat) (nm : Nat → ByteArray) (rl : Nat → Nat) (rn : Nat → Nat → ByteArray) :
    Inv14 w (((w.alloc (.map #[] 0)).alloc (.map #[] 0)).alloc (.cells #[.map (some w.heap.size), .map (some (w.heap.size + 1))] 63)) bt br nm rl rn 0 0 0 (fun _ => .pointer none) (fun _ _ => .pointer none) where
  bel := (((Below.refl _ w).alloc (Nat.le_refl _) _).alloc (by simp) _).alloc (by simp; omega) _
  size := by simp
  box := by
    have := heap_alloc_new ((w.alloc (.map #[] 0)).alloc (.map #[] 0)) (.cells #[.map (some w.heap.size), .map (some (w.heap.size + 1))] 63)
    simpa using this
  tm := by
    refine TMap.heap (w := w.alloc (.map #[] 0)) ⟨.map [], World.ownsMap_made w Tryf.prog 9 tokR, fun s hs => rfl⟩ ?_
    rw [Below.heap_alloc _ _ _ (by simp; omega), Below.heap_alloc _ _ _ (by simp)]
  rm := by
    refine RMap.heap (w := (w.alloc (.map #[] 0)).alloc (.map #[] 0)) ⟨.map [], ?_, fun s t hs ht => rfl⟩ ?_
    · have := World.ownsMap_made (w.alloc (.map #[] 0)) Tryf.prog 66 tokR
      simpa using this
    · rw [Below.heap_alloc _ _ _ (by simp)]
  ti := TInv.start nm bt
  ri := RInv.start nm rl rn br

theorem Inv14.heap {w wr wr' : World} {bt : Nat} {br : Nat → Nat} {nm : Nat → ByteArray} {rl : Nat → Nat} {rn : Nat → Nat → ByteArray} {kt k q : Nat} {F : ByteArray → Value} {G : ByteArray → ByteArray → Value}
    (I : Inv14 w wr bt br nm rl rn kt k q F G) (hb : Below wr.heap.size wr wr') : Inv14 w wr' bt br nm rl rn kt k q F G where
  bel := I.bel.trans (hb.mono I.bel.size)
  size := Nat.lt_of_lt_of_le I.size hb.size
  box := (hb.block _ I.size).trans I.box
  tm := I.tm.heap (hb.block _ I.tm.lt)
  rm := I.rm.heap (hb.block _ I.rm.lt)
  ti := I.ti
  ri := I.ri

theorem Inv14.cells {w wr : World} {bt : Nat} {br : Nat → Nat} {nm : Nat → ByteArray} {rl : Nat → Nat} {rn : Nat → Nat → ByteArray} {kt k q : Nat} {F : ByteArray → Value} {G : ByteArray → ByteArray → Value}
    (I : Inv14 w wr bt br nm rl rn kt k q F G) : wr.cell? ⟨w.heap.size + 1 + 1, 0, none⟩ = some (.map (some w.heap.size)) ∧ wr.cell? ⟨w.heap.size + 1 + 1, 1, none⟩ = some (.map (some (w.heap.size + 1))) := by
  constructor
  · simpa using cell_of_row wr _ 0 _ _ _ I.box
  · simpa using cell_of_row wr _ 1 _ _ _ I.box

theorem RMap.mono {w : World} {b n n' : Nat} {G : ByteArray → ByteArray → Value} (h : RMap w b n G) (hn : n ≤ n') : RMap w b n' G := by
  obtain ⟨D, hown, hD⟩ := h
  exact ⟨D, hown.mono hn, hD⟩
theorem TMap.mono {w : World} {b n n' : Nat} {F : ByteArray → Value} (h : TMap w b n F) (hn : n ≤ n') : TMap w b n' F := by
  obtain ⟨D, hown, hD⟩ := h
  exact ⟨D, hown.mono hn, hD⟩

theorem Inv14.putT {w W w2 : World} {bt : Nat} {br : Nat → Nat} {nm : Nat → ByteArray} {rl : Nat → Nat} {rn : Nat → Nat → ByteArray} {kt k q : Nat} {F F' : ByteArray → Value} {G : ByteArray → ByteArray → Value}
    (I : Inv14 w W bt br nm rl rn kt k q F G) (hgr : W.grownBy w2 (some w.heap.size)) (htm : TMap w2 w.heap.size (kt + 1) F') (hti : TInv nm bt (kt + 1) F') : Inv14 w w2 bt br nm rl rn (kt + 1) k q F' G where
  bel := I.bel.grown hgr I.bel.size (fun k h => by cases h; exact Nat.le_refl _)
  size := Nat.lt_of_lt_of_le I.size hgr.size
  box := (hgr.block _ I.size (by simp; omega)).trans I.box
  tm := htm
  rm := I.rm.heap (hgr.block _ I.rm.lt (by simp))
  ti := hti
  ri := I.ri

theorem Inv14.putR {w W w2 : World} {bt : Nat} {br : Nat → Nat} {nm : Nat → ByteArray} {rl : Nat → Nat} {rn : Nat → Nat → ByteArray} {kt k q : Nat} {F : ByteArray → Value} {G G' : ByteArray → ByteArray → Value}
    (I : Inv14 w W bt br nm rl rn kt k q F G) (hgr : W.grownBy w2 (some (w.heap.size + 1))) (hrm : RMap w2 (w.heap.size + 1) (k * 1048576 + q + 1) G') (hri : RInv nm rl rn br k (q + 1) G') : Inv14 w w2 bt br nm rl rn kt k (q + 1) F G' where
  bel := I.bel.grown hgr I.bel.size (fun k h => by cases h; omega)
  size := Nat.lt_of_lt_of_le I.size hgr.size
  box := (hgr.block _ I.size (by simp)).trans I.box
  tm := I.tm.heap (hgr.block _ I.tm.lt (by simp))
  rm := hrm.mono (by omega)
  ti := I.ti
  ri := hri

theorem Inv14.keepR {w W : World} {bt : Nat} {br : Nat → Nat} {nm : Nat → ByteArray} {rl : Nat → Nat} {rn : Nat → Nat → ByteArray} {kt k q : Nat} {F : ByteArray → Value} {G : ByteArray → ByteArray → Value}
    (I : Inv14 w W bt br nm rl rn kt k q F G) (hne : G (nm k) (rn k q) ≠ .pointer none) : Inv14 w W bt br nm rl rn kt k (q + 1) F G where
  bel := I.bel
  size := I.size
  box := I.box
  tm := I.tm
  rm := I.rm.mono (by omega)
  ti := I.ti
  ri := I.ri.keep hne

theorem Inv14.next {w W : World} {bt : Nat} {br : Nat → Nat} {nm : Nat → ByteArray} {rl : Nat → Nat} {rn : Nat → Nat → ByteArray} {kt k : Nat} {F : ByteArray → Value} {G : ByteArray → ByteArray → Value}
    (I : Inv14 w W bt br nm rl rn kt k (rl k) F G) (hr : rl k ≤ 1048576) : Inv14 w W bt br nm rl rn kt (k + 1) 0 F G where
  bel := I.bel
  size := I.size
  box := I.box
  tm := I.tm
  rm := I.rm.mono (by omega)
  ti := I.ti
  ri := I.ri.next

theorem Inv14.skip {w W : World} {bt : Nat} {br : Nat → Nat} {nm : Nat → ByteArray} {rl : Nat → Nat} {rn : Nat → Nat → ByteArray} {k : Nat} {F : ByteArray → Value} {G : ByteArray → ByteArray → Value}
    (I : Inv14 w W bt br nm rl rn k k 0 F G) (hs : ∃ i, i < k ∧ nm i = nm k) : Inv14 w W bt br nm rl rn (k + 1) (k + 1) 0 F G where
  bel := I.bel
  size := I.size
  box := I.box
  tm := I.tm.mono (by omega)
  rm := I.rm.mono (by omega)
  ti := I.ti.skip hs
  ri := I.ri.skip hs

/-- What 'NewIndex' leaves. -/
structure IndexAt (w : World) (bx bT bR : Nat) (F : ByteArray → Value) (G : ByteArray → ByteArray → Value) : Prop where
  c0 : w.cell? ⟨bx, 0, none⟩ = some (.map (some bT))
  c1 : w.cell? ⟨bx, 1, none⟩ = some (.map (some bR))
  xlt : bx < w.heap.size
  tm : ∃ n, TMap w bT n F
  rm : ∃ n, RMap w bR n G

def Post14 (nm : Nat → ByteArray) (rl : Nat → Nat) (rn : Nat → Nat → ByteArray) (br : Nat → Nat) (bt len : Nat) (w : World) (e : Ending) (w' : World) : Prop :=
  ∃ bx bT bR F G, e = .returned (.pointer (some ⟨bx, 0, none⟩)) ∧ Below w.heap.size w w' ∧ IndexAt w' bx bT bR F G ∧ TInv nm bt len F ∧ RInv nm rl rn br len 0 G

theorem Inv14.post {w W : World} {bt : Nat} {br : Nat → Nat} {nm : Nat → ByteArray} {rl : Nat → Nat} {rn : Nat → Nat → ByteArray} {k : Nat} {F : ByteArray → Value} {G : ByteArray → ByteArray → Value}
    (I : Inv14 w W bt br nm rl rn k k 0 F G) : Post14 nm rl rn br bt k w (.returned (.pointer (some ⟨w.heap.size + 1 + 1, 0, none⟩))) W :=
  ⟨_, _, _, F, G, rfl, I.bel, ⟨I.cells.1, I.cells.2, I.size, ⟨_, I.tm⟩, ⟨_, I.rm⟩⟩, I.ti, I.ri⟩

set_option maxRecDepth 100000 in
set_option maxHeartbeats 1000000 in
theorem newIndex_any (bm bt : Nat) (br : Nat → Nat) (len : Nat) (nm : Nat → ByteArray) (rl : Nat → Nat) (rn : Nat → Nat → ByteArray) (w : World)
    (hl : len ≤ 1048576) (hrl : ∀ i, i < len → rl i ≤ 1048576) (hns : ∀ i, i < len → (nm i).size ≤ maxLen) (hrs : ∀ i j, i < len → j < rl i → (rn i j).size ≤ maxLen) (M : ModelAt w bm bt br len nm rl rn) :
    Calls Tryf.prog 14 #[.pointer (some ⟨bm, 0, none⟩)] w (Post14 nm rl rn br bt len w) := by
  have m0 := M.top
  have hmm := @run_makeMap Tryf.prog
  have hm6 := makeMap60
  have hbm := M.bmlt
  have hbm1 : bm < w.heap.size + 1 := by omega
  have hbm2 : bm < w.heap.size + 1 + 1 := by omega
  go_enter Tryf.func14, Tryf.ntmps14
  go_wp2_with fail
  clear hmm hm6
  go_loopw [22] (fun i wr => ∃ (k : Nat) (F : ByteArray → Value) (G : ByteArray → ByteArray → Value), k ≤ len ∧ i = .int .i64 k ∧ Inv14 w wr bt br nm rl rn k k 0 F G) (fun i _ => len - (intOf i).toNat)
  case atStart => exact ⟨0, _, _, Nat.zero_le _, rfl, Inv14.start w bt br nm rl rn⟩
  case round =>
    obtain ⟨k, F, G, hk, rfl, I⟩ := hrel
    obtain ⟨c0, c1⟩ := I.cells
    have m0' := (M.below I.bel).top
    by_cases hlt : k < len
    · have m1 := (M.below I.bel).name k hlt
      have m2 := (M.below I.bel).rels k hlt
      have m3 := (M.below I.bel).rel k hlt
      have s1 := hns k hlt
      rcases I.ti (nm k) with ⟨hseen, o, hF⟩ | ⟨hnew, hF⟩
      · have look1 := fun n => (I.tm.heap (w' := wr.drewN n) rfl).look (nm k) (hns k hlt)
        rw [hF] at look1
        unfold Pt at look1
        clear hF
        go_wp2_with fail
        go_quiet (fail)
        go_wp2_with fail
        go_roundw
        case rel => exact ⟨k + 1, F, G, by omega, by go_num, (I.heap (below_drewN (Below.refl _ _) nq)).skip hseen⟩
        case measure => simp [intOf]; omega
      · have look1 := fun n => (I.tm.heap (w' := wr.drewN n) rfl).look (nm k) (hns k hlt)
        rw [hF] at look1
        go_wp2_with fail
        go_quiet (fail)
        clear look1
        go_wp2_with fail
        obtain ⟨F', hF1, hF2⟩ : ∃ F' : ByteArray → Value, F' (nm k) = .pointer (some ⟨bt, k * 2, none⟩) ∧ ∀ t, t ≠ nm k → F' t = F t := ⟨fun t => if t = nm k then .pointer (some ⟨bt, k * 2, none⟩) else F t, if_pos rfl, fun t ht => if_neg ht⟩
        obtain ⟨w2, hst, htm, hgr, hdr⟩ := (I.tm.heap (w' := (wr.drewN nq).drew) rfl).store (by unfold maxLen; omega) (nm k) s1 (.pointer (some ⟨bt, k * 2, none⟩)) F' hF1 hF2
        have hst' : (Instr.mapUpdate 60 (.map (some w.heap.size)) (.string (nm k)) (.pointer (some ⟨bt, k * 2, none⟩))).run Tryf.prog (wr.drewN (nq + 1)) = .ok () w2 := hst
        have HJ : Hid (Inv14 w w2 bt br nm rl rn (k + 1) k 0 F' G) := (I.heap (wr' := (wr.drewN nq).drew) (below_drewN (Below.refl _ _) (nq + 1))).putT hgr htm (I.ti.add (k * 2) F' hF1 hF2)
        clear hF1 hF2 htm hgr hdr hst
        go_region
        have J := HJ.out
        clear hst' I c0 c1 m0' m1 m2 m3 HJ
        obtain ⟨c0, c1⟩ := J.cells
        have m1 := (M.below J.bel).name k hlt
        have m2 := (M.below J.bel).rels k hlt
        go_wp2_with fail
        clear c0 c1 m1 m2
        go_loopw [55] (fun j wr => ∃ (q : Nat) (G : ByteArray → ByteArray → Value), q ≤ rl k ∧ j = .int .i64 q ∧ Inv14 w wr bt br nm rl rn (k + 1) k q F' G) (fun j _ => rl k - (intOf j).toNat)
        case atStart => exact ⟨0, G, Nat.zero_le _, rfl, J⟩
        case round =>
          clear J
          obtain ⟨q, G, hq, rfl, J⟩ := hrel
          obtain ⟨c0, c1⟩ := J.cells
          have m1 := (M.below J.bel).name k hlt
          have m2 := (M.below J.bel).rels k hlt
          have g2 := hrl k hlt
          by_cases hqk : q < rl k
          · have m3 := (M.below J.bel).rel k hlt q hqk
            have s2 := hrs k q hlt hqk
            have hbt := (M.below J.bel).btlt
            have hbr := (M.below J.bel).brlt k hlt
            have hx := J.size
            go_wp2_with fail
            go_region
            obtain ⟨W1, hW1⟩ : ∃ W1, W1 = (wr.alloc (Obj.cells #[Value.string (nm k), Value.string (rn k q)] 66)).drew := ⟨_, rfl⟩
            rw [← hW1]
            have hbel : Below wr.heap.size wr W1 := by rw [hW1]; exact ((Below.refl _ _).alloc (Nat.le_refl _) _).drew
            have JW := J.heap hbel
            have k0 : W1.cell? ⟨wr.heap.size, 0, none⟩ = some (.string (nm k)) := by rw [hW1]; simp
            have k1 : W1.cell? ⟨wr.heap.size, 1, none⟩ = some (.string (rn k q)) := by rw [hW1]; simp
            clear hW1 c0 c1 m1 m2 m3 hbt hbr hx J hbel
            obtain ⟨c0, c1⟩ := JW.cells
            have m1 := (M.below JW.bel).name k hlt
            have m2 := (M.below JW.bel).rels k hlt
            have look2 := fun n => (JW.rm.heap (w' := W1.drewN n) rfl).look (nm k) (rn k q) s1 s2
            rcases JW.ri (nm k) (rn k q) with ⟨i', j', _, _, hG⟩ | ⟨hnohit, hG⟩
            · rw [hG] at look2
              have hGn : Hid (G (nm k) (rn k q) ≠ .pointer none) := by intro h; rw [hG] at h; cases h
              unfold Pt at look2
              clear hG
              go_wp2_with fail
              go_quiet (fail)
              go_wp2_with fail
              go_roundw
              case rel => exact ⟨q + 1, G, by omega, by go_num, (JW.heap (below_drewN (Below.refl _ _) _)).keepR hGn.out⟩
              case measure => simp [intOf]; omega
            · rw [hG] at look2
              have HG : Hid (G (nm k) (rn k q) = .pointer none) := hG
              clear hG hnohit
              go_wp2_with fail
              go_quiet (fail)
              clear look2
              go_wp2_with fail
              obtain ⟨G', hG1, hG2⟩ : ∃ G' : ByteArray → ByteArray → Value, G' (nm k) (rn k q) = .pointer (some ⟨br k, q * 3, none⟩) ∧ ∀ x y, (x, y) ≠ (nm k, rn k q) → G' x y = G x y := ⟨fun x y => if (x, y) = (nm k, rn k q) then .pointer (some ⟨br k, q * 3, none⟩) else G x y, if_pos rfl, fun x y h => if_neg h⟩
              obtain ⟨w3, hst, hrm, hgr, hdr⟩ := (JW.rm.heap (w' := (W1.drewN nq).drew) rfl).store (by unfold maxLen; omega) (nm k) (rn k q) s1 s2 (.pointer (some ⟨br k, q * 3, none⟩)) G' hG1 hG2
              have hst' : (Instr.mapUpdate 61 (.map (some (w.heap.size + 1))) (.agg #[.string (nm k), .string (rn k q)]) (.pointer (some ⟨br k, q * 3, none⟩))).run Tryf.prog (W1.drewN (nq + 1)) = .ok () w3 := hst
              have HJ : Hid (Inv14 w w3 bt br nm rl rn (k + 1) k (q + 1) F' G') := (JW.heap (wr' := (W1.drewN nq).drew) (below_drewN (Below.refl _ _) (nq + 1))).putR hgr hrm (JW.ri.add hqk hnew HG.out G' hG1 hG2)
              clear hG1 hG2 hrm hgr hdr hst
              go_region
              go_wp2_with fail
              go_roundw
              case rel => exact ⟨q + 1, G', by omega, by go_num, HJ.out⟩
              case measure => simp [intOf]; omega
          · obtain rfl : q = rl k := by omega
            go_wp2_with fail
            go_roundw
            case rel => exact ⟨k + 1, F', G, by omega, by go_num, J.next g2⟩
            case measure => simp [intOf]; omega
    · obtain rfl : k = len := by omega
      go_wp2_with fail
      go_ret
      exact I.post
end Go.Proofs.Qxb6616336aFmt
