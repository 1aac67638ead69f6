import Derived.Test.Qxb6616336aFmtI
import Derived.Test.Qxb6616336aFmtB
namespace Go.Proofs.Qxb6616336aFmt
open Go.RowKit Go.Maps Go.Extern.Stop Go.Stop Go.Extern

def Post3 (w : World) (e : Ending) (w' : World) : Prop := e = .returned (.bool true) ∧ Below w.heap.size w w'

theorem ptrOf {nm : Nat → ByteArray} {bt len : Nat} {F : ByteArray → Value} (h : TInv nm bt len F) (s : ByteArray) : ∃ p, F s = .pointer p := by
  rcases h s with ⟨_, o, hF⟩ | ⟨_, hF⟩
  · exact ⟨_, hF⟩
  · exact ⟨_, hF⟩

set_option maxRecDepth 100000 in
set_option maxHeartbeats 1000000 in
theorem law_any (I : Interp) (a : Option Addr) (len cap : Nat) (nm : Nat → ByteArray) (ra : Nat → Option Addr) (rl rc : Nat → Nat) (rn : Nat → Nat → ByteArray) (name typ object : ByteArray) (w : World) (hI : I.answers w.tape)
    (hl : len ≤ 9223372036854775807) (hnm : ∀ i, i < len → (nm i).size ≤ 9223372036854775807) (hrl : ∀ i, i < len → rl i ≤ 9223372036854775807) (hrn : ∀ i j, i < len → j < rl i → (rn i j).size ≤ 9223372036854775807)
    (g1 : name.size ≤ 9223372036854775807) (g2 : typ.size ≤ 9223372036854775807) (g3 : object.size ≤ 9223372036854775807)
    (hc : TypesAt w a len nm ra rl rc rn) :
    Calls Tryf.prog 3 #[.slice a len cap, .string name, .string typ, .string object] w (Post3 w) := by
  have c4 := zzBytes_any a len cap nm ra rl rc rn name typ object w hl hnm hrl hrn g1 g2 g3 hc
  have c5 := typesBytes_any a len cap nm ra rl rc rn w hl hnm hrl hrn hc
  go_enter Tryf.func3, Tryf.ntmps3
  go_wp2_with fail
  refine c4.mono ?_
  rintro e w0 ⟨b, rfl, rfl, hsm⟩
  cases b
  · go_wp2_with fail
    go_ret
    exact ⟨rfl, Below.refl _ _⟩
  · obtain ⟨hl2, hrl2⟩ := hsm rfl
    clear hsm c4
    go_wp2_with fail
    refine c5.mono ?_
    rintro e w1 ⟨m0, rfl, hm0, hm1, hb1⟩
    clear c5
    go_wp2_with fail
    refine (addLen_any _ _ _ (by omega) (by omega) (by omega) (by omega)).mono ?_
    rintro e w1 ⟨m1, rfl, hm2, hm3, rfl⟩
    go_wp2_with fail
    refine (addLen_any _ _ _ (by omega) (by omega) (by omega) (by omega)).mono ?_
    rintro e w1 ⟨m2, rfl, hm4, hm5, rfl⟩
    go_wp2_with fail
    refine (addLen_any _ _ _ (by omega) (by omega) (by omega) (by omega)).mono ?_
    rintro e w1 ⟨m3, rfl, hm6, hm7, rfl⟩
    by_cases hbig : m3 ≤ 1048576
    · go_wp2_with fail
      refine (build_any a len cap nm ra rl rc rn w1 hl2 hrl2 (hc.below hb1)).mono ?_
      rintro e w2 ⟨bm, bt, br, rfl, hb2, M⟩
      go_wp2_with fail
      refine (newEngine_any bm bt br len nm rl rn w2 hl2 hrl2 (fun i hi => by have := hnm i hi; unfold maxLen; omega) (fun i j hi hj => by have := hrn i j hi hj; unfold maxLen; omega) M).mono ?_
      rintro e w3 ⟨be, bx, bT, bR, F, G, rfl, hb3, hbe, cbe, X, hT, hR⟩
      have M3 := M.below hb3
      have hb13 : Below w0.heap.size w0 w3 := (hb1.trans (hb2.mono hb1.size)).trans (hb3.mono (Nat.le_trans hb1.size hb2.size))
      clear M hb3 hb2 hb1 hc hnm hrl hrn
      have z1 : typ.size ≤ maxLen := by unfold maxLen; omega
      have z2 : name.size ≤ maxLen := by unfold maxLen; omega
      rcases hR.hit typ name with ⟨i, j, hh, hG⟩ | ⟨hno, hG⟩
      · have q1 := zzTypeRel_hit be bx bT bR F G typ name object w3 X cbe z1 z2 _ _ hG
        have q2 := zzTypeRel_hit be bx bT bR F G typ name ⟨#[]⟩ w3 X cbe z1 z2 _ _ hG
        have q3 := first_any bm bt br len nm rl rn typ name w3 hl2 hrl2 M3
        have q4 := locate_any bm bt br len nm rl rn i j w3 hl2 hrl2 M3 hh.ilt hh.jlt
        have HH : Hid (Hit len nm rl rn typ name i j) := hh
        clear X cbe z1 z2 hG hT hR hh M3 hl2 hrl2
        go_wp2_with fail
        refine q1.mono ?_
        rintro e w4 ⟨rfl, rfl⟩
        go_wp2_with fail
        refine q2.mono ?_
        rintro e w4 ⟨rfl, rfl⟩
        go_wp2_with fail
        refine q3.mono ?_
        rintro e w4 ⟨rfl, h⟩
        rcases h with ⟨i', j', hh', rfl⟩ | ⟨hno, rfl⟩
        · obtain ⟨rfl, rfl⟩ := hh'.unique HH.out
          have hd : decide ((i' : Int) < 0) = false := by simp
          go_wp2_with fail
          refine q4.mono ?_
          rintro e w4 ⟨rfl, rfl⟩
          go_wp2_with fail
          refine q4.mono ?_
          rintro e w4 ⟨rfl, rfl⟩
          go_wp2_with fail
          go_ret
          exact ⟨rfl, hb13⟩
        · exact absurd HH.out (hno i j)
      · obtain ⟨p, hF⟩ := ptrOf hT typ
        have q1 := zzTypeRel_miss I be bx bT bR F G typ name object w3 (by rw [hb13.tape]; exact hI) X cbe z1 z2 hG p hF
        have HG : Hid (G typ name = .pointer none) := hG
        have HF : Hid (F typ = .pointer p) := hF
        clear hG hF
        go_wp2_with fail
        refine q1.mono ?_
        rintro e w4 ⟨k4, rfl, hb4⟩
        clear q1
        have q2 := zzTypeRel_miss I be bx bT bR F G typ name ⟨#[]⟩ w4 (by rw [hb4.tape, hb13.tape]; exact hI) (X.below hb4) ((hb4.cell (p := ⟨be, 0, none⟩) hbe).trans cbe) z1 z2 HG.out p HF.out
        go_wp2_with fail
        refine q2.mono ?_
        rintro e w5 ⟨k5, rfl, hb5⟩
        clear q2
        have hb45 : Below w3.heap.size w3 w5 := hb4.trans (hb5.mono hb4.size)
        have q3 := first_any bm bt br len nm rl rn typ name w5 hl2 hrl2 (M3.below hb45)
        go_wp2_with fail
        refine q3.mono ?_
        rintro e w6 ⟨rfl, h⟩
        rcases h with ⟨i', j', hh', rfl⟩ | ⟨_, rfl⟩
        · exact absurd hh' (hno i' j')
        · clear q3
          have q4 := locate_nil bm w6
          go_wp2_with fail
          refine q4.mono ?_
          rintro e w7 ⟨rfl, rfl⟩
          go_wp2_with fail
          refine q4.mono ?_
          rintro e w7 ⟨rfl, rfl⟩
          go_wp2_with fail
          go_ret
          exact ⟨rfl, hb13.trans (hb45.mono hb13.size)⟩
    · go_wp2_with fail
      go_ret
      exact ⟨rfl, hb1⟩
end Go.Proofs.Qxb6616336aFmt
