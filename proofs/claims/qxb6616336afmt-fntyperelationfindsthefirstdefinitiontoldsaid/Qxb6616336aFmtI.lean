import Derived.Test.Qxb6616336aFmtH
import Derived.Stop.CallBack
import Derived.Stop.IfaceNil
namespace Go.Proofs.Qxb6616336aFmt
open Go.RowKit Go.Maps Go.Extern.Stop Go.Stop Go.Extern

theorem call19 (args : Array Value) (w : World) : (callFunc 19 args).run Tryf.prog w = ((FmtStop.errorf #[9, 70] #[35] args).run Tryf.prog w).andThen fun v w' => .ok (.value v) w' :=
  run_callFunc_extern Tryf.func19 (by kernel_rfl) (by kernel_rfl) (by kernel_rfl) (by kernel_rfl) args w
theorem guardF (name : String) (w : World) : (FmtStop.guard name).run Tryf.prog w = .ok () w := by kernel_rfl

def fmtA : ByteArray := ⟨#[116, 121, 112, 101, 32, 37, 115, 32, 104, 97, 115, 32, 110, 111, 32, 114, 101, 108, 97, 116, 105, 111, 110, 32, 37, 115]⟩
def fmtB : ByteArray := ⟨#[116, 121, 112, 101, 32, 37, 115, 32, 111, 102, 32, 111, 98, 106, 101, 99, 116, 32, 37, 115, 32, 105, 115, 32, 110, 111, 116, 32, 105, 110, 32, 116, 104, 101, 32, 109, 111, 100, 101, 108]⟩
def fmtC : ByteArray := ⟨#[116, 121, 112, 101, 32, 37, 115, 32, 105, 115, 32, 110, 111, 116, 32, 105, 110, 32, 116, 104, 101, 32, 109, 111, 100, 101, 108]⟩
theorem fmtA0 : FmtStop.printed? fmtA 2 = some [(0, 115, false), (1, 115, false)] := by kernel_rfl
theorem fmtA0r (w : World) : (FmtDoors.printed fmtA 2).run Tryf.prog w = .ok [(0, 115, false), (1, 115, false)] w := by kernel_rfl
theorem fmtB0 : FmtStop.printed? fmtB 2 = some [(0, 115, false), (1, 115, false)] := by kernel_rfl
theorem fmtB0r (w : World) : (FmtDoors.printed fmtB 2).run Tryf.prog w = .ok [(0, 115, false), (1, 115, false)] w := by kernel_rfl
theorem fmtC0 : FmtStop.printed? fmtC 1 = some [(0, 115, false)] := by kernel_rfl
theorem fmtC0r (w : World) : (FmtDoors.printed fmtC 1).run Tryf.prog w = .ok [(0, 115, false)] w := by kernel_rfl
def shape9 : List UInt8 := [12, 6, 0, 0, 0, 0, 0, 0, 0, 115, 116, 114, 105, 110, 103]
theorem op9_115 (name : String) (x : ByteArray) (w : World) : (FmtStop.operand name false 115 false (.iface 9 (.string x))).run Tryf.prog w = .ok (shape9, FmtStop.pack x.data.toList) w := by kernel_rfl
theorem op9_115w (name : String) (x : ByteArray) (w : World) : (FmtStop.operand name true 115 false (.iface 9 (.string x))).run Tryf.prog w = .ok (shape9, FmtStop.pack x.data.toList) w := by kernel_rfl
theorem strict9 (name : String) (x : ByteArray) (w : World) : (FmtStop.strict name (.iface 9 (.string x))).run Tryf.prog w = .ok (shape9, FmtStop.pack x.data.toList) w := by kernel_rfl
theorem ptr73 (w : World) : (FmtStop.ptrTo "errors.errorString").run Tryf.prog w = .ok 73 w := by kernel_rfl
theorem elem73 (w : World) : (elemOf 73).run Tryf.prog w = .ok 75 w := by kernel_rfl
theorem isError73 (w : World) : (FmtDoors.textMethod 73 "Error").run Tryf.prog w = .ok true w := by kernel_rfl

/-- What fmt.Errorf leaves. -/
def Post18 (w : World) (e : Ending) (w' : World) : Prop := ∃ k, e = .returned (.iface 73 (.pointer (some ⟨k, 0, none⟩))) ∧ Below w.heap.size w w'

set_option maxHeartbeats 400000 in
theorem errorfA (F : Interp) (x y : ByteArray) (blk : Nat) (w : World) (hF : F.answers w.tape) (c0 : w.cell? ⟨blk, 0, none⟩ = some (.iface 9 (.string x))) (c1 : w.cell? ⟨blk, 1, none⟩ = some (.iface 9 (.string y))) :
    Calls Tryf.prog 18 #[.string fmtA, .slice (some ⟨blk, 0, none⟩) 2 2] w (Post18 w) := by
  have hF' := answers_open hF
  have t1 := call19
  have t2 := guardF
  have t3 := fmtA0
  have t4 := fmtA0r
  have t5 := op9_115
  have t6 := op9_115w
  have t7 := strict9
  have t8 := ptr73
  have t9 := elem73
  have t10 := isError73
  go_enter Tryf.func18, Tryf.ntmps18
  go_wp2
  go_ret
  exact ⟨_, rfl, ((Below.refl _ _).alloc (Nat.le_refl _) _).drew⟩

set_option maxHeartbeats 400000 in
theorem errorfB (F : Interp) (x y : ByteArray) (blk : Nat) (w : World) (hF : F.answers w.tape) (c0 : w.cell? ⟨blk, 0, none⟩ = some (.iface 9 (.string x))) (c1 : w.cell? ⟨blk, 1, none⟩ = some (.iface 9 (.string y))) :
    Calls Tryf.prog 18 #[.string fmtB, .slice (some ⟨blk, 0, none⟩) 2 2] w (Post18 w) := by
  have hF' := answers_open hF
  have t1 := call19
  have t2 := guardF
  have t3 := fmtB0
  have t4 := fmtB0r
  have t5 := op9_115
  have t6 := op9_115w
  have t7 := strict9
  have t8 := ptr73
  have t9 := elem73
  have t10 := isError73
  go_enter Tryf.func18, Tryf.ntmps18
  go_wp2
  go_ret
  exact ⟨_, rfl, ((Below.refl _ _).alloc (Nat.le_refl _) _).drew⟩

set_option maxHeartbeats 400000 in
theorem errorfC (F : Interp) (x : ByteArray) (blk : Nat) (w : World) (hF : F.answers w.tape) (c0 : w.cell? ⟨blk, 0, none⟩ = some (.iface 9 (.string x))) :
    Calls Tryf.prog 18 #[.string fmtC, .slice (some ⟨blk, 0, none⟩) 1 1] w (Post18 w) := by
  have hF' := answers_open hF
  have t1 := call19
  have t2 := guardF
  have t3 := fmtC0
  have t4 := fmtC0r
  have t5 := op9_115
  have t6 := op9_115w
  have t7 := strict9
  have t8 := ptr73
  have t9 := elem73
  have t10 := isError73
  go_enter Tryf.func18, Tryf.ntmps18
  go_wp2
  go_ret
  exact ⟨_, rfl, ((Below.refl _ _).alloc (Nat.le_refl _) _).drew⟩


set_option maxHeartbeats 400000 in
theorem relation_any (bx bT bR : Nat) (F : ByteArray → Value) (G : ByteArray → ByteArray → Value) (typ name : ByteArray) (w : World) (X : IndexAt w bx bT bR F G) (h1 : typ.size ≤ maxLen) (h2 : name.size ≤ maxLen) :
    Calls Tryf.prog 16 #[.pointer (some ⟨bx, 0, none⟩), .string typ, .string name] w fun e w' => e = .returned (G typ name) ∧ w' = w := by
  have c1 := X.c1
  obtain ⟨n, hrm⟩ := X.rm
  have look := hrm.look typ name h1 h2
  go_enter Tryf.func16, Tryf.ntmps16
  go_wp2
  go_ret
  exact ⟨rfl, rfl⟩

set_option maxHeartbeats 400000 in
theorem type_any (bx bT bR : Nat) (F : ByteArray → Value) (G : ByteArray → ByteArray → Value) (typ : ByteArray) (w : World) (X : IndexAt w bx bT bR F G) (h1 : typ.size ≤ maxLen) :
    Calls Tryf.prog 17 #[.pointer (some ⟨bx, 0, none⟩), .string typ] w fun e w' => e = .returned (F typ) ∧ w' = w := by
  have c0 := X.c0
  obtain ⟨n, htm⟩ := X.tm
  have look := htm.look typ h1
  go_enter Tryf.func17, Tryf.ntmps17
  go_wp2
  go_ret
  exact ⟨rfl, rfl⟩

set_option maxHeartbeats 400000 in
theorem typeRel_hit (be bx bT bR : Nat) (F : ByteArray → Value) (G : ByteArray → ByteArray → Value) (typ name object : ByteArray) (w : World) (X : IndexAt w bx bT bR F G) (hbe : w.cell? ⟨be, 0, none⟩ = some (.pointer (some ⟨bx, 0, none⟩)))
    (h1 : typ.size ≤ maxLen) (h2 : name.size ≤ maxLen) (b o : Nat) (hG : G typ name = Pt b o) :
    Calls Tryf.prog 15 #[.pointer (some ⟨be, 0, none⟩), .string name, .string typ, .string object] w fun e w' => e = .returned (.tuple #[.pointer (some ⟨b, o, none⟩), .nilIface]) ∧ w' = w := by
  have hr := relation_any bx bT bR F G typ name w X h1 h2
  rw [hG] at hr
  unfold Pt at hr
  go_enter Tryf.func15, Tryf.ntmps15
  go_wp2_with fail
  refine hr.mono ?_
  rintro e w' ⟨rfl, rfl⟩
  go_wp2_with fail
  go_ret2
  exact ⟨rfl, rfl⟩

set_option maxHeartbeats 400000 in
theorem typeRel_miss (I : Interp) (be bx bT bR : Nat) (F : ByteArray → Value) (G : ByteArray → ByteArray → Value) (typ name object : ByteArray) (w : World) (hI : I.answers w.tape) (X : IndexAt w bx bT bR F G) (hbe : w.cell? ⟨be, 0, none⟩ = some (.pointer (some ⟨bx, 0, none⟩)))
    (h1 : typ.size ≤ maxLen) (h2 : name.size ≤ maxLen) (hG : G typ name = .pointer none) (p : Option Addr) (hF : F typ = .pointer p) :
    Calls Tryf.prog 15 #[.pointer (some ⟨be, 0, none⟩), .string name, .string typ, .string object] w fun e w' => ∃ k, e = .returned (.tuple #[.pointer none, .iface 73 (.pointer (some ⟨k, 0, none⟩))]) ∧ Below w.heap.size w w' := by
  have hr := relation_any bx bT bR F G typ name w X h1 h2
  rw [hG] at hr
  have ht := type_any bx bT bR F G typ w X h1
  rw [hF] at ht
  go_enter Tryf.func15, Tryf.ntmps15
  go_wp2_with fail
  refine hr.mono ?_
  rintro e w' ⟨rfl, rfl⟩
  go_wp2_with fail
  refine ht.mono ?_
  rintro e w' ⟨rfl, rfl⟩
  go_wp2_with fail
  · refine (errorfA I typ name _ _ (by exact hI) (by simp) (by simp)).mono ?_
    rintro e w2 ⟨k, rfl, hb⟩
    go_wp2_with fail
    go_ret2
    exact ⟨_, rfl, ((Below.refl _ _).alloc (Nat.le_refl _) _).trans (hb.mono (by simp))⟩
  · refine (errorfB I typ object _ _ (by exact hI) (by simp) (by simp)).mono ?_
    rintro e w2 ⟨k, rfl, hb⟩
    go_wp2_with fail
    go_ret2
    exact ⟨_, rfl, ((Below.refl _ _).alloc (Nat.le_refl _) _).trans (hb.mono (by simp))⟩
  · refine (errorfC I typ _ _ (by exact hI) (by simp)).mono ?_
    rintro e w2 ⟨k, rfl, hb⟩
    go_wp2_with fail
    go_ret2
    exact ⟨_, rfl, ((Below.refl _ _).alloc (Nat.le_refl _) _).trans (hb.mono (by simp))⟩

/-- What 'ZZtypeRelation' leaves. -/
def Post9 (v : Value) (w : World) (e : Ending) (w' : World) : Prop :=
  Below w.heap.size w w' ∧ ((v ≠ .pointer none ∧ e = .returned (.tuple #[v, .nilIface])) ∨ (v = .pointer none ∧ ∃ k, e = .returned (.tuple #[.pointer none, .iface 73 (.pointer (some ⟨k, 0, none⟩))])))

set_option maxHeartbeats 400000 in
theorem zzTypeRel_hit (be bx bT bR : Nat) (F : ByteArray → Value) (G : ByteArray → ByteArray → Value) (typ name object : ByteArray) (w : World) (X : IndexAt w bx bT bR F G) (hbe : w.cell? ⟨be, 0, none⟩ = some (.pointer (some ⟨bx, 0, none⟩)))
    (h1 : typ.size ≤ maxLen) (h2 : name.size ≤ maxLen) (b o : Nat) (hG : G typ name = Pt b o) :
    Calls Tryf.prog 9 #[.pointer (some ⟨be, 0, none⟩), .string name, .string typ, .string object] w fun e w' => e = .returned (.tuple #[.pointer (some ⟨b, o, none⟩), .nilIface]) ∧ w' = w := by
  go_enter Tryf.func9, Tryf.ntmps9
  go_wp2_with fail
  refine (typeRel_hit be bx bT bR F G typ name object w X hbe h1 h2 b o hG).mono ?_
  rintro e w' ⟨rfl, rfl⟩
  go_wp2_with fail
  go_ret2
  exact ⟨rfl, rfl⟩

set_option maxHeartbeats 400000 in
theorem zzTypeRel_miss (I : Interp) (be bx bT bR : Nat) (F : ByteArray → Value) (G : ByteArray → ByteArray → Value) (typ name object : ByteArray) (w : World) (hI : I.answers w.tape) (X : IndexAt w bx bT bR F G) (hbe : w.cell? ⟨be, 0, none⟩ = some (.pointer (some ⟨bx, 0, none⟩)))
    (h1 : typ.size ≤ maxLen) (h2 : name.size ≤ maxLen) (hG : G typ name = .pointer none) (p : Option Addr) (hF : F typ = .pointer p) :
    Calls Tryf.prog 9 #[.pointer (some ⟨be, 0, none⟩), .string name, .string typ, .string object] w fun e w' => ∃ k, e = .returned (.tuple #[.pointer none, .iface 73 (.pointer (some ⟨k, 0, none⟩))]) ∧ Below w.heap.size w w' := by
  have hc := typeRel_miss I be bx bT bR F G typ name object w hI X hbe h1 h2 hG p hF
  clear hG hF
  go_enter Tryf.func9, Tryf.ntmps9
  go_wp2_with fail
  refine hc.mono ?_
  rintro e w' ⟨k, rfl, hb⟩
  go_wp2_with fail
  go_ret2
  exact ⟨_, rfl, hb⟩

theorem IndexAt.below {w w' : World} {bx bT bR : Nat} {F : ByteArray → Value} {G : ByteArray → ByteArray → Value} (X : IndexAt w bx bT bR F G) (hb : Below w.heap.size w w') : IndexAt w' bx bT bR F G where
  c0 := (hb.cell (p := ⟨bx, 0, none⟩) X.xlt).trans X.c0
  c1 := (hb.cell (p := ⟨bx, 1, none⟩) X.xlt).trans X.c1
  xlt := Nat.lt_of_lt_of_le X.xlt hb.size
  tm := by
    obtain ⟨n, h⟩ := X.tm
    exact ⟨n, h.heap (hb.block _ h.lt)⟩
  rm := by
    obtain ⟨n, h⟩ := X.rm
    exact ⟨n, h.heap (hb.block _ h.lt)⟩

/-- What 'ZZnewEngine' leaves. -/
def Post8 (nm : Nat → ByteArray) (rl : Nat → Nat) (rn : Nat → Nat → ByteArray) (br : Nat → Nat) (bt len : Nat) (w : World) (e : Ending) (w' : World) : Prop :=
  ∃ be bx bT bR F G, e = .returned (.pointer (some ⟨be, 0, none⟩)) ∧ Below w.heap.size w w' ∧ be < w'.heap.size ∧ w'.cell? ⟨be, 0, none⟩ = some (.pointer (some ⟨bx, 0, none⟩)) ∧ IndexAt w' bx bT bR F G ∧ TInv nm bt len F ∧ RInv nm rl rn br len 0 G

set_option maxHeartbeats 400000 in
theorem newEngine_any (bm bt : Nat) (br : Nat → Nat) (len : Nat) (nm : Nat → ByteArray) (rl : Nat → Nat) (rn : Nat → Nat → ByteArray) (w : World)
    (hl : len ≤ 1048576) (hrl : ∀ i, i < len → rl i ≤ 1048576) (hns : ∀ i, i < len → (nm i).size ≤ maxLen) (hrs : ∀ i j, i < len → j < rl i → (rn i j).size ≤ maxLen) (M : ModelAt w bm bt br len nm rl rn) :
    Calls Tryf.prog 8 #[.pointer (some ⟨bm, 0, none⟩), .pointer none] w (Post8 nm rl rn br bt len w) := by
  go_enter Tryf.func8, Tryf.ntmps8
  go_wp2_with fail
  refine (newIndex_any bm bt br len nm rl rn w hl hrl hns hrs M).mono ?_
  rintro e w1 ⟨bx, bT, bR, F, G, rfl, hb, X, hT, hR⟩
  go_wp2_with fail
  go_ret
  have hb2 : Below w1.heap.size w1 (w1.alloc (.cells #[.pointer (some ⟨bx, 0, none⟩), .pointer none] 53)) := (Below.refl _ _).alloc (Nat.le_refl _) _
  exact ⟨w1.heap.size, bx, bT, bR, F, G, rfl, hb.trans (hb2.mono hb.size), by simp, by simp, X.below hb2, hT, hR⟩
end Go.Proofs.Qxb6616336aFmt
