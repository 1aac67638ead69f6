import Derived.Test.Qxb6616513aT34
import Derived.Test.Qxb6616513aT25
namespace Go.Proofs.Qxb6616513a
open Go.RowKit

theorem setRoot_ht (h : Nat) (t : T h) (p : Int × Nat) : (setRoot ⟨h, t⟩ p).1 ≤ h + 1 := by
  unfold setRoot
  dsimp only
  split
  · exact Nat.le_succ _
  · split
    · exact Nat.le_succ _
    · exact Nat.le_refl _

/-- What stands while the script is set, with the shape. -/
def Ts (w wr : World) (b0 : Nat) (z : Nat → Int) (v : Nat → Nat) (k : Nat) : Prop := ∃ (h : Nat) (t : HT h), Tl w wr b0 z v k h t ∧ Shape z k h (er h t) ∧ h ≤ k

theorem Ts.step {w wr w' : World} {b0 : Nat} {z : Nat → Int} {v : Nat → Nat} {k h : Nat} {t : HT h} (T : Tl w wr b0 z v k h t) (S : Shape z k h (er h t)) (hk : h ≤ k) (hp : RootPost h t (z k, v k) wr w') : Ts w w' b0 z v (k + 1) := by
  obtain ⟨h', t', p1, p2, p3, p4, p5, p6⟩ := hp
  obtain ⟨s1, s2⟩ := setRoot_spec h (er h t) (z k, v k) T.wf (by rw [T.fl]; exact ups_asc z v k)
  have S' := S.step (v := v) T.wf T.fl
  have hht := setRoot_ht h (er h t) (z k, v k)
  rw [p3] at s1 s2 S' hht
  refine ⟨h', t', ⟨p1.trans T.blk', p2, s1, ?_, p4, fun x hx => ?_, ?_⟩, S', Nat.le_trans hht (by omega)⟩
  · show flat h' (er h' t') = up (ups z v k) (z k, v k)
    rw [s2, T.fl]
  · rcases p6 x hx with h1 | h1
    · exact T.ge x h1
    · exact Nat.le_trans T.bel.size h1
  · exact T.bel.trans ((p5.below w.heap.size T.bel.size T.ge))

end Go.Proofs.Qxb6616513a
