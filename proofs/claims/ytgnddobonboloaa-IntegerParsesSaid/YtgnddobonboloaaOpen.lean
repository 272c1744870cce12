/- The arguments' boxes; a law's plain words. -/
import Derived.Test.YtgnddobonboloaaLawText
import Derived.Test.YtgnddobonboloaaAwake
import Derived.Test.YtgnddobonboloaaPlain2
namespace Go.Proofs.Ytgnddobonboloaa
open Go.RowKit
theorem boxes1 (w : World) (t : TypeId) (xs : List Value) : Hid (Arr (w.alloc (.cells xs.toArray t)) w.heap.size t xs) ∧ Below w.heap.size w (w.alloc (.cells xs.toArray t)) ∧ w.heap.size + 1 ≤ (w.alloc (.cells xs.toArray t)).heap.size :=
  ⟨Arr.new w t xs, (Below.refl _ _).alloc (Nat.le_refl _) _, by simp⟩
theorem boxes3 (w : World) (t t' t'' : TypeId) (xs ys zs : List Value) :
    Hid (Arr (((w.alloc (.cells xs.toArray t)).alloc (.cells ys.toArray t')).alloc (.cells zs.toArray t'')) w.heap.size t xs) ∧ Hid (Arr (((w.alloc (.cells xs.toArray t)).alloc (.cells ys.toArray t')).alloc (.cells zs.toArray t'')) (w.heap.size + 1) t' ys) ∧
    Hid (Arr (((w.alloc (.cells xs.toArray t)).alloc (.cells ys.toArray t')).alloc (.cells zs.toArray t'')) (w.heap.size + 2) t'' zs) ∧
    Below w.heap.size w (((w.alloc (.cells xs.toArray t)).alloc (.cells ys.toArray t')).alloc (.cells zs.toArray t'')) ∧ w.heap.size + 3 ≤ (((w.alloc (.cells xs.toArray t)).alloc (.cells ys.toArray t')).alloc (.cells zs.toArray t'')).heap.size := by
  obtain ⟨h1, h2, h3, h4⟩ := two_box w t t' xs ys
  refine ⟨h1.out.alloc _, h2.out.alloc _, ?_, h3.alloc h3.size _, by simp⟩
  have h5 := Arr.new ((w.alloc (.cells xs.toArray t)).alloc (.cells ys.toArray t')) t'' zs
  have e : ((w.alloc (.cells xs.toArray t)).alloc (.cells ys.toArray t')).heap.size = w.heap.size + 2 := by simp
  rw [e] at h5
  exact h5
theorem tE_gt {x : Bool × Nat} (h : ¬ (dg x.2).length ≤ 400) : tE x = 6 := by unfold tE; rw [if_neg h]
theorem tS_gt {x : Bool × Nat} (h : ¬ (dg x.2).length ≤ 400) : tS x = [] := by unfold tS; rw [if_neg h]
theorem sumN_comm {x y : Bool × Nat} (hx : Ok x) (hy : Ok y) : sumN y x = sumN x y := zN_inj (ok_sumN hy hx) (ok_sumN hx hy) (by rw [zN_sum, zN_sum]; omega)
theorem sumN_assoc {x y z : Bool × Nat} (hx : Ok x) (hy : Ok y) (hz : Ok z) : sumN (sumN x y) z = sumN x (sumN y z) :=
  zN_inj (ok_sumN (ok_sumN hx hy) hz) (ok_sumN hx (ok_sumN hy hz)) (by rw [zN_sum, zN_sum, zN_sum, zN_sum]; omega)
theorem mulN_comm (x y : Bool × Nat) : mulN y x = mulN x y := zN_inj (ok_mulN y x) (ok_mulN x y) (by rw [zN_mul, zN_mul, Int.mul_comm])
theorem mulN_assoc (x y z : Bool × Nat) : mulN (mulN x z) y = mulN x (mulN y z) :=
  zN_inj (ok_mulN _ _) (ok_mulN _ _) (by rw [zN_mul, zN_mul, zN_mul, zN_mul, Int.mul_assoc, Int.mul_comm (zN z)])
theorem mulN_dist (x y z : Bool × Nat) : sumN (mulN x z) (mulN y z) = mulN (sumN x y) z :=
  zN_inj (ok_sumN (ok_mulN _ _) (ok_mulN _ _)) (ok_mulN _ _) (by rw [zN_mul, zN_sum, zN_sum, zN_mul, zN_mul, Int.add_mul])
end Go.Proofs.Ytgnddobonboloaa
