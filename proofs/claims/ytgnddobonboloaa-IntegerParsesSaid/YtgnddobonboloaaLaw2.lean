/- What the laws over the reference share. -/
import Derived.Test.YtgnddobonboloaaAgree
namespace Go.Proofs.Ytgnddobonboloaa
open Go.RowKit
theorem of_ntx (b : Bool) (m : Nat) (w : World) (hm : (dg m).length ≤ 400) : Calls Try.prog 18 #[.string (mks (ntx b m))] w (RI w (b && decide (0 < m), m)) := by
  have hl : (ntx b m).length ≤ 4294967296 := by
    by_cases h : m = 0
    · subst h; unfold ntx; rw [if_pos rfl]; simp
    · rw [ntx_pos h]; cases b <;> simp [asc] <;> omega
  have h := of_any (ntx b m) w (by_ntx b m) (ofC_ntx b m) hl
  rw [ofS_ntx] at h
  dsimp only at h
  have e : val (if m = 0 then [0] else dg m) = m := by
    by_cases h0 : m = 0
    · rw [if_pos h0, h0]; rfl
    · rw [if_neg h0, val_dg]
  rw [e] at h
  exact h
theorem rmul_p (x y : Bool × Nat) (A A' : Option Addr) (n n' c c' : Nat) (w : World) (hn : Hid (n = (dg x.2).length)) (hn' : Hid (n' = (dg y.2).length)) (hr : Rd w A (B8 (dg x.2))) (hr' : Rd w A' (B8 (dg y.2)))
    (hm : (dg x.2).length ≤ 400) (hm' : (dg y.2).length ≤ 400) : Calls Try.prog 27 #[.agg #[.bool x.1, .slice A n c], .agg #[.bool y.1, .slice A' n' c']] w (RI w (mulN x y)) :=
  rmul_any x.1 y.1 A A' n n' c c' x.2 y.2 w hn hn' hr hr' (by have := hn.out; omega) (by have := hn'.out; omega)
theorem rdivmod_p (x y : Bool × Nat) (A A' : Option Addr) (n n' c c' : Nat) (w : World) (hn : Hid (n = (dg x.2).length)) (hn' : Hid (n' = (dg y.2).length)) (hr : Rd w A (B8 (dg x.2))) (hr' : Rd w A' (B8 (dg y.2)))
    (hm : (dg x.2).length ≤ 400) (hm' : (dg y.2).length ≤ 400) (hy : y.2 ≠ 0) : Calls Try.prog 28 #[.agg #[.bool x.1, .slice A n c], .agg #[.bool y.1, .slice A' n' c']] w (RI2 w (dmQN x y) (dmRN x y)) :=
  rdivmod_any x.1 y.1 A A' n n' c c' x.2 y.2 w hn hn' hr hr' (by have := hn.out; omega) (by have := hn'.out; omega) (by omega)
/-- Two structs stored into two new variables. -/
theorem two_of (w : World) (t : TypeId) (z0 z1 u0 u1 v0 v1 : Value) :
    Hid (Arr ((((((w.alloc (.cells #[z0, z1] t)).alloc (.cells #[z0, z1] t)).setCell ⟨w.heap.size, 0, none⟩ u0).setCell ⟨w.heap.size, 1, none⟩ u1).setCell ⟨w.heap.size + 1, 0, none⟩ v0).setCell ⟨w.heap.size + 1, 1, none⟩ v1) w.heap.size t [u0, u1]) ∧
    Hid (Arr ((((((w.alloc (.cells #[z0, z1] t)).alloc (.cells #[z0, z1] t)).setCell ⟨w.heap.size, 0, none⟩ u0).setCell ⟨w.heap.size, 1, none⟩ u1).setCell ⟨w.heap.size + 1, 0, none⟩ v0).setCell ⟨w.heap.size + 1, 1, none⟩ v1) (w.heap.size + 1) t [v0, v1]) ∧
    Below w.heap.size w ((((((w.alloc (.cells #[z0, z1] t)).alloc (.cells #[z0, z1] t)).setCell ⟨w.heap.size, 0, none⟩ u0).setCell ⟨w.heap.size, 1, none⟩ u1).setCell ⟨w.heap.size + 1, 0, none⟩ v0).setCell ⟨w.heap.size + 1, 1, none⟩ v1) := by
  obtain ⟨h1, h2, h3, h4⟩ := two_box w t t [z0, z1] [z0, z1]
  refine ⟨?_, ?_, ?_⟩
  · exact (((h1.out.store 0 u0).store 1 u1).far (by dsimp only; omega) v0).far (by dsimp only; omega) v1
  · exact (((h2.out.far (by dsimp only; omega) u0).far (by dsimp only; omega) u1).store 0 v0).store 1 v1
  · exact (((h3.setCell (by dsimp only; omega) _).setCell (by dsimp only; omega) _).setCell (by dsimp only; omega) _).setCell (by dsimp only; omega) _
end Go.Proofs.Ytgnddobonboloaa
