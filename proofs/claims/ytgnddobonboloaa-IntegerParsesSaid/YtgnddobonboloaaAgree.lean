/- agree: a result is that of the reference. -/
import Derived.Test.YtgnddobonboloaaRDivMod
import Derived.Test.YtgnddobonboloaaOpen
namespace Go.Proofs.Ytgnddobonboloaa
open Go.RowKit
set_option maxHeartbeats 2000000 in
theorem agree_le (x : Bool × Nat) (A : Option Addr) (n c : Nat) (w : World) (hn : Hid (n = (dg x.2).length)) (hr : Rd w A (B8 (dg x.2))) (hl : n ≤ 400) :
    Calls Try.prog 14 #[.string (mks (ntx x.1 x.2)), .int .i64 0, .agg #[.bool x.1, .slice A n c], .int .i64 0] w fun e w' => e = .returned (.bool true) ∧ Below w.heap.size w w' := by
  have HB : Below w.heap.size w (w.alloc (.cells #[.bool x.1, .slice A n c] 28)) := (Below.refl _ _).alloc (Nat.le_refl _) _
  have HX : Hid (Arr (w.alloc (.cells #[.bool x.1, .slice A n c] 28)) w.heap.size 28 [.bool x.1, .slice A n c]) := Arr.new w _ _
  have HL := fun w => long_any x.1 A n c w
  rw [show decide ((400 : Int) < (n : Int)) = false from by simp; omega] at HL
  have HLL := Lib.hid HL
  have HTT := Lib.hid (fun w h => rtext_any x.1 A n c x.2 w hn h (by omega))
  clear HL
  generalize mks (ntx x.1 x.2) = s at *
  generalize x.1 = b at *
  go_enter Try.func14, Try.ntmps14
  go_wp2_with (first | (go_at_call 47; go_loud (refine (HLL.out _).mono ?_; rintro e w1 ⟨rfl, hb1⟩; have x0 := (HX.out.keep hb1).cell' (i := 0) rfl; have x1 := (HX.out.keep hb1).cell' (i := 1) rfl)) | (go_at_call 29; go_loud (refine (HTT.out _ ((hr.keep HB).keep hb1)).mono ?_; rintro e w2 ⟨rfl, hb2⟩)))
  go_ret
  exact ⟨rfl, (HB.trans (hb1.mono HB.size)).trans (hb2.mono (Nat.le_trans HB.size hb1.size))⟩
set_option maxHeartbeats 2000000 in
theorem agree_gt (b : Bool) (A : Option Addr) (n c : Nat) (w : World) (hl : 400 < n) :
    Calls Try.prog 14 #[.string (mks []), .int .i64 6, .agg #[.bool b, .slice A n c], .int .i64 0] w fun e w' => e = .returned (.bool true) ∧ Below w.heap.size w w' := by
  have HB : Below w.heap.size w (w.alloc (.cells #[.bool b, .slice A n c] 28)) := (Below.refl _ _).alloc (Nat.le_refl _) _
  have HL := fun w => long_any b A n c w
  rw [show decide ((400 : Int) < (n : Int)) = true from by simp; omega] at HL
  have HLL := Lib.hid HL
  clear HL
  have em : mks [] = (⟨#[]⟩ : ByteArray) := rfl
  rw [em]
  clear em
  go_enter Try.func14, Try.ntmps14
  go_wp2_with (go_at_call 47; go_loud (refine (HLL.out _).mono ?_; rintro e w1 ⟨rfl, hb1⟩))
  go_ret
  exact ⟨rfl, HB.trans (hb1.mono HB.size)⟩
theorem agree_any (x : Bool × Nat) (A : Option Addr) (n c : Nat) (w : World) (hn : Hid (n = (dg x.2).length)) (hr : Rd w A (B8 (dg x.2))) :
    Calls Try.prog 14 #[.string (mks (tS x)), .int .i64 (tE x), .agg #[.bool x.1, .slice A n c], .int .i64 0] w fun e w' => e = .returned (.bool true) ∧ Below w.heap.size w w' := by
  by_cases h : (dg x.2).length ≤ 400
  · rw [tS_le h, tE_le h]; exact agree_le x A n c w hn hr (by have := hn.out; omega)
  · rw [tS_gt h, tE_gt h]; exact agree_gt x.1 A n c w (by have := hn.out; omega)
end Go.Proofs.Ytgnddobonboloaa
