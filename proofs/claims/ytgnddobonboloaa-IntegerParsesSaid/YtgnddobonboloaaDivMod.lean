/- The walk of DivMod of integer. -/
import Derived.Test.YtgnddobonboloaaDivide
import Derived.Test.YtgnddobonboloaaAdd
namespace Go.Proofs.Ytgnddobonboloaa
open Go.RowKit

theorem dg_pos_len {n m : Nat} (hn : Hid (n = (dg m).length)) (h : m ≠ 0) : 0 < n := by
  have h1 := hn.out
  have : (dg m).length ≠ 0 := fun h' => h (dg_length_zero.1 h')
  omega
theorem dg_succ_len {m k : Nat} (h : (dg m).length ≤ k) : (dg (m + 1)).length ≤ k + 1 := by
  have h1 := dg_len_le.1 h
  refine dg_len_le.2 ?_
  rw [Nat.pow_succ]; omega
theorem dg_one : dg 1 = [1] := by rw [dg_pos (by omega)]; simp [dg_zero]

def dmQ (x y : Bool × Nat) : Nat := if x.1 ≠ y.1 ∧ x.2 % y.2 ≠ 0 then x.2 / y.2 + 1 else x.2 / y.2
def dmR (x y : Bool × Nat) : Nat := if x.1 ≠ y.1 ∧ x.2 % y.2 ≠ 0 then y.2 - x.2 % y.2 else x.2 % y.2
def dmQN (x y : Bool × Nat) : Bool × Nat := (x.1 != y.1 && decide (0 < dmQ x y), dmQ x y)
def dmRN (x y : Bool × Nat) : Bool × Nat := (y.1 && decide (0 < dmR x y), dmR x y)

set_option maxHeartbeats 2000000 in
theorem divmod_zero (l r : List Nat) (x y : Bool × Nat) (w : World) (hl : By l) (hr : By r) (h : parseC l = some x) (h' : parseC r = some y) (hy0 : y.2 = 0) : Calls Try.prog 26 #[.string (mks l), .string (mks r)] w fun e w' =>
    e = .returned (.tuple #[.string (mks []), .string (mks []), .int .i64 27]) ∧ Below w.heap.size w w' := by
  have H := two_ok l r x y w hl hr h h'
  clear h h'
  obtain ⟨x1, x2⟩ := x
  obtain ⟨y1, y2⟩ := y
  dsimp only at hy0
  subst hy0
  have HT := Lib.hid H
  clear H
  go_enter Try.func26, Try.ntmps26
  go_upto_region 4 with (go_at_call 55; go_loud (refine HT.out.mono ?_; rintro e w1 ⟨hb1, A, A', n, n', c, c', rfl, hn, hn4, hc, hr1, hn', hn4', hc', hr1'⟩))
  have hn0 : n' = 0 := by rw [hn'.out, dg_zero]; rfl
  subst hn0
  go_wp2
  go_ret3
  exact ⟨rfl, (hb1.alloc hb1.size _).alloc (by have := hb1.size; simp; omega) _⟩

set_option maxHeartbeats 4000000 in
theorem divmod_a (l r : List Nat) (x2 y2 : Nat) (w : World) (hl : By l) (hr : By r) (h : parseC l = some (false, x2)) (h' : parseC r = some (false, y2)) (hy0 : y2 ≠ 0) (_h : True) : Calls Try.prog 26 #[.string (mks l), .string (mks r)] w fun e w' =>
    e = .returned (.tuple #[.string (mks (tS (false, x2/y2))), .string (mks (tS (false, x2%y2))), .int .i64 0]) ∧ Below w.heap.size w w' := by
  have H := two_ok l r (false, x2) (false, y2) w hl hr h h'
  clear h h'
  have HT := Lib.hid H
  clear H
  go_enter Try.func26, Try.ntmps26
  go_upto_region 4 with (go_at_call 55; go_loud (refine HT.out.mono ?_; rintro e w1 ⟨hb1, A, A', n, n', c, c', rfl, hn, hn4, hc, hr1, hn', hn4', hc', hr1'⟩))
  have hn0 : 0 < n' := by have h1 := hn'.out; have : (dg y2).length ≠ 0 := fun h => hy0 (dg_length_zero.1 h); (try dsimp only at h1); omega
  have hn0' : ((n' : Int) == 0) = false := by simp; omega
  obtain ⟨HX, HY, HB, HZ⟩ := two_box w1 62 62 [.bool false, .slice A n c] [.bool false, .slice A' n' c']
  have hrW := hr1.keep HB
  have hrW' := hr1'.keep HB
  have HBB : Below w.heap.size w ((w1.alloc (.cells #[.bool false, .slice A n c] 62)).alloc (.cells #[.bool false, .slice A' n' c'] 62)) := hb1.trans (HB.mono hb1.size)
  clear HB HZ
  generalize ((w1.alloc (.cells #[.bool false, .slice A n c] 62)).alloc (.cells #[.bool false, .slice A' n' c'] 62)) = W at *
  have x0 := HX.out.cell' (i := 0) rfl
  have x1' := HX.out.cell' (i := 1) rfl
  have y0 := HY.out.cell' (i := 0) rfl
  have y1' := HY.out.cell' (i := 1) rfl
  have hdv := divide_any A A' n c n' c' x2 y2 W hn hn' hrW hrW' (by omega) (by omega) (by omega)
  have HDV := Lib.hid hdv
  clear hdv
  go_upto_region 7 with (go_at_call 57; go_loud (refine HDV.out.mono ?_; rintro e w5 ⟨Aq, nq, cq, Ar, nr, cr, rfl, hnq, hcq, hrq, hfq, hnr, hcr, hrr, hb5⟩))
  have HX5 := Lib.hid (HX.out.keep hb5)
  have HY5 := Lib.hid (HY.out.keep hb5)
  have x05 := HX5.out.cell' (i := 0) rfl
  have y05 := HY5.out.cell' (i := 0) rfl
  have y15 := HY5.out.cell' (i := 1) rfl
  have hrW5 := hrW'.keep hb5
  have HB5 : Below w.heap.size w w5 := HBB.trans (hb5.mono HBB.size)
  have hnqb : nq ≤ 400 := by
    have h1 := hnq.out
    have := dg_len_mono (Nat.div_le_self x2 y2)
    have := hn.out
    (try dsimp only at this)
    omega
  have hnrb : nr ≤ 400 := by
    have h1 := hnr.out
    have := dg_len_mono (Nat.le_of_lt (Nat.mod_lt x2 (show 0 < y2 by omega)))
    have := hn'.out
    (try dsimp only at this)
    omega
  clear x0 x1' y0 y1' hb5 HDV hrW hrW'
  skip
  skip
  (go_upto_region 11 with (go_at_call 42; go_loud (refine (text2_any _ Aq _ cq (x2 / y2) w5 hnq hrq (by omega)).mono ?_; rintro e w6 ⟨rfl, hb6⟩; have y06 := (HY5.out.keep hb6).cell' (i := 0) rfl; have hrr6 := hrr.keep hb6)); go_wp2_with (go_at_call 42; go_loud (refine (text2_any _ Ar _ cr (x2 % y2) _ hnr hrr6 (by omega)).mono ?_; rintro e w7 ⟨rfl, hb7⟩)); go_ret3; exact ⟨rfl, (HB5.trans (hb6.mono HB5.size)).trans (hb7.mono (by have := HB5.size; have := hb6.size; omega))⟩)
set_option maxHeartbeats 4000000 in
theorem divmod_b (l r : List Nat) (x2 y2 : Nat) (w : World) (hl : By l) (hr : By r) (h : parseC l = some (true, x2)) (h' : parseC r = some (true, y2)) (hy0 : y2 ≠ 0) (H0 : Hid (x2 % y2 = 0)) : Calls Try.prog 26 #[.string (mks l), .string (mks r)] w fun e w' =>
    e = .returned (.tuple #[.string (mks (tS (false, x2/y2))), .string (mks (tS (false, x2%y2))), .int .i64 0]) ∧ Below w.heap.size w w' := by
  have H := two_ok l r (true, x2) (true, y2) w hl hr h h'
  clear h h'
  have HT := Lib.hid H
  clear H
  go_enter Try.func26, Try.ntmps26
  go_upto_region 4 with (go_at_call 55; go_loud (refine HT.out.mono ?_; rintro e w1 ⟨hb1, A, A', n, n', c, c', rfl, hn, hn4, hc, hr1, hn', hn4', hc', hr1'⟩))
  have hn0 : 0 < n' := by have h1 := hn'.out; have : (dg y2).length ≠ 0 := fun h => hy0 (dg_length_zero.1 h); (try dsimp only at h1); omega
  have hn0' : ((n' : Int) == 0) = false := by simp; omega
  obtain ⟨HX, HY, HB, HZ⟩ := two_box w1 62 62 [.bool true, .slice A n c] [.bool true, .slice A' n' c']
  have hrW := hr1.keep HB
  have hrW' := hr1'.keep HB
  have HBB : Below w.heap.size w ((w1.alloc (.cells #[.bool true, .slice A n c] 62)).alloc (.cells #[.bool true, .slice A' n' c'] 62)) := hb1.trans (HB.mono hb1.size)
  clear HB HZ
  generalize ((w1.alloc (.cells #[.bool true, .slice A n c] 62)).alloc (.cells #[.bool true, .slice A' n' c'] 62)) = W at *
  have x0 := HX.out.cell' (i := 0) rfl
  have x1' := HX.out.cell' (i := 1) rfl
  have y0 := HY.out.cell' (i := 0) rfl
  have y1' := HY.out.cell' (i := 1) rfl
  have hdv := divide_any A A' n c n' c' x2 y2 W hn hn' hrW hrW' (by omega) (by omega) (by omega)
  have HDV := Lib.hid hdv
  clear hdv
  go_upto_region 7 with (go_at_call 57; go_loud (refine HDV.out.mono ?_; rintro e w5 ⟨Aq, nq, cq, Ar, nr, cr, rfl, hnq, hcq, hrq, hfq, hnr, hcr, hrr, hb5⟩))
  have HX5 := Lib.hid (HX.out.keep hb5)
  have HY5 := Lib.hid (HY.out.keep hb5)
  have x05 := HX5.out.cell' (i := 0) rfl
  have y05 := HY5.out.cell' (i := 0) rfl
  have y15 := HY5.out.cell' (i := 1) rfl
  have hrW5 := hrW'.keep hb5
  have HB5 : Below w.heap.size w w5 := HBB.trans (hb5.mono HBB.size)
  have hnqb : nq ≤ 400 := by
    have h1 := hnq.out
    have := dg_len_mono (Nat.div_le_self x2 y2)
    have := hn.out
    (try dsimp only at this)
    omega
  have hnrb : nr ≤ 400 := by
    have h1 := hnr.out
    have := dg_len_mono (Nat.le_of_lt (Nat.mod_lt x2 (show 0 < y2 by omega)))
    have := hn'.out
    (try dsimp only at this)
    omega
  clear x0 x1' y0 y1' hb5 HDV hrW hrW'
  (obtain rfl : nr = 0 := by rw [hnr.out, H0.out, dg_zero]; rfl)
  skip
  (go_upto_region 11 with (go_at_call 42; go_loud (refine (text2_any _ Aq _ cq (x2 / y2) w5 hnq hrq (by omega)).mono ?_; rintro e w6 ⟨rfl, hb6⟩; have y06 := (HY5.out.keep hb6).cell' (i := 0) rfl; have hrr6 := hrr.keep hb6)); go_wp2_with (go_at_call 42; go_loud (refine (text2_any _ Ar _ cr (x2 % y2) _ hnr hrr6 (by omega)).mono ?_; rintro e w7 ⟨rfl, hb7⟩)); go_ret3; exact ⟨rfl, (HB5.trans (hb6.mono HB5.size)).trans (hb7.mono (by have := HB5.size; have := hb6.size; omega))⟩)
set_option maxHeartbeats 4000000 in
theorem divmod_c (l r : List Nat) (x2 y2 : Nat) (w : World) (hl : By l) (hr : By r) (h : parseC l = some (true, x2)) (h' : parseC r = some (true, y2)) (hy0 : y2 ≠ 0) (h0 : x2 % y2 ≠ 0) : Calls Try.prog 26 #[.string (mks l), .string (mks r)] w fun e w' =>
    e = .returned (.tuple #[.string (mks (tS (false, x2/y2))), .string (mks (tS (true, x2%y2))), .int .i64 0]) ∧ Below w.heap.size w w' := by
  have H := two_ok l r (true, x2) (true, y2) w hl hr h h'
  clear h h'
  have HT := Lib.hid H
  clear H
  go_enter Try.func26, Try.ntmps26
  go_upto_region 4 with (go_at_call 55; go_loud (refine HT.out.mono ?_; rintro e w1 ⟨hb1, A, A', n, n', c, c', rfl, hn, hn4, hc, hr1, hn', hn4', hc', hr1'⟩))
  have hn0 : 0 < n' := by have h1 := hn'.out; have : (dg y2).length ≠ 0 := fun h => hy0 (dg_length_zero.1 h); (try dsimp only at h1); omega
  have hn0' : ((n' : Int) == 0) = false := by simp; omega
  obtain ⟨HX, HY, HB, HZ⟩ := two_box w1 62 62 [.bool true, .slice A n c] [.bool true, .slice A' n' c']
  have hrW := hr1.keep HB
  have hrW' := hr1'.keep HB
  have HBB : Below w.heap.size w ((w1.alloc (.cells #[.bool true, .slice A n c] 62)).alloc (.cells #[.bool true, .slice A' n' c'] 62)) := hb1.trans (HB.mono hb1.size)
  clear HB HZ
  generalize ((w1.alloc (.cells #[.bool true, .slice A n c] 62)).alloc (.cells #[.bool true, .slice A' n' c'] 62)) = W at *
  have x0 := HX.out.cell' (i := 0) rfl
  have x1' := HX.out.cell' (i := 1) rfl
  have y0 := HY.out.cell' (i := 0) rfl
  have y1' := HY.out.cell' (i := 1) rfl
  have hdv := divide_any A A' n c n' c' x2 y2 W hn hn' hrW hrW' (by omega) (by omega) (by omega)
  have HDV := Lib.hid hdv
  clear hdv
  go_upto_region 7 with (go_at_call 57; go_loud (refine HDV.out.mono ?_; rintro e w5 ⟨Aq, nq, cq, Ar, nr, cr, rfl, hnq, hcq, hrq, hfq, hnr, hcr, hrr, hb5⟩))
  have HX5 := Lib.hid (HX.out.keep hb5)
  have HY5 := Lib.hid (HY.out.keep hb5)
  have x05 := HX5.out.cell' (i := 0) rfl
  have y05 := HY5.out.cell' (i := 0) rfl
  have y15 := HY5.out.cell' (i := 1) rfl
  have hrW5 := hrW'.keep hb5
  have HB5 : Below w.heap.size w w5 := HBB.trans (hb5.mono HBB.size)
  have hnqb : nq ≤ 400 := by
    have h1 := hnq.out
    have := dg_len_mono (Nat.div_le_self x2 y2)
    have := hn.out
    (try dsimp only at this)
    omega
  have hnrb : nr ≤ 400 := by
    have h1 := hnr.out
    have := dg_len_mono (Nat.le_of_lt (Nat.mod_lt x2 (show 0 < y2 by omega)))
    have := hn'.out
    (try dsimp only at this)
    omega
  clear x0 x1' y0 y1' hb5 HDV hrW hrW'
  (have hnr0 : 0 < nr := by have h1 := hnr.out; have : (dg (x2 % y2)).length ≠ 0 := fun h => h0 (dg_length_zero.1 h); omega)
  skip
  (go_upto_region 11 with (go_at_call 42; go_loud (refine (text2_any _ Aq _ cq (x2 / y2) w5 hnq hrq (by omega)).mono ?_; rintro e w6 ⟨rfl, hb6⟩; have y06 := (HY5.out.keep hb6).cell' (i := 0) rfl; have hrr6 := hrr.keep hb6)); go_wp2_with (go_at_call 42; go_loud (refine (text2_any _ Ar _ cr (x2 % y2) _ hnr hrr6 (by omega)).mono ?_; rintro e w7 ⟨rfl, hb7⟩)); go_ret3; exact ⟨rfl, (HB5.trans (hb6.mono HB5.size)).trans (hb7.mono (by have := HB5.size; have := hb6.size; omega))⟩)
set_option maxHeartbeats 4000000 in
theorem divmod_d1 (l r : List Nat) (x2 y2 : Nat) (w : World) (hl : By l) (hr : By r) (h : parseC l = some (false, x2)) (h' : parseC r = some (true, y2)) (hy0 : y2 ≠ 0) (H0 : Hid (x2 % y2 = 0)) (HQ0 : Hid (x2 / y2 = 0)) : Calls Try.prog 26 #[.string (mks l), .string (mks r)] w fun e w' =>
    e = .returned (.tuple #[.string (mks (tS (false, x2/y2))), .string (mks (tS (false, x2%y2))), .int .i64 0]) ∧ Below w.heap.size w w' := by
  have H := two_ok l r (false, x2) (true, y2) w hl hr h h'
  clear h h'
  have HT := Lib.hid H
  clear H
  go_enter Try.func26, Try.ntmps26
  go_upto_region 4 with (go_at_call 55; go_loud (refine HT.out.mono ?_; rintro e w1 ⟨hb1, A, A', n, n', c, c', rfl, hn, hn4, hc, hr1, hn', hn4', hc', hr1'⟩))
  have hn0 : 0 < n' := by have h1 := hn'.out; have : (dg y2).length ≠ 0 := fun h => hy0 (dg_length_zero.1 h); (try dsimp only at h1); omega
  have hn0' : ((n' : Int) == 0) = false := by simp; omega
  obtain ⟨HX, HY, HB, HZ⟩ := two_box w1 62 62 [.bool false, .slice A n c] [.bool true, .slice A' n' c']
  have hrW := hr1.keep HB
  have hrW' := hr1'.keep HB
  have HBB : Below w.heap.size w ((w1.alloc (.cells #[.bool false, .slice A n c] 62)).alloc (.cells #[.bool true, .slice A' n' c'] 62)) := hb1.trans (HB.mono hb1.size)
  clear HB HZ
  generalize ((w1.alloc (.cells #[.bool false, .slice A n c] 62)).alloc (.cells #[.bool true, .slice A' n' c'] 62)) = W at *
  have x0 := HX.out.cell' (i := 0) rfl
  have x1' := HX.out.cell' (i := 1) rfl
  have y0 := HY.out.cell' (i := 0) rfl
  have y1' := HY.out.cell' (i := 1) rfl
  have hdv := divide_any A A' n c n' c' x2 y2 W hn hn' hrW hrW' (by omega) (by omega) (by omega)
  have HDV := Lib.hid hdv
  clear hdv
  go_upto_region 7 with (go_at_call 57; go_loud (refine HDV.out.mono ?_; rintro e w5 ⟨Aq, nq, cq, Ar, nr, cr, rfl, hnq, hcq, hrq, hfq, hnr, hcr, hrr, hb5⟩))
  have HX5 := Lib.hid (HX.out.keep hb5)
  have HY5 := Lib.hid (HY.out.keep hb5)
  have x05 := HX5.out.cell' (i := 0) rfl
  have y05 := HY5.out.cell' (i := 0) rfl
  have y15 := HY5.out.cell' (i := 1) rfl
  have hrW5 := hrW'.keep hb5
  have HB5 : Below w.heap.size w w5 := HBB.trans (hb5.mono HBB.size)
  have hnqb : nq ≤ 400 := by
    have h1 := hnq.out
    have := dg_len_mono (Nat.div_le_self x2 y2)
    have := hn.out
    (try dsimp only at this)
    omega
  have hnrb : nr ≤ 400 := by
    have h1 := hnr.out
    have := dg_len_mono (Nat.le_of_lt (Nat.mod_lt x2 (show 0 < y2 by omega)))
    have := hn'.out
    (try dsimp only at this)
    omega
  clear x0 x1' y0 y1' hb5 HDV hrW hrW'
  (obtain rfl : nr = 0 := by rw [hnr.out, H0.out, dg_zero]; rfl)
  (obtain rfl : nq = 0 := by rw [hnq.out, HQ0.out, dg_zero]; rfl)
  (go_upto_region 11 with (go_at_call 42; go_loud (refine (text2_any _ Aq _ cq (x2 / y2) w5 hnq hrq (by omega)).mono ?_; rintro e w6 ⟨rfl, hb6⟩; have y06 := (HY5.out.keep hb6).cell' (i := 0) rfl; have hrr6 := hrr.keep hb6)); go_wp2_with (go_at_call 42; go_loud (refine (text2_any _ Ar _ cr (x2 % y2) _ hnr hrr6 (by omega)).mono ?_; rintro e w7 ⟨rfl, hb7⟩)); go_ret3; exact ⟨rfl, (HB5.trans (hb6.mono HB5.size)).trans (hb7.mono (by have := HB5.size; have := hb6.size; omega))⟩)
set_option maxHeartbeats 4000000 in
theorem divmod_d2 (l r : List Nat) (x2 y2 : Nat) (w : World) (hl : By l) (hr : By r) (h : parseC l = some (true, x2)) (h' : parseC r = some (false, y2)) (hy0 : y2 ≠ 0) (H0 : Hid (x2 % y2 = 0)) (HQ0 : Hid (x2 / y2 = 0)) : Calls Try.prog 26 #[.string (mks l), .string (mks r)] w fun e w' =>
    e = .returned (.tuple #[.string (mks (tS (false, x2/y2))), .string (mks (tS (false, x2%y2))), .int .i64 0]) ∧ Below w.heap.size w w' := by
  have H := two_ok l r (true, x2) (false, y2) w hl hr h h'
  clear h h'
  have HT := Lib.hid H
  clear H
  go_enter Try.func26, Try.ntmps26
  go_upto_region 4 with (go_at_call 55; go_loud (refine HT.out.mono ?_; rintro e w1 ⟨hb1, A, A', n, n', c, c', rfl, hn, hn4, hc, hr1, hn', hn4', hc', hr1'⟩))
  have hn0 : 0 < n' := by have h1 := hn'.out; have : (dg y2).length ≠ 0 := fun h => hy0 (dg_length_zero.1 h); (try dsimp only at h1); omega
  have hn0' : ((n' : Int) == 0) = false := by simp; omega
  obtain ⟨HX, HY, HB, HZ⟩ := two_box w1 62 62 [.bool true, .slice A n c] [.bool false, .slice A' n' c']
  have hrW := hr1.keep HB
  have hrW' := hr1'.keep HB
  have HBB : Below w.heap.size w ((w1.alloc (.cells #[.bool true, .slice A n c] 62)).alloc (.cells #[.bool false, .slice A' n' c'] 62)) := hb1.trans (HB.mono hb1.size)
  clear HB HZ
  generalize ((w1.alloc (.cells #[.bool true, .slice A n c] 62)).alloc (.cells #[.bool false, .slice A' n' c'] 62)) = W at *
  have x0 := HX.out.cell' (i := 0) rfl
  have x1' := HX.out.cell' (i := 1) rfl
  have y0 := HY.out.cell' (i := 0) rfl
  have y1' := HY.out.cell' (i := 1) rfl
  have hdv := divide_any A A' n c n' c' x2 y2 W hn hn' hrW hrW' (by omega) (by omega) (by omega)
  have HDV := Lib.hid hdv
  clear hdv
  go_upto_region 7 with (go_at_call 57; go_loud (refine HDV.out.mono ?_; rintro e w5 ⟨Aq, nq, cq, Ar, nr, cr, rfl, hnq, hcq, hrq, hfq, hnr, hcr, hrr, hb5⟩))
  have HX5 := Lib.hid (HX.out.keep hb5)
  have HY5 := Lib.hid (HY.out.keep hb5)
  have x05 := HX5.out.cell' (i := 0) rfl
  have y05 := HY5.out.cell' (i := 0) rfl
  have y15 := HY5.out.cell' (i := 1) rfl
  have hrW5 := hrW'.keep hb5
  have HB5 : Below w.heap.size w w5 := HBB.trans (hb5.mono HBB.size)
  have hnqb : nq ≤ 400 := by
    have h1 := hnq.out
    have := dg_len_mono (Nat.div_le_self x2 y2)
    have := hn.out
    (try dsimp only at this)
    omega
  have hnrb : nr ≤ 400 := by
    have h1 := hnr.out
    have := dg_len_mono (Nat.le_of_lt (Nat.mod_lt x2 (show 0 < y2 by omega)))
    have := hn'.out
    (try dsimp only at this)
    omega
  clear x0 x1' y0 y1' hb5 HDV hrW hrW'
  (obtain rfl : nr = 0 := by rw [hnr.out, H0.out, dg_zero]; rfl)
  (obtain rfl : nq = 0 := by rw [hnq.out, HQ0.out, dg_zero]; rfl)
  (go_upto_region 11 with (go_at_call 42; go_loud (refine (text2_any _ Aq _ cq (x2 / y2) w5 hnq hrq (by omega)).mono ?_; rintro e w6 ⟨rfl, hb6⟩; have y06 := (HY5.out.keep hb6).cell' (i := 0) rfl; have hrr6 := hrr.keep hb6)); go_wp2_with (go_at_call 42; go_loud (refine (text2_any _ Ar _ cr (x2 % y2) _ hnr hrr6 (by omega)).mono ?_; rintro e w7 ⟨rfl, hb7⟩)); go_ret3; exact ⟨rfl, (HB5.trans (hb6.mono HB5.size)).trans (hb7.mono (by have := HB5.size; have := hb6.size; omega))⟩)
set_option maxHeartbeats 4000000 in
theorem divmod_e1 (l r : List Nat) (x2 y2 : Nat) (w : World) (hl : By l) (hr : By r) (h : parseC l = some (false, x2)) (h' : parseC r = some (true, y2)) (hy0 : y2 ≠ 0) (H0 : Hid (x2 % y2 = 0)) (hq0 : x2 / y2 ≠ 0) : Calls Try.prog 26 #[.string (mks l), .string (mks r)] w fun e w' =>
    e = .returned (.tuple #[.string (mks (tS (true, x2/y2))), .string (mks (tS (false, x2%y2))), .int .i64 0]) ∧ Below w.heap.size w w' := by
  have H := two_ok l r (false, x2) (true, y2) w hl hr h h'
  clear h h'
  have HT := Lib.hid H
  clear H
  go_enter Try.func26, Try.ntmps26
  go_upto_region 4 with (go_at_call 55; go_loud (refine HT.out.mono ?_; rintro e w1 ⟨hb1, A, A', n, n', c, c', rfl, hn, hn4, hc, hr1, hn', hn4', hc', hr1'⟩))
  have hn0 : 0 < n' := by have h1 := hn'.out; have : (dg y2).length ≠ 0 := fun h => hy0 (dg_length_zero.1 h); (try dsimp only at h1); omega
  have hn0' : ((n' : Int) == 0) = false := by simp; omega
  obtain ⟨HX, HY, HB, HZ⟩ := two_box w1 62 62 [.bool false, .slice A n c] [.bool true, .slice A' n' c']
  have hrW := hr1.keep HB
  have hrW' := hr1'.keep HB
  have HBB : Below w.heap.size w ((w1.alloc (.cells #[.bool false, .slice A n c] 62)).alloc (.cells #[.bool true, .slice A' n' c'] 62)) := hb1.trans (HB.mono hb1.size)
  clear HB HZ
  generalize ((w1.alloc (.cells #[.bool false, .slice A n c] 62)).alloc (.cells #[.bool true, .slice A' n' c'] 62)) = W at *
  have x0 := HX.out.cell' (i := 0) rfl
  have x1' := HX.out.cell' (i := 1) rfl
  have y0 := HY.out.cell' (i := 0) rfl
  have y1' := HY.out.cell' (i := 1) rfl
  have hdv := divide_any A A' n c n' c' x2 y2 W hn hn' hrW hrW' (by omega) (by omega) (by omega)
  have HDV := Lib.hid hdv
  clear hdv
  go_upto_region 7 with (go_at_call 57; go_loud (refine HDV.out.mono ?_; rintro e w5 ⟨Aq, nq, cq, Ar, nr, cr, rfl, hnq, hcq, hrq, hfq, hnr, hcr, hrr, hb5⟩))
  have HX5 := Lib.hid (HX.out.keep hb5)
  have HY5 := Lib.hid (HY.out.keep hb5)
  have x05 := HX5.out.cell' (i := 0) rfl
  have y05 := HY5.out.cell' (i := 0) rfl
  have y15 := HY5.out.cell' (i := 1) rfl
  have hrW5 := hrW'.keep hb5
  have HB5 : Below w.heap.size w w5 := HBB.trans (hb5.mono HBB.size)
  have hnqb : nq ≤ 400 := by
    have h1 := hnq.out
    have := dg_len_mono (Nat.div_le_self x2 y2)
    have := hn.out
    (try dsimp only at this)
    omega
  have hnrb : nr ≤ 400 := by
    have h1 := hnr.out
    have := dg_len_mono (Nat.le_of_lt (Nat.mod_lt x2 (show 0 < y2 by omega)))
    have := hn'.out
    (try dsimp only at this)
    omega
  clear x0 x1' y0 y1' hb5 HDV hrW hrW'
  (obtain rfl : nr = 0 := by rw [hnr.out, H0.out, dg_zero]; rfl)
  (have hnq0 : 0 < nq := by have h1 := hnq.out; have : (dg (x2 / y2)).length ≠ 0 := fun h => hq0 (dg_length_zero.1 h); omega)
  (go_upto_region 11 with (go_at_call 42; go_loud (refine (text2_any _ Aq _ cq (x2 / y2) w5 hnq hrq (by omega)).mono ?_; rintro e w6 ⟨rfl, hb6⟩; have y06 := (HY5.out.keep hb6).cell' (i := 0) rfl; have hrr6 := hrr.keep hb6)); go_wp2_with (go_at_call 42; go_loud (refine (text2_any _ Ar _ cr (x2 % y2) _ hnr hrr6 (by omega)).mono ?_; rintro e w7 ⟨rfl, hb7⟩)); go_ret3; exact ⟨rfl, (HB5.trans (hb6.mono HB5.size)).trans (hb7.mono (by have := HB5.size; have := hb6.size; omega))⟩)
set_option maxHeartbeats 4000000 in
theorem divmod_e2 (l r : List Nat) (x2 y2 : Nat) (w : World) (hl : By l) (hr : By r) (h : parseC l = some (true, x2)) (h' : parseC r = some (false, y2)) (hy0 : y2 ≠ 0) (H0 : Hid (x2 % y2 = 0)) (hq0 : x2 / y2 ≠ 0) : Calls Try.prog 26 #[.string (mks l), .string (mks r)] w fun e w' =>
    e = .returned (.tuple #[.string (mks (tS (true, x2/y2))), .string (mks (tS (false, x2%y2))), .int .i64 0]) ∧ Below w.heap.size w w' := by
  have H := two_ok l r (true, x2) (false, y2) w hl hr h h'
  clear h h'
  have HT := Lib.hid H
  clear H
  go_enter Try.func26, Try.ntmps26
  go_upto_region 4 with (go_at_call 55; go_loud (refine HT.out.mono ?_; rintro e w1 ⟨hb1, A, A', n, n', c, c', rfl, hn, hn4, hc, hr1, hn', hn4', hc', hr1'⟩))
  have hn0 : 0 < n' := by have h1 := hn'.out; have : (dg y2).length ≠ 0 := fun h => hy0 (dg_length_zero.1 h); (try dsimp only at h1); omega
  have hn0' : ((n' : Int) == 0) = false := by simp; omega
  obtain ⟨HX, HY, HB, HZ⟩ := two_box w1 62 62 [.bool true, .slice A n c] [.bool false, .slice A' n' c']
  have hrW := hr1.keep HB
  have hrW' := hr1'.keep HB
  have HBB : Below w.heap.size w ((w1.alloc (.cells #[.bool true, .slice A n c] 62)).alloc (.cells #[.bool false, .slice A' n' c'] 62)) := hb1.trans (HB.mono hb1.size)
  clear HB HZ
  generalize ((w1.alloc (.cells #[.bool true, .slice A n c] 62)).alloc (.cells #[.bool false, .slice A' n' c'] 62)) = W at *
  have x0 := HX.out.cell' (i := 0) rfl
  have x1' := HX.out.cell' (i := 1) rfl
  have y0 := HY.out.cell' (i := 0) rfl
  have y1' := HY.out.cell' (i := 1) rfl
  have hdv := divide_any A A' n c n' c' x2 y2 W hn hn' hrW hrW' (by omega) (by omega) (by omega)
  have HDV := Lib.hid hdv
  clear hdv
  go_upto_region 7 with (go_at_call 57; go_loud (refine HDV.out.mono ?_; rintro e w5 ⟨Aq, nq, cq, Ar, nr, cr, rfl, hnq, hcq, hrq, hfq, hnr, hcr, hrr, hb5⟩))
  have HX5 := Lib.hid (HX.out.keep hb5)
  have HY5 := Lib.hid (HY.out.keep hb5)
  have x05 := HX5.out.cell' (i := 0) rfl
  have y05 := HY5.out.cell' (i := 0) rfl
  have y15 := HY5.out.cell' (i := 1) rfl
  have hrW5 := hrW'.keep hb5
  have HB5 : Below w.heap.size w w5 := HBB.trans (hb5.mono HBB.size)
  have hnqb : nq ≤ 400 := by
    have h1 := hnq.out
    have := dg_len_mono (Nat.div_le_self x2 y2)
    have := hn.out
    (try dsimp only at this)
    omega
  have hnrb : nr ≤ 400 := by
    have h1 := hnr.out
    have := dg_len_mono (Nat.le_of_lt (Nat.mod_lt x2 (show 0 < y2 by omega)))
    have := hn'.out
    (try dsimp only at this)
    omega
  clear x0 x1' y0 y1' hb5 HDV hrW hrW'
  (obtain rfl : nr = 0 := by rw [hnr.out, H0.out, dg_zero]; rfl)
  (have hnq0 : 0 < nq := by have h1 := hnq.out; have : (dg (x2 / y2)).length ≠ 0 := fun h => hq0 (dg_length_zero.1 h); omega)
  (go_upto_region 11 with (go_at_call 42; go_loud (refine (text2_any _ Aq _ cq (x2 / y2) w5 hnq hrq (by omega)).mono ?_; rintro e w6 ⟨rfl, hb6⟩; have y06 := (HY5.out.keep hb6).cell' (i := 0) rfl; have hrr6 := hrr.keep hb6)); go_wp2_with (go_at_call 42; go_loud (refine (text2_any _ Ar _ cr (x2 % y2) _ hnr hrr6 (by omega)).mono ?_; rintro e w7 ⟨rfl, hb7⟩)); go_ret3; exact ⟨rfl, (HB5.trans (hb6.mono HB5.size)).trans (hb7.mono (by have := HB5.size; have := hb6.size; omega))⟩)
set_option maxHeartbeats 4000000 in
theorem divmod_f1 (l r : List Nat) (x2 y2 : Nat) (w : World) (hl : By l) (hr : By r) (h : parseC l = some (false, x2)) (h' : parseC r = some (true, y2)) (hy0 : y2 ≠ 0) (h0 : x2 % y2 ≠ 0) : Calls Try.prog 26 #[.string (mks l), .string (mks r)] w fun e w' =>
    e = .returned (.tuple #[.string (mks (tS (true, x2/y2+1))), .string (mks (tS (true, y2-x2%y2))), .int .i64 0]) ∧ Below w.heap.size w w' := by
  have H := two_ok l r (false, x2) (true, y2) w hl hr h h'
  clear h h'
  have HT := Lib.hid H
  clear H
  go_enter Try.func26, Try.ntmps26
  go_upto_region 4 with (go_at_call 55; go_loud (refine HT.out.mono ?_; rintro e w1 ⟨hb1, A, A', n, n', c, c', rfl, hn, hn4, hc, hr1, hn', hn4', hc', hr1'⟩))
  have hn0 : 0 < n' := by have h1 := hn'.out; have : (dg y2).length ≠ 0 := fun h => hy0 (dg_length_zero.1 h); (try dsimp only at h1); omega
  have hn0' : ((n' : Int) == 0) = false := by simp; omega
  obtain ⟨HX, HY, HB, HZ⟩ := two_box w1 62 62 [.bool false, .slice A n c] [.bool true, .slice A' n' c']
  have hrW := hr1.keep HB
  have hrW' := hr1'.keep HB
  have HBB : Below w.heap.size w ((w1.alloc (.cells #[.bool false, .slice A n c] 62)).alloc (.cells #[.bool true, .slice A' n' c'] 62)) := hb1.trans (HB.mono hb1.size)
  clear HB HZ
  generalize ((w1.alloc (.cells #[.bool false, .slice A n c] 62)).alloc (.cells #[.bool true, .slice A' n' c'] 62)) = W at *
  have x0 := HX.out.cell' (i := 0) rfl
  have x1' := HX.out.cell' (i := 1) rfl
  have y0 := HY.out.cell' (i := 0) rfl
  have y1' := HY.out.cell' (i := 1) rfl
  have hdv := divide_any A A' n c n' c' x2 y2 W hn hn' hrW hrW' (by omega) (by omega) (by omega)
  have HDV := Lib.hid hdv
  clear hdv
  go_upto_region 7 with (go_at_call 57; go_loud (refine HDV.out.mono ?_; rintro e w5 ⟨Aq, nq, cq, Ar, nr, cr, rfl, hnq, hcq, hrq, hfq, hnr, hcr, hrr, hb5⟩))
  have HX5 := Lib.hid (HX.out.keep hb5)
  have HY5 := Lib.hid (HY.out.keep hb5)
  have x05 := HX5.out.cell' (i := 0) rfl
  have y05 := HY5.out.cell' (i := 0) rfl
  have y15 := HY5.out.cell' (i := 1) rfl
  have hrW5 := hrW'.keep hb5
  have HB5 : Below w.heap.size w w5 := HBB.trans (hb5.mono HBB.size)
  have hnqb : nq ≤ 400 := by
    have h1 := hnq.out
    have := dg_len_mono (Nat.div_le_self x2 y2)
    have := hn.out
    (try dsimp only at this)
    omega
  have hnrb : nr ≤ 400 := by
    have h1 := hnr.out
    have := dg_len_mono (Nat.le_of_lt (Nat.mod_lt x2 (show 0 < y2 by omega)))
    have := hn'.out
    (try dsimp only at this)
    omega
  clear x0 x1' y0 y1' hb5 HDV hrW hrW'
  (have hnr0 : 0 < nr := by have h1 := hnr.out; have : (dg (x2 % y2)).length ≠ 0 := fun h => h0 (dg_length_zero.1 h); omega)
  skip
  (go_upto_region 9 with (go_at_call 51; go_loud (refine (plus_any Aq (some ⟨w5.heap.size, 0, none⟩) nq cq 1 1 (x2 / y2) 1 _ hnq (by show _ = _; rw [dg_one]; rfl) (hrq.alloc _) (by rw [dg_one]; exact (Arr.new w5 _ [.int .u8 1]).rd) (by omega) (by omega)).mono ?_; rintro e w6 ⟨A6, n6, c6, rfl, hn6, hc6, hr6, hf6, hb6⟩)); have hb6' : Below w5.heap.size w5 w6 := ((Below.refl _ w5).alloc (Nat.le_refl _) _).trans (hb6.mono (by simp)); have HX6 := Lib.hid (HX5.out.keep hb6'); have HY6 := Lib.hid (HY5.out.keep hb6'); have y16 := HY6.out.cell' (i := 1) rfl; have hrr6 := hrr.keep hb6'; have hrW6 := hrW5.keep hb6'; go_upto_region 10 with (go_at_call 58; go_loud (refine (minus_any A' Ar n' c' nr cr y2 (x2 % y2) w6 hn' hnr hrW6 hrr6 (by omega) (Nat.le_of_lt (Nat.mod_lt x2 (by omega)))).mono ?_; rintro e w7 ⟨A7, n7, c7, rfl, hn7, hc7, hr7, hf7, hb7⟩)); have HX7 := Lib.hid (HX6.out.keep hb7); have HY7 := Lib.hid (HY6.out.keep hb7); have x07 := HX7.out.cell' (i := 0) rfl; have y07 := HY7.out.cell' (i := 0) rfl; have hr67 := hr6.keep hb7; have hn6' : Hid (n6 = (dg (x2 / y2 + 1)).length) := (by have := hn6.out; rw [length_B8] at this; exact this); have hn7' : Hid (n7 = (dg (y2 - x2 % y2)).length) := (by have := hn7.out; rw [length_B8] at this; exact this); have hn60 : 0 < n6 := dg_pos_len hn6' (Nat.succ_ne_zero _); have hn70 : 0 < n7 := dg_pos_len hn7' (by have := Nat.mod_lt x2 (show 0 < y2 by omega); omega); have hn6b : n6 ≤ 401 := (by have h1 := hn6'.out; have h2 := dg_succ_len (show (dg (x2 / y2)).length ≤ 400 by have := hnq.out; omega); omega); have hn7b : n7 ≤ 400 := (by have h1 := hn7'.out; have := dg_len_mono (Nat.sub_le y2 (x2 % y2)); have := hn'.out; (try dsimp only at this); omega); go_upto_region 11 with (go_at_call 42; go_loud (refine (text2_any _ A6 _ c6 (x2 / y2 + 1) w7 hn6' hr67 (by omega)).mono ?_; rintro e w8 ⟨rfl, hb8⟩; have y08 := (HY7.out.keep hb8).cell' (i := 0) rfl; have hr78 := hr7.keep hb8)); go_wp2_with (go_at_call 42; go_loud (refine (text2_any _ A7 _ c7 (y2 - x2 % y2) _ hn7' hr78 (by omega)).mono ?_; rintro e w9 ⟨rfl, hb9⟩)); go_ret3; exact ⟨rfl, (((HB5.trans (hb6'.mono HB5.size)).trans (hb7.mono (by have := HB5.size; have := hb6'.size; omega))).trans (hb8.mono (by have := HB5.size; have := hb6'.size; have := hb7.size; omega))).trans (hb9.mono (by have := HB5.size; have := hb6'.size; have := hb7.size; have := hb8.size; omega))⟩)
set_option maxHeartbeats 4000000 in
theorem divmod_f2 (l r : List Nat) (x2 y2 : Nat) (w : World) (hl : By l) (hr : By r) (h : parseC l = some (true, x2)) (h' : parseC r = some (false, y2)) (hy0 : y2 ≠ 0) (h0 : x2 % y2 ≠ 0) : Calls Try.prog 26 #[.string (mks l), .string (mks r)] w fun e w' =>
    e = .returned (.tuple #[.string (mks (tS (true, x2/y2+1))), .string (mks (tS (false, y2-x2%y2))), .int .i64 0]) ∧ Below w.heap.size w w' := by
  have H := two_ok l r (true, x2) (false, y2) w hl hr h h'
  clear h h'
  have HT := Lib.hid H
  clear H
  go_enter Try.func26, Try.ntmps26
  go_upto_region 4 with (go_at_call 55; go_loud (refine HT.out.mono ?_; rintro e w1 ⟨hb1, A, A', n, n', c, c', rfl, hn, hn4, hc, hr1, hn', hn4', hc', hr1'⟩))
  have hn0 : 0 < n' := by have h1 := hn'.out; have : (dg y2).length ≠ 0 := fun h => hy0 (dg_length_zero.1 h); (try dsimp only at h1); omega
  have hn0' : ((n' : Int) == 0) = false := by simp; omega
  obtain ⟨HX, HY, HB, HZ⟩ := two_box w1 62 62 [.bool true, .slice A n c] [.bool false, .slice A' n' c']
  have hrW := hr1.keep HB
  have hrW' := hr1'.keep HB
  have HBB : Below w.heap.size w ((w1.alloc (.cells #[.bool true, .slice A n c] 62)).alloc (.cells #[.bool false, .slice A' n' c'] 62)) := hb1.trans (HB.mono hb1.size)
  clear HB HZ
  generalize ((w1.alloc (.cells #[.bool true, .slice A n c] 62)).alloc (.cells #[.bool false, .slice A' n' c'] 62)) = W at *
  have x0 := HX.out.cell' (i := 0) rfl
  have x1' := HX.out.cell' (i := 1) rfl
  have y0 := HY.out.cell' (i := 0) rfl
  have y1' := HY.out.cell' (i := 1) rfl
  have hdv := divide_any A A' n c n' c' x2 y2 W hn hn' hrW hrW' (by omega) (by omega) (by omega)
  have HDV := Lib.hid hdv
  clear hdv
  go_upto_region 7 with (go_at_call 57; go_loud (refine HDV.out.mono ?_; rintro e w5 ⟨Aq, nq, cq, Ar, nr, cr, rfl, hnq, hcq, hrq, hfq, hnr, hcr, hrr, hb5⟩))
  have HX5 := Lib.hid (HX.out.keep hb5)
  have HY5 := Lib.hid (HY.out.keep hb5)
  have x05 := HX5.out.cell' (i := 0) rfl
  have y05 := HY5.out.cell' (i := 0) rfl
  have y15 := HY5.out.cell' (i := 1) rfl
  have hrW5 := hrW'.keep hb5
  have HB5 : Below w.heap.size w w5 := HBB.trans (hb5.mono HBB.size)
  have hnqb : nq ≤ 400 := by
    have h1 := hnq.out
    have := dg_len_mono (Nat.div_le_self x2 y2)
    have := hn.out
    (try dsimp only at this)
    omega
  have hnrb : nr ≤ 400 := by
    have h1 := hnr.out
    have := dg_len_mono (Nat.le_of_lt (Nat.mod_lt x2 (show 0 < y2 by omega)))
    have := hn'.out
    (try dsimp only at this)
    omega
  clear x0 x1' y0 y1' hb5 HDV hrW hrW'
  (have hnr0 : 0 < nr := by have h1 := hnr.out; have : (dg (x2 % y2)).length ≠ 0 := fun h => h0 (dg_length_zero.1 h); omega)
  skip
  (go_upto_region 9 with (go_at_call 51; go_loud (refine (plus_any Aq (some ⟨w5.heap.size, 0, none⟩) nq cq 1 1 (x2 / y2) 1 _ hnq (by show _ = _; rw [dg_one]; rfl) (hrq.alloc _) (by rw [dg_one]; exact (Arr.new w5 _ [.int .u8 1]).rd) (by omega) (by omega)).mono ?_; rintro e w6 ⟨A6, n6, c6, rfl, hn6, hc6, hr6, hf6, hb6⟩)); have hb6' : Below w5.heap.size w5 w6 := ((Below.refl _ w5).alloc (Nat.le_refl _) _).trans (hb6.mono (by simp)); have HX6 := Lib.hid (HX5.out.keep hb6'); have HY6 := Lib.hid (HY5.out.keep hb6'); have y16 := HY6.out.cell' (i := 1) rfl; have hrr6 := hrr.keep hb6'; have hrW6 := hrW5.keep hb6'; go_upto_region 10 with (go_at_call 58; go_loud (refine (minus_any A' Ar n' c' nr cr y2 (x2 % y2) w6 hn' hnr hrW6 hrr6 (by omega) (Nat.le_of_lt (Nat.mod_lt x2 (by omega)))).mono ?_; rintro e w7 ⟨A7, n7, c7, rfl, hn7, hc7, hr7, hf7, hb7⟩)); have HX7 := Lib.hid (HX6.out.keep hb7); have HY7 := Lib.hid (HY6.out.keep hb7); have x07 := HX7.out.cell' (i := 0) rfl; have y07 := HY7.out.cell' (i := 0) rfl; have hr67 := hr6.keep hb7; have hn6' : Hid (n6 = (dg (x2 / y2 + 1)).length) := (by have := hn6.out; rw [length_B8] at this; exact this); have hn7' : Hid (n7 = (dg (y2 - x2 % y2)).length) := (by have := hn7.out; rw [length_B8] at this; exact this); have hn60 : 0 < n6 := dg_pos_len hn6' (Nat.succ_ne_zero _); have hn70 : 0 < n7 := dg_pos_len hn7' (by have := Nat.mod_lt x2 (show 0 < y2 by omega); omega); have hn6b : n6 ≤ 401 := (by have h1 := hn6'.out; have h2 := dg_succ_len (show (dg (x2 / y2)).length ≤ 400 by have := hnq.out; omega); omega); have hn7b : n7 ≤ 400 := (by have h1 := hn7'.out; have := dg_len_mono (Nat.sub_le y2 (x2 % y2)); have := hn'.out; (try dsimp only at this); omega); go_upto_region 11 with (go_at_call 42; go_loud (refine (text2_any _ A6 _ c6 (x2 / y2 + 1) w7 hn6' hr67 (by omega)).mono ?_; rintro e w8 ⟨rfl, hb8⟩; have y08 := (HY7.out.keep hb8).cell' (i := 0) rfl; have hr78 := hr7.keep hb8)); go_wp2_with (go_at_call 42; go_loud (refine (text2_any _ A7 _ c7 (y2 - x2 % y2) _ hn7' hr78 (by omega)).mono ?_; rintro e w9 ⟨rfl, hb9⟩)); go_ret3; exact ⟨rfl, (((HB5.trans (hb6'.mono HB5.size)).trans (hb7.mono (by have := HB5.size; have := hb6'.size; omega))).trans (hb8.mono (by have := HB5.size; have := hb6'.size; have := hb7.size; omega))).trans (hb9.mono (by have := HB5.size; have := hb6'.size; have := hb7.size; have := hb8.size; omega))⟩)
end Go.Proofs.Ytgnddobonboloaa
