/- The walks of Cmp, Neg and Valid of integer; DivMod in one statement. -/
import Derived.Test.YtgnddobonboloaaDivMod
namespace Go.Proofs.Ytgnddobonboloaa
open Go.RowKit

theorem read_bad (l : List Nat) (w : World) (hby : By l) (h : parseC l = none) : Calls Try.prog 48 #[.string (mks l)] w fun e w' =>
    e = .returned (.tuple #[.agg #[.bool false, .slice none 0 0], .bool false]) ∧ Below w.heap.size w w' := by
  refine (read_any l w hby).mono fun e w' ⟨hb, he⟩ => ?_
  rw [h] at he
  exact ⟨he, hb⟩
theorem read_ok (l : List Nat) (x : Bool × Nat) (w : World) (hby : By l) (h : parseC l = some x) : Calls Try.prog 48 #[.string (mks l)] w fun e w' =>
    ∃ A n c, e = .returned (.tuple #[.agg #[.bool x.1, .slice A n c], .bool true]) ∧ Hid (n = (dg x.2).length) ∧ n ≤ 400 ∧ n ≤ c ∧ Rd w' A (B8 (dg x.2)) ∧ Below w.heap.size w w' := by
  refine (read_any l w hby).mono fun e w' ⟨hb, he⟩ => ?_
  rw [h] at he
  obtain ⟨A, n, c, h1, h2, h3, h4, h5, _⟩ := he
  exact ⟨A, n, c, h1, h2, h3, h4, h5, hb⟩

theorem divmod_ok (l r : List Nat) (x y : Bool × Nat) (w : World) (hl : By l) (hr : By r) (h : parseC l = some x) (h' : parseC r = some y) (hy0 : y.2 ≠ 0) : Calls Try.prog 26 #[.string (mks l), .string (mks r)] w fun e w' =>
    e = .returned (.tuple #[.string (mks (tS (dmQN x y))), .string (mks (tS (dmRN x y))), .int .i64 0]) ∧ Below w.heap.size w w' := by
  obtain ⟨x1, x2⟩ := x
  obtain ⟨y1, y2⟩ := y
  dsimp only at hy0
  have hmod := Nat.mod_lt x2 (show 0 < y2 by omega)
  cases x1 <;> cases y1
  · have e1 : dmQN (false, x2) (false, y2) = (false, x2 / y2) := by simp [dmQN, dmQ]
    have e2 : dmRN (false, x2) (false, y2) = (false, x2 % y2) := by simp [dmRN, dmR]
    rw [e1, e2]; exact divmod_a l r x2 y2 w hl hr h h' hy0 trivial
  · by_cases hr0 : x2 % y2 = 0
    · by_cases hq0 : x2 / y2 = 0
      · have e1 : dmQN (false, x2) (true, y2) = (false, x2 / y2) := by simp [dmQN, dmQ, hr0, hq0]
        have e2 : dmRN (false, x2) (true, y2) = (false, x2 % y2) := by simp [dmRN, dmR, hr0]
        rw [e1, e2]; exact divmod_d1 l r x2 y2 w hl hr h h' hy0 hr0 hq0
      · have e1 : dmQN (false, x2) (true, y2) = (true, x2 / y2) := by simp only [dmQN, dmQ, hr0]; simp; exact Nat.div_pos_iff.1 (Nat.pos_of_ne_zero hq0)
        have e2 : dmRN (false, x2) (true, y2) = (false, x2 % y2) := by simp [dmRN, dmR, hr0]
        rw [e1, e2]; exact divmod_e1 l r x2 y2 w hl hr h h' hy0 hr0 hq0
    · have e1 : dmQN (false, x2) (true, y2) = (true, x2 / y2 + 1) := by simp [dmQN, dmQ, hr0]
      have e2 : dmRN (false, x2) (true, y2) = (true, y2 - x2 % y2) := by simp [dmRN, dmR, hr0]; omega
      rw [e1, e2]; exact divmod_f1 l r x2 y2 w hl hr h h' hy0 hr0
  · by_cases hr0 : x2 % y2 = 0
    · by_cases hq0 : x2 / y2 = 0
      · have e1 : dmQN (true, x2) (false, y2) = (false, x2 / y2) := by simp [dmQN, dmQ, hr0, hq0]
        have e2 : dmRN (true, x2) (false, y2) = (false, x2 % y2) := by simp [dmRN, dmR, hr0]
        rw [e1, e2]; exact divmod_d2 l r x2 y2 w hl hr h h' hy0 hr0 hq0
      · have e1 : dmQN (true, x2) (false, y2) = (true, x2 / y2) := by simp only [dmQN, dmQ, hr0]; simp; exact Nat.div_pos_iff.1 (Nat.pos_of_ne_zero hq0)
        have e2 : dmRN (true, x2) (false, y2) = (false, x2 % y2) := by simp [dmRN, dmR, hr0]
        rw [e1, e2]; exact divmod_e2 l r x2 y2 w hl hr h h' hy0 hr0 hq0
    · have e1 : dmQN (true, x2) (false, y2) = (true, x2 / y2 + 1) := by simp [dmQN, dmQ, hr0]
      have e2 : dmRN (true, x2) (false, y2) = (false, y2 - x2 % y2) := by simp [dmRN, dmR, hr0]
      rw [e1, e2]; exact divmod_f2 l r x2 y2 w hl hr h h' hy0 hr0
  · have e1 : dmQN (true, x2) (true, y2) = (false, x2 / y2) := by simp [dmQN, dmQ]
    by_cases hr0 : x2 % y2 = 0
    · have e2 : dmRN (true, x2) (true, y2) = (false, x2 % y2) := by simp [dmRN, dmR, hr0]
      rw [e1, e2]; exact divmod_b l r x2 y2 w hl hr h h' hy0 hr0
    · have e2 : dmRN (true, x2) (true, y2) = (true, x2 % y2) := by simp [dmRN, dmR]; omega
      rw [e1, e2]; exact divmod_c l r x2 y2 w hl hr h h' hy0 hr0

def cmpP (x y : Bool × Nat) : Int := if x.1 then (if y.1 then cmpN y.2 x.2 else -1) else (if y.1 then 1 else cmpN x.2 y.2)

set_option maxHeartbeats 2000000 in
theorem valid_any (l : List Nat) (w : World) (hl : By l) : Calls Try.prog 15 #[.string (mks l)] w fun e w' =>
    e = .returned (.bool (parseC l).isSome) ∧ Below w.heap.size w w' := by
  have H1 := Lib.hid (read_num l w hl)
  generalize parseC l = o at *
  go_enter Try.func15, Try.ntmps15
  go_wp2_with (go_at_call 48; go_loud (refine H1.out.mono ?_; rintro e w1 ⟨hb1, b1, A1, n1, c1, rfl, _⟩))
  go_ret
  exact ⟨rfl, hb1.alloc hb1.size _⟩

set_option maxHeartbeats 2000000 in
theorem cmp_bad1 (l r : List Nat) (w : World) (hl : By l) (hr : By r) (h : parseC l = none) : Calls Try.prog 34 #[.string (mks l), .string (mks r)] w fun e w' =>
    e = .returned (.int .i64 0) ∧ Below w.heap.size w w' := by
  have H1 := Lib.hid (read_bad l w hl h)
  have H2 := read_num r
  generalize parseC r = o at *
  have H2' := Lib.hid H2
  clear H2 h
  go_enter Try.func34, Try.ntmps34
  go_upto_region 2 with (go_at_call 48; go_loud (refine H1.out.mono ?_; rintro e w1 ⟨rfl, hb1⟩))
  go_wp2_with (go_at_call 48; go_loud (refine (H2'.out _ hr).mono ?_; rintro e w2 ⟨hb2, b2, A2, n2, c2, rfl, _⟩))
  go_ret
  exact ⟨rfl, ((hb1.alloc hb1.size _).trans (hb2.mono (by have := hb1.size; simp; omega))).alloc (by have := hb1.size; have := hb2.size; simp at this; omega) _⟩

set_option maxHeartbeats 2000000 in
theorem cmp_bad2 (l r : List Nat) (x : Bool × Nat) (w : World) (hl : By l) (hr : By r) (h : parseC l = some x) (h' : parseC r = none) : Calls Try.prog 34 #[.string (mks l), .string (mks r)] w fun e w' =>
    e = .returned (.int .i64 0) ∧ Below w.heap.size w w' := by
  have H1 := Lib.hid (read_ok l x w hl h)
  have H2' : Hid (∀ W, _) := Lib.hid (fun W => read_bad r W hr h')
  clear h h'
  go_enter Try.func34, Try.ntmps34
  go_upto_region 2 with (go_at_call 48; go_loud (refine H1.out.mono ?_; rintro e w1 ⟨A, n, c, rfl, hn, hn4, hc, hr1, hb1⟩))
  go_wp2_with (go_at_call 48; go_loud (refine (H2'.out _).mono ?_; rintro e w2 ⟨rfl, hb2⟩))
  go_ret
  exact ⟨rfl, ((hb1.alloc hb1.size _).trans (hb2.mono (by have := hb1.size; simp; omega))).alloc (by have := hb1.size; have := hb2.size; simp at this; omega) _⟩

set_option maxHeartbeats 4000000 in
theorem cmp_ff (l r : List Nat) (x2 y2 : Nat) (w : World) (hl : By l) (hr : By r) (h : parseC l = some (false, x2)) (h' : parseC r = some (false, y2)) : Calls Try.prog 34 #[.string (mks l), .string (mks r)] w fun e w' =>
    e = .returned (.int .i64 (cmpN x2 y2)) ∧ Below w.heap.size w w' := by
  have H1 := Lib.hid (read_ok l (false, x2) w hl h)
  have H2' : Hid (∀ W, _) := Lib.hid (fun W => read_ok r (false, y2) W hr h')
  clear h h'
  go_enter Try.func34, Try.ntmps34
  go_upto_region 2 with (go_at_call 48; go_loud (refine H1.out.mono ?_; rintro e w1 ⟨A, n, c, rfl, hn, hn4, hc, hr1, hb1⟩))
  have HX := Arr.new w1 62 [.bool false, .slice A n c]
  go_upto_region 3 with (go_at_call 48; go_loud (refine (H2'.out _).mono ?_; rintro e w2 ⟨A', n', c', rfl, hn', hn4', hc', hr1', hb2⟩))
  have HX2 := (HX.keep hb2).alloc (.cells #[.bool false, .slice A' n' c'] 62)
  have HY2 := Arr.new w2 62 [.bool false, .slice A' n' c']
  have x0 := HX2.cell' (i := 0) rfl
  have x1' := HX2.cell' (i := 1) rfl
  have y0 := HY2.cell' (i := 0) rfl
  have y1' := HY2.cell' (i := 1) rfl
  have hrW := ((hr1.alloc (.cells #[.bool false, .slice A n c] 62)).keep hb2).alloc (.cells #[.bool false, .slice A' n' c'] 62)
  have hrW' := hr1'.alloc (.cells #[.bool false, .slice A' n' c'] 62)
  have hB : Below w.heap.size w (w2.alloc (.cells #[.bool false, .slice A' n' c'] 62)) := ((hb1.alloc hb1.size (.cells #[.bool false, .slice A n c] 62)).trans (hb2.mono (by have := hb1.size; simp; omega))).alloc (by have := hb1.size; have := hb2.size; simp at this; omega) _
  clear HX HX2 HY2 hb1 hb2 hr1 hr1'
  generalize (w2.alloc (.cells #[.bool false, .slice A' n' c'] 62)) = W at *
  go_wp2_with (go_at_call 52; go_loud (refine (size_any A A' n n' c c' x2 y2 _ hn hn' hrW hrW' (by omega) (by omega)).mono ?_; rintro e w6 ⟨rfl, k6, rfl⟩))
  go_ret
  exact ⟨rfl, Below.drewN' hB k6⟩
set_option maxHeartbeats 4000000 in
theorem cmp_ft (l r : List Nat) (x2 y2 : Nat) (w : World) (hl : By l) (hr : By r) (h : parseC l = some (false, x2)) (h' : parseC r = some (true, y2)) : Calls Try.prog 34 #[.string (mks l), .string (mks r)] w fun e w' =>
    e = .returned (.int .i64 (1)) ∧ Below w.heap.size w w' := by
  have H1 := Lib.hid (read_ok l (false, x2) w hl h)
  have H2' : Hid (∀ W, _) := Lib.hid (fun W => read_ok r (true, y2) W hr h')
  clear h h'
  go_enter Try.func34, Try.ntmps34
  go_upto_region 2 with (go_at_call 48; go_loud (refine H1.out.mono ?_; rintro e w1 ⟨A, n, c, rfl, hn, hn4, hc, hr1, hb1⟩))
  have HX := Arr.new w1 62 [.bool false, .slice A n c]
  go_upto_region 3 with (go_at_call 48; go_loud (refine (H2'.out _).mono ?_; rintro e w2 ⟨A', n', c', rfl, hn', hn4', hc', hr1', hb2⟩))
  have HX2 := (HX.keep hb2).alloc (.cells #[.bool true, .slice A' n' c'] 62)
  have HY2 := Arr.new w2 62 [.bool true, .slice A' n' c']
  have x0 := HX2.cell' (i := 0) rfl
  have x1' := HX2.cell' (i := 1) rfl
  have y0 := HY2.cell' (i := 0) rfl
  have y1' := HY2.cell' (i := 1) rfl
  have hrW := ((hr1.alloc (.cells #[.bool false, .slice A n c] 62)).keep hb2).alloc (.cells #[.bool true, .slice A' n' c'] 62)
  have hrW' := hr1'.alloc (.cells #[.bool true, .slice A' n' c'] 62)
  have hB : Below w.heap.size w (w2.alloc (.cells #[.bool true, .slice A' n' c'] 62)) := ((hb1.alloc hb1.size (.cells #[.bool false, .slice A n c] 62)).trans (hb2.mono (by have := hb1.size; simp; omega))).alloc (by have := hb1.size; have := hb2.size; simp at this; omega) _
  clear HX HX2 HY2 hb1 hb2 hr1 hr1'
  generalize (w2.alloc (.cells #[.bool true, .slice A' n' c'] 62)) = W at *
  go_wp2_with (go_at_call 52; go_loud (refine (size_any A A' n n' c c' x2 y2 _ hn hn' hrW hrW' (by omega) (by omega)).mono ?_; rintro e w6 ⟨rfl, k6, rfl⟩))
  go_ret
  exact ⟨rfl, hB⟩
set_option maxHeartbeats 4000000 in
theorem cmp_tf (l r : List Nat) (x2 y2 : Nat) (w : World) (hl : By l) (hr : By r) (h : parseC l = some (true, x2)) (h' : parseC r = some (false, y2)) : Calls Try.prog 34 #[.string (mks l), .string (mks r)] w fun e w' =>
    e = .returned (.int .i64 (-1)) ∧ Below w.heap.size w w' := by
  have H1 := Lib.hid (read_ok l (true, x2) w hl h)
  have H2' : Hid (∀ W, _) := Lib.hid (fun W => read_ok r (false, y2) W hr h')
  clear h h'
  go_enter Try.func34, Try.ntmps34
  go_upto_region 2 with (go_at_call 48; go_loud (refine H1.out.mono ?_; rintro e w1 ⟨A, n, c, rfl, hn, hn4, hc, hr1, hb1⟩))
  have HX := Arr.new w1 62 [.bool true, .slice A n c]
  go_upto_region 3 with (go_at_call 48; go_loud (refine (H2'.out _).mono ?_; rintro e w2 ⟨A', n', c', rfl, hn', hn4', hc', hr1', hb2⟩))
  have HX2 := (HX.keep hb2).alloc (.cells #[.bool false, .slice A' n' c'] 62)
  have HY2 := Arr.new w2 62 [.bool false, .slice A' n' c']
  have x0 := HX2.cell' (i := 0) rfl
  have x1' := HX2.cell' (i := 1) rfl
  have y0 := HY2.cell' (i := 0) rfl
  have y1' := HY2.cell' (i := 1) rfl
  have hrW := ((hr1.alloc (.cells #[.bool true, .slice A n c] 62)).keep hb2).alloc (.cells #[.bool false, .slice A' n' c'] 62)
  have hrW' := hr1'.alloc (.cells #[.bool false, .slice A' n' c'] 62)
  have hB : Below w.heap.size w (w2.alloc (.cells #[.bool false, .slice A' n' c'] 62)) := ((hb1.alloc hb1.size (.cells #[.bool true, .slice A n c] 62)).trans (hb2.mono (by have := hb1.size; simp; omega))).alloc (by have := hb1.size; have := hb2.size; simp at this; omega) _
  clear HX HX2 HY2 hb1 hb2 hr1 hr1'
  generalize (w2.alloc (.cells #[.bool false, .slice A' n' c'] 62)) = W at *
  go_wp2_with (go_at_call 52; go_loud (refine (size_any A A' n n' c c' x2 y2 _ hn hn' hrW hrW' (by omega) (by omega)).mono ?_; rintro e w6 ⟨rfl, k6, rfl⟩))
  go_ret
  exact ⟨rfl, hB⟩
set_option maxHeartbeats 4000000 in
theorem cmp_tt (l r : List Nat) (x2 y2 : Nat) (w : World) (hl : By l) (hr : By r) (h : parseC l = some (true, x2)) (h' : parseC r = some (true, y2)) : Calls Try.prog 34 #[.string (mks l), .string (mks r)] w fun e w' =>
    e = .returned (.int .i64 (cmpN y2 x2)) ∧ Below w.heap.size w w' := by
  have H1 := Lib.hid (read_ok l (true, x2) w hl h)
  have H2' : Hid (∀ W, _) := Lib.hid (fun W => read_ok r (true, y2) W hr h')
  clear h h'
  go_enter Try.func34, Try.ntmps34
  go_upto_region 2 with (go_at_call 48; go_loud (refine H1.out.mono ?_; rintro e w1 ⟨A, n, c, rfl, hn, hn4, hc, hr1, hb1⟩))
  have HX := Arr.new w1 62 [.bool true, .slice A n c]
  go_upto_region 3 with (go_at_call 48; go_loud (refine (H2'.out _).mono ?_; rintro e w2 ⟨A', n', c', rfl, hn', hn4', hc', hr1', hb2⟩))
  have HX2 := (HX.keep hb2).alloc (.cells #[.bool true, .slice A' n' c'] 62)
  have HY2 := Arr.new w2 62 [.bool true, .slice A' n' c']
  have x0 := HX2.cell' (i := 0) rfl
  have x1' := HX2.cell' (i := 1) rfl
  have y0 := HY2.cell' (i := 0) rfl
  have y1' := HY2.cell' (i := 1) rfl
  have hrW := ((hr1.alloc (.cells #[.bool true, .slice A n c] 62)).keep hb2).alloc (.cells #[.bool true, .slice A' n' c'] 62)
  have hrW' := hr1'.alloc (.cells #[.bool true, .slice A' n' c'] 62)
  have hB : Below w.heap.size w (w2.alloc (.cells #[.bool true, .slice A' n' c'] 62)) := ((hb1.alloc hb1.size (.cells #[.bool true, .slice A n c] 62)).trans (hb2.mono (by have := hb1.size; simp; omega))).alloc (by have := hb1.size; have := hb2.size; simp at this; omega) _
  clear HX HX2 HY2 hb1 hb2 hr1 hr1'
  generalize (w2.alloc (.cells #[.bool true, .slice A' n' c'] 62)) = W at *
  go_wp2_with (go_at_call 52; go_loud (refine (size_any A' A n' n c' c y2 x2 _ hn' hn hrW' hrW (by omega) (by omega)).mono ?_; rintro e w6 ⟨rfl, k6, rfl⟩))
  go_ret
  exact ⟨rfl, Below.drewN' hB k6⟩
theorem cmp_ok (l r : List Nat) (x y : Bool × Nat) (w : World) (hl : By l) (hr : By r) (h : parseC l = some x) (h' : parseC r = some y) : Calls Try.prog 34 #[.string (mks l), .string (mks r)] w fun e w' =>
    e = .returned (.int .i64 (cmpP x y)) ∧ Below w.heap.size w w' := by
  obtain ⟨x1, x2⟩ := x
  obtain ⟨y1, y2⟩ := y
  cases x1 <;> cases y1
  · exact cmp_ff l r x2 y2 w hl hr h h'
  · exact cmp_ft l r x2 y2 w hl hr h h'
  · exact cmp_tf l r x2 y2 w hl hr h h'
  · exact cmp_tt l r x2 y2 w hl hr h h'

set_option maxHeartbeats 2000000 in
theorem neg_bad (l : List Nat) (w : World) (hl : By l) (h : parseC l = none) : Calls Try.prog 36 #[.string (mks l)] w fun e w' =>
    e = .returned (.string (mks [])) ∧ Below w.heap.size w w' := by
  have H1 := Lib.hid (read_bad l w hl h)
  clear h
  go_enter Try.func36, Try.ntmps36
  go_wp2_with (go_at_call 48; go_loud (refine H1.out.mono ?_; rintro e w1 ⟨rfl, hb1⟩))
  go_ret
  exact ⟨rfl, hb1.alloc hb1.size _⟩

set_option maxHeartbeats 2000000 in
theorem neg_t (l : List Nat) (x2 : Nat) (w : World) (hl : By l) (h : parseC l = some (true, x2)) (_h : True) : Calls Try.prog 36 #[.string (mks l)] w fun e w' =>
    e = .returned (.string (mks (tS (false, x2)))) ∧ Below w.heap.size w w' := by
  have H1 := Lib.hid (read_ok l (true, x2) w hl h)
  clear h
  go_enter Try.func36, Try.ntmps36
  go_upto_region 4 with (go_at_call 48; go_loud (refine H1.out.mono ?_; rintro e w1 ⟨A, n, c, rfl, hn, hn4, hc, hr1, hb1⟩))
  skip
  go_wp2_with (go_at_call 42; go_loud (refine (text2_any _ A _ c x2 _ hn (hr1.alloc _) (by omega)).mono ?_; rintro e w7 ⟨rfl, hb7⟩))
  go_ret
  exact ⟨rfl, (hb1.alloc hb1.size _).trans (hb7.mono (by have := hb1.size; simp; omega))⟩
set_option maxHeartbeats 2000000 in
theorem neg_z (l : List Nat) (x2 : Nat) (w : World) (hl : By l) (h : parseC l = some (false, x2)) (H0 : Hid (x2 = 0)) : Calls Try.prog 36 #[.string (mks l)] w fun e w' =>
    e = .returned (.string (mks (tS (false, x2)))) ∧ Below w.heap.size w w' := by
  have H1 := Lib.hid (read_ok l (false, x2) w hl h)
  clear h
  go_enter Try.func36, Try.ntmps36
  go_upto_region 4 with (go_at_call 48; go_loud (refine H1.out.mono ?_; rintro e w1 ⟨A, n, c, rfl, hn, hn4, hc, hr1, hb1⟩))
  (obtain rfl : n = 0 := by have := hn.out; rw [this]; (try dsimp only); rw [H0.out, dg_zero]; rfl)
  go_wp2_with (go_at_call 42; go_loud (refine (text2_any _ A _ c x2 _ hn (hr1.alloc _) (by omega)).mono ?_; rintro e w7 ⟨rfl, hb7⟩))
  go_ret
  exact ⟨rfl, (hb1.alloc hb1.size _).trans (hb7.mono (by have := hb1.size; simp; omega))⟩
set_option maxHeartbeats 2000000 in
theorem neg_p (l : List Nat) (x2 : Nat) (w : World) (hl : By l) (h : parseC l = some (false, x2)) (h0 : x2 ≠ 0) : Calls Try.prog 36 #[.string (mks l)] w fun e w' =>
    e = .returned (.string (mks (tS (true, x2)))) ∧ Below w.heap.size w w' := by
  have H1 := Lib.hid (read_ok l (false, x2) w hl h)
  clear h
  go_enter Try.func36, Try.ntmps36
  go_upto_region 4 with (go_at_call 48; go_loud (refine H1.out.mono ?_; rintro e w1 ⟨A, n, c, rfl, hn, hn4, hc, hr1, hb1⟩))
  have hn0 : 0 < n := dg_pos_len hn h0
  go_wp2_with (go_at_call 42; go_loud (refine (text2_any _ A _ c x2 _ hn (hr1.alloc _) (by omega)).mono ?_; rintro e w7 ⟨rfl, hb7⟩))
  go_ret
  exact ⟨rfl, (hb1.alloc hb1.size _).trans (hb7.mono (by have := hb1.size; simp; omega))⟩
theorem neg_ok (l : List Nat) (x : Bool × Nat) (w : World) (hl : By l) (h : parseC l = some x) : Calls Try.prog 36 #[.string (mks l)] w fun e w' =>
    e = .returned (.string (mks (tS (negN x)))) ∧ Below w.heap.size w w' := by
  obtain ⟨x1, x2⟩ := x
  cases x1
  · by_cases h0 : x2 = 0
    · have e : negN (false, x2) = (false, x2) := by simp [negN, h0]
      rw [e]; exact neg_z l x2 w hl h h0
    · have e : negN (false, x2) = (true, x2) := by simp [negN]; omega
      rw [e]; exact neg_p l x2 w hl h h0
  · have e : negN (true, x2) = (false, x2) := by simp [negN]
    rw [e]; exact neg_t l x2 w hl h trivial
end Go.Proofs.Ytgnddobonboloaa
