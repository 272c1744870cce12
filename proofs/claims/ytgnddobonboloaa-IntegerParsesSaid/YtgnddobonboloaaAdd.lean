/- The walks of Add, Sub, Cmp, Neg and Valid of integer. -/
import Derived.Test.YtgnddobonboloaaSum
import Derived.Test.YtgnddobonboloaaText
namespace Go.Proofs.Ytgnddobonboloaa
open Go.RowKit

/-- The text of a number, or nothing where it is too long; the error's number. -/
def tS (x : Bool × Nat) : List Nat := if (dg x.2).length ≤ 400 then ntx x.1 x.2 else []
def tE (x : Bool × Nat) : Int := if (dg x.2).length ≤ 400 then 0 else 6

theorem text2_any (neg : Bool) (A : Option Addr) (n c m : Nat) (w : World) (hn : Hid (n = (dg m).length)) (hr : Rd w A (B8 (dg m))) (hm : n ≤ 4294967296) :
    Calls Try.prog 42 #[.agg #[.bool neg, .slice A n c]] w fun e w' => e = .returned (.tuple #[.string (mks (tS (neg, m))), .int .i64 (tE (neg, m))]) ∧ Below w.heap.size w w' := by
  refine (text_any neg A n c m w hn hr hm).mono fun e w' ⟨he, hb⟩ => ⟨?_, hb⟩
  rw [he]
  unfold tS tE
  split <;> rfl

theorem two_bad (l r : List Nat) (w : World) (hl : By l) (hr : By r) (h : (parseC l).isSome = false ∨ (parseC r).isSome = false) : Calls Try.prog 55 #[.string (mks l), .string (mks r)] w fun e w' =>
    Below w.heap.size w w' ∧ ∃ (b b' : Bool) (A A' : Option Addr) (n n' c c' : Nat), e = .returned (.tuple #[.agg #[.bool b, .slice A n c], .agg #[.bool b', .slice A' n' c'], .bool false]) := by
  refine (two_any l r w hl hr).mono fun e w' ⟨hb, b, b', A, A', n, n', c, c', he, _, _⟩ => ⟨hb, b, b', A, A', n, n', c, c', ?_⟩
  rw [he]
  have : ((parseC l).isSome && (parseC r).isSome) = false := by rcases h with h | h <;> simp [h]
  rw [this]
theorem two_ok (l r : List Nat) (x y : Bool × Nat) (w : World) (hl : By l) (hr : By r) (h : parseC l = some x) (h' : parseC r = some y) : Calls Try.prog 55 #[.string (mks l), .string (mks r)] w fun e w' =>
    Below w.heap.size w w' ∧ ∃ (A A' : Option Addr) (n n' c c' : Nat), e = .returned (.tuple #[.agg #[.bool x.1, .slice A n c], .agg #[.bool y.1, .slice A' n' c'], .bool true]) ∧
      Hid (n = (dg x.2).length) ∧ n ≤ 400 ∧ n ≤ c ∧ Rd w' A (B8 (dg x.2)) ∧ Hid (n' = (dg y.2).length) ∧ n' ≤ 400 ∧ n' ≤ c' ∧ Rd w' A' (B8 (dg y.2)) := by
  refine (two_any l r w hl hr).mono fun e w' ⟨hb, b, b', A, A', n, n', c, c', he, hx, hy⟩ => ⟨hb, A, A', n, n', c, c', ?_⟩
  rw [h] at hx he
  rw [h'] at hy he
  obtain ⟨A1, n1, c1, h1, h2, h3, h4, h5, h6, h7⟩ := hx
  obtain ⟨A2, n2, c2, k1, k2, k3, k4, k5, k6, k7⟩ := hy
  injection h1 with h1; injection h2 with h2a h2b h2c
  injection k1 with k1; injection k2 with k2a k2b k2c
  subst h1 h2a h2b h2c k1 k2a k2b k2c
  exact ⟨he, h3, h4, h5, h6, k3, k4, k5, k6⟩

def binV (f : Bool × Nat → Bool × Nat → Bool × Nat) (o o' : Option (Bool × Nat)) : Value :=
  match o, o' with
  | some x, some y => .tuple #[.string (mks (tS (f x y))), .int .i64 (tE (f x y))]
  | _, _ => .tuple #[.string (mks []), .int .i64 3]
def negN (x : Bool × Nat) : Bool × Nat := (!x.1 && decide (0 < x.2), x.2)

theorem sum_len {x y : Bool × Nat} {k : Nat} (hx : (dg x.2).length ≤ k) (hy : (dg y.2).length ≤ k) : (dg (sumN x y).2).length ≤ k + 1 := by
  have h1 := dg_len_le.1 hx
  have h2 := dg_len_le.1 hy
  refine dg_len_le.2 ?_
  have h3 : 10 ^ (k + 1) = 10 * 10 ^ k := by rw [Nat.pow_succ]; omega
  rw [h3]
  unfold sumN
  split
  · dsimp only; omega
  · split
    · dsimp only; omega
    · split
      · dsimp only; omega
      · dsimp only; omega

set_option maxHeartbeats 2000000 in
theorem add_ok (l r : List Nat) (x y : Bool × Nat) (w : World) (hl : By l) (hr : By r) (h : parseC l = some x) (h' : parseC r = some y) (_hd : True) : Calls Try.prog 32 #[.string (mks l), .string (mks r)] w fun e w' =>
    e = .returned (.tuple #[.string (mks (tS (sumN x y))), .int .i64 (tE (sumN x y))]) ∧ Below w.heap.size w w' := by
  have H := two_ok l r x y w hl hr h h'
  clear h h'
  obtain ⟨x1, x2⟩ := x
  obtain ⟨y1, y2⟩ := y
  skip
  have HT := Lib.hid H
  clear H
  obtain ⟨z, hz⟩ : ∃ z, z = sumN (x1, x2) (y1, y2) := ⟨_, rfl⟩
  rw [← hz]
  have HS := Lib.hid hz
  clear hz
  go_enter Try.func32, Try.ntmps32
  go_upto_region 4 with (go_at_call 55; go_loud (refine HT.out.mono ?_; rintro e w1 ⟨hb1, A, A', n, n', c, c', rfl, hn, hn4, hc, hr1, hn', hn4', hc', hr1'⟩))
  skip
  skip
  skip
  obtain ⟨HX, HY, HB, HZ⟩ := two_box w1 62 62 [.bool x1, .slice A n c] [.bool y1, .slice A' n' c']
  have hrW := hr1.keep HB
  have hrW' := hr1'.keep HB
  have HBB : Below w.heap.size w ((w1.alloc (.cells #[.bool x1, .slice A n c] 62)).alloc (.cells #[.bool y1, .slice A' n' c'] 62)) := hb1.trans (HB.mono hb1.size)
  clear HB HZ
  generalize ((w1.alloc (.cells #[.bool x1, .slice A n c] 62)).alloc (.cells #[.bool y1, .slice A' n' c'] 62)) = W at *
  have x0 := HX.out.cell' (i := 0) rfl
  have x1' := HX.out.cell' (i := 1) rfl
  have y0 := HY.out.cell' (i := 0) rfl
  have y1' := HY.out.cell' (i := 1) rfl
  have hs := sum_any x1 y1 A A' n n' c c' x2 _ W hn hn' hrW hrW' (by omega) (by omega)
  rw [← HS.out] at hs
  have HSUM := Lib.hid hs
  have hzl : (dg z.2).length ≤ 4294967296 := by
    rw [HS.out]
    have := sum_len (x := (x1, x2)) (y := (y1, y2)) (k := 400) (by have := hn.out; dsimp only; omega) (by have := hn'.out; dsimp only; omega)
    omega
  clear hs
  go_wp2_with (first | (go_at_call 61; go_loud (refine HSUM.out.mono ?_; rintro e w5 ⟨v0, v1, rfl, ⟨A5, n5, c5, rfl, rfl, hn5, hc5, hr5, hf5⟩, hb5⟩)) | (go_at_call 42; go_loud (refine (text2_any _ A5 n5 c5 _ w5 hn5 hr5 (by rw [hn5.out]; exact hzl)).mono ?_; rintro e w6 ⟨rfl, hb6⟩)))
  go_ret2
  exact ⟨rfl, (HBB.trans (hb5.mono HBB.size)).trans (hb6.mono (by have := HBB.size; have := hb5.size; omega))⟩
set_option maxHeartbeats 2000000 in
theorem sub_t (l r : List Nat) (x y : Bool × Nat) (w : World) (hl : By l) (hr : By r) (h : parseC l = some x) (h' : parseC r = some y) (hy1 : y.1 = true) : Calls Try.prog 33 #[.string (mks l), .string (mks r)] w fun e w' =>
    e = .returned (.tuple #[.string (mks (tS (sumN x (false, y.2)))), .int .i64 (tE (sumN x (false, y.2)))]) ∧ Below w.heap.size w w' := by
  have H := two_ok l r x y w hl hr h h'
  clear h h'
  obtain ⟨x1, x2⟩ := x
  obtain ⟨y1, y2⟩ := y
  (dsimp only at hy1; subst hy1)
  have HT := Lib.hid H
  clear H
  obtain ⟨z, hz⟩ : ∃ z, z = sumN (x1, x2) (false, y2) := ⟨_, rfl⟩
  rw [← hz]
  have HS := Lib.hid hz
  clear hz
  go_enter Try.func33, Try.ntmps33
  go_upto_region 4 with (go_at_call 55; go_loud (refine HT.out.mono ?_; rintro e w1 ⟨hb1, A, A', n, n', c, c', rfl, hn, hn4, hc, hr1, hn', hn4', hc', hr1'⟩))
  skip
  skip
  go_upto_region 5 with (fail)
  obtain ⟨HX, HY, HB, HZ⟩ := two_box w1 62 62 [.bool x1, .slice A n c] [.bool false, .slice A' n' c']
  have hrW := hr1.keep HB
  have hrW' := hr1'.keep HB
  have HBB : Below w.heap.size w ((w1.alloc (.cells #[.bool x1, .slice A n c] 62)).alloc (.cells #[.bool false, .slice A' n' c'] 62)) := hb1.trans (HB.mono hb1.size)
  clear HB HZ
  generalize ((w1.alloc (.cells #[.bool x1, .slice A n c] 62)).alloc (.cells #[.bool false, .slice A' n' c'] 62)) = W at *
  have x0 := HX.out.cell' (i := 0) rfl
  have x1' := HX.out.cell' (i := 1) rfl
  have y0 := HY.out.cell' (i := 0) rfl
  have y1' := HY.out.cell' (i := 1) rfl
  have hs := sum_any x1 false A A' n n' c c' x2 _ W hn hn' hrW hrW' (by omega) (by omega)
  rw [← HS.out] at hs
  have HSUM := Lib.hid hs
  have hzl : (dg z.2).length ≤ 4294967296 := by
    rw [HS.out]
    have := sum_len (x := (x1, x2)) (y := (false, y2)) (k := 400) (by have := hn.out; dsimp only; omega) (by have := hn'.out; dsimp only; omega)
    omega
  clear hs
  go_wp2_with (first | (go_at_call 61; go_loud (refine HSUM.out.mono ?_; rintro e w5 ⟨v0, v1, rfl, ⟨A5, n5, c5, rfl, rfl, hn5, hc5, hr5, hf5⟩, hb5⟩)) | (go_at_call 42; go_loud (refine (text2_any _ A5 n5 c5 _ w5 hn5 hr5 (by rw [hn5.out]; exact hzl)).mono ?_; rintro e w6 ⟨rfl, hb6⟩)))
  go_ret2
  exact ⟨rfl, (HBB.trans (hb5.mono HBB.size)).trans (hb6.mono (by have := HBB.size; have := hb5.size; omega))⟩
set_option maxHeartbeats 2000000 in
theorem sub_z (l r : List Nat) (x y : Bool × Nat) (w : World) (hl : By l) (hr : By r) (h : parseC l = some x) (h' : parseC r = some y) (hy1 : y.1 = false) (hy2 : y.2 = 0) : Calls Try.prog 33 #[.string (mks l), .string (mks r)] w fun e w' =>
    e = .returned (.tuple #[.string (mks (tS (sumN x (false, y.2)))), .int .i64 (tE (sumN x (false, y.2)))]) ∧ Below w.heap.size w w' := by
  have H := two_ok l r x y w hl hr h h'
  clear h h'
  obtain ⟨x1, x2⟩ := x
  obtain ⟨y1, y2⟩ := y
  (dsimp only at hy1 hy2; subst hy1; subst hy2)
  have HT := Lib.hid H
  clear H
  obtain ⟨z, hz⟩ : ∃ z, z = sumN (x1, x2) (false, 0) := ⟨_, rfl⟩
  rw [← hz]
  have HS := Lib.hid hz
  clear hz
  go_enter Try.func33, Try.ntmps33
  go_upto_region 4 with (go_at_call 55; go_loud (refine HT.out.mono ?_; rintro e w1 ⟨hb1, A, A', n, n', c, c', rfl, hn, hn4, hc, hr1, hn', hn4', hc', hr1'⟩))
  (have hn0 : n' = 0 := by rw [hn'.out, dg_zero]; rfl)
  subst hn0
  go_upto_region 5 with (fail)
  obtain ⟨HX, HY, HB, HZ⟩ := two_box w1 62 62 [.bool x1, .slice A n c] [.bool false, .slice A' 0 c']
  have hrW := hr1.keep HB
  have hrW' := hr1'.keep HB
  have HBB : Below w.heap.size w ((w1.alloc (.cells #[.bool x1, .slice A n c] 62)).alloc (.cells #[.bool false, .slice A' 0 c'] 62)) := hb1.trans (HB.mono hb1.size)
  clear HB HZ
  generalize ((w1.alloc (.cells #[.bool x1, .slice A n c] 62)).alloc (.cells #[.bool false, .slice A' 0 c'] 62)) = W at *
  have x0 := HX.out.cell' (i := 0) rfl
  have x1' := HX.out.cell' (i := 1) rfl
  have y0 := HY.out.cell' (i := 0) rfl
  have y1' := HY.out.cell' (i := 1) rfl
  have hs := sum_any x1 false A A' n 0 c c' x2 _ W hn hn' hrW hrW' (by omega) (by omega)
  rw [← HS.out] at hs
  have HSUM := Lib.hid hs
  have hzl : (dg z.2).length ≤ 4294967296 := by
    rw [HS.out]
    have := sum_len (x := (x1, x2)) (y := (false, 0)) (k := 400) (by have := hn.out; dsimp only; omega) (by have := hn'.out; dsimp only; omega)
    omega
  clear hs
  go_wp2_with (first | (go_at_call 61; go_loud (refine HSUM.out.mono ?_; rintro e w5 ⟨v0, v1, rfl, ⟨A5, n5, c5, rfl, rfl, hn5, hc5, hr5, hf5⟩, hb5⟩)) | (go_at_call 42; go_loud (refine (text2_any _ A5 n5 c5 _ w5 hn5 hr5 (by rw [hn5.out]; exact hzl)).mono ?_; rintro e w6 ⟨rfl, hb6⟩)))
  go_ret2
  exact ⟨rfl, (HBB.trans (hb5.mono HBB.size)).trans (hb6.mono (by have := HBB.size; have := hb5.size; omega))⟩
set_option maxHeartbeats 2000000 in
theorem sub_p (l r : List Nat) (x y : Bool × Nat) (w : World) (hl : By l) (hr : By r) (h : parseC l = some x) (h' : parseC r = some y) (hy1 : y.1 = false) (hy2 : y.2 ≠ 0) : Calls Try.prog 33 #[.string (mks l), .string (mks r)] w fun e w' =>
    e = .returned (.tuple #[.string (mks (tS (sumN x (true, y.2)))), .int .i64 (tE (sumN x (true, y.2)))]) ∧ Below w.heap.size w w' := by
  have H := two_ok l r x y w hl hr h h'
  clear h h'
  obtain ⟨x1, x2⟩ := x
  obtain ⟨y1, y2⟩ := y
  (dsimp only at hy1 hy2; subst hy1)
  have HT := Lib.hid H
  clear H
  obtain ⟨z, hz⟩ : ∃ z, z = sumN (x1, x2) (true, y2) := ⟨_, rfl⟩
  rw [← hz]
  have HS := Lib.hid hz
  clear hz
  go_enter Try.func33, Try.ntmps33
  go_upto_region 4 with (go_at_call 55; go_loud (refine HT.out.mono ?_; rintro e w1 ⟨hb1, A, A', n, n', c, c', rfl, hn, hn4, hc, hr1, hn', hn4', hc', hr1'⟩))
  (have hn0 : 0 < n' := by have h1 := hn'.out; have : (dg y2).length ≠ 0 := fun h => hy2 (dg_length_zero.1 h); omega)
  skip
  go_upto_region 5 with (fail)
  obtain ⟨HX, HY, HB, HZ⟩ := two_box w1 62 62 [.bool x1, .slice A n c] [.bool true, .slice A' n' c']
  have hrW := hr1.keep HB
  have hrW' := hr1'.keep HB
  have HBB : Below w.heap.size w ((w1.alloc (.cells #[.bool x1, .slice A n c] 62)).alloc (.cells #[.bool true, .slice A' n' c'] 62)) := hb1.trans (HB.mono hb1.size)
  clear HB HZ
  generalize ((w1.alloc (.cells #[.bool x1, .slice A n c] 62)).alloc (.cells #[.bool true, .slice A' n' c'] 62)) = W at *
  have x0 := HX.out.cell' (i := 0) rfl
  have x1' := HX.out.cell' (i := 1) rfl
  have y0 := HY.out.cell' (i := 0) rfl
  have y1' := HY.out.cell' (i := 1) rfl
  have hs := sum_any x1 true A A' n n' c c' x2 _ W hn hn' hrW hrW' (by omega) (by omega)
  rw [← HS.out] at hs
  have HSUM := Lib.hid hs
  have hzl : (dg z.2).length ≤ 4294967296 := by
    rw [HS.out]
    have := sum_len (x := (x1, x2)) (y := (true, y2)) (k := 400) (by have := hn.out; dsimp only; omega) (by have := hn'.out; dsimp only; omega)
    omega
  clear hs
  go_wp2_with (first | (go_at_call 61; go_loud (refine HSUM.out.mono ?_; rintro e w5 ⟨v0, v1, rfl, ⟨A5, n5, c5, rfl, rfl, hn5, hc5, hr5, hf5⟩, hb5⟩)) | (go_at_call 42; go_loud (refine (text2_any _ A5 n5 c5 _ w5 hn5 hr5 (by rw [hn5.out]; exact hzl)).mono ?_; rintro e w6 ⟨rfl, hb6⟩)))
  go_ret2
  exact ⟨rfl, (HBB.trans (hb5.mono HBB.size)).trans (hb6.mono (by have := HBB.size; have := hb5.size; omega))⟩

theorem sub_ok (l r : List Nat) (x y : Bool × Nat) (w : World) (hl : By l) (hr : By r) (h : parseC l = some x) (h' : parseC r = some y) : Calls Try.prog 33 #[.string (mks l), .string (mks r)] w fun e w' =>
    e = .returned (.tuple #[.string (mks (tS (sumN x (negN y)))), .int .i64 (tE (sumN x (negN y)))]) ∧ Below w.heap.size w w' := by
  cases hy : y.1
  · by_cases h2 : y.2 = 0
    · have e : negN y = (false, y.2) := by unfold negN; rw [hy, h2]; rfl
      rw [e]; exact sub_z l r x y w hl hr h h' hy h2
    · have e : negN y = (true, y.2) := by unfold negN; rw [hy, decide_eq_true (by omega)]; rfl
      rw [e]; exact sub_p l r x y w hl hr h h' hy h2
  · have e : negN y = (false, y.2) := by unfold negN; rw [hy]; rfl
    rw [e]; exact sub_t l r x y w hl hr h h' hy

set_option maxHeartbeats 2000000 in
theorem add_bad (l r : List Nat) (w : World) (hl : By l) (hr : By r) (h : (parseC l).isSome = false ∨ (parseC r).isSome = false) : Calls Try.prog 32 #[.string (mks l), .string (mks r)] w fun e w' =>
    e = .returned (.tuple #[.string (mks []), .int .i64 3]) ∧ Below w.heap.size w w' := by
  have HT := Lib.hid (two_bad l r w hl hr h)
  clear h
  go_enter Try.func32, Try.ntmps32
  go_wp2_with (go_at_call 55; go_loud (refine HT.out.mono ?_; rintro e w1 ⟨hb1, b, b', A, A', n, n', c, c', rfl⟩))
  go_ret2
  exact ⟨rfl, (hb1.alloc hb1.size _).alloc (by have := hb1.size; simp; omega) _⟩
set_option maxHeartbeats 2000000 in
theorem sub_bad (l r : List Nat) (w : World) (hl : By l) (hr : By r) (h : (parseC l).isSome = false ∨ (parseC r).isSome = false) : Calls Try.prog 33 #[.string (mks l), .string (mks r)] w fun e w' =>
    e = .returned (.tuple #[.string (mks []), .int .i64 3]) ∧ Below w.heap.size w w' := by
  have HT := Lib.hid (two_bad l r w hl hr h)
  clear h
  go_enter Try.func33, Try.ntmps33
  go_wp2_with (go_at_call 55; go_loud (refine HT.out.mono ?_; rintro e w1 ⟨hb1, b, b', A, A', n, n', c, c', rfl⟩))
  go_ret2
  exact ⟨rfl, (hb1.alloc hb1.size _).alloc (by have := hb1.size; simp; omega) _⟩
set_option maxHeartbeats 2000000 in
theorem mul_bad (l r : List Nat) (w : World) (hl : By l) (hr : By r) (h : (parseC l).isSome = false ∨ (parseC r).isSome = false) : Calls Try.prog 25 #[.string (mks l), .string (mks r)] w fun e w' =>
    e = .returned (.tuple #[.string (mks []), .int .i64 3]) ∧ Below w.heap.size w w' := by
  have HT := Lib.hid (two_bad l r w hl hr h)
  clear h
  go_enter Try.func25, Try.ntmps25
  go_wp2_with (go_at_call 55; go_loud (refine HT.out.mono ?_; rintro e w1 ⟨hb1, b, b', A, A', n, n', c, c', rfl⟩))
  go_ret2
  exact ⟨rfl, (hb1.alloc hb1.size _).alloc (by have := hb1.size; simp; omega) _⟩

set_option maxHeartbeats 2000000 in
theorem divmod_bad (l r : List Nat) (w : World) (hl : By l) (hr : By r) (h : (parseC l).isSome = false ∨ (parseC r).isSome = false) : Calls Try.prog 26 #[.string (mks l), .string (mks r)] w fun e w' =>
    e = .returned (.tuple #[.string (mks []), .string (mks []), .int .i64 3]) ∧ Below w.heap.size w w' := by
  have HT := Lib.hid (two_bad l r w hl hr h)
  clear h
  go_enter Try.func26, Try.ntmps26
  go_wp2_with (go_at_call 55; go_loud (refine HT.out.mono ?_; rintro e w1 ⟨hb1, b, b', A, A', n, n', c, c', rfl⟩))
  go_ret3
  exact ⟨rfl, (hb1.alloc hb1.size _).alloc (by have := hb1.size; simp; omega) _⟩
end Go.Proofs.Ytgnddobonboloaa
