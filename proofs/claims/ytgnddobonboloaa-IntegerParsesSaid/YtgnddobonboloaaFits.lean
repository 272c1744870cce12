/- The walk of Fits of integer. -/
import Derived.Test.YtgnddobonboloaaCmp
namespace Go.Proofs.Ytgnddobonboloaa
open Go.RowKit

def fitsP (o : Option (Bool × Nat)) (bits : Int) : Bool :=
  match o with
  | none => false
  | some (neg, m) => if bits < 1 then false else if 1600 < bits then true else decide (m < 2 ^ (bits.toNat - 1)) || (neg && decide (m = 2 ^ (bits.toNat - 1)))

theorem pow2_len (k : Nat) : (dg (2 ^ k)).length ≤ k + 1 := by
  refine dg_len_le.2 ?_
  induction k with
  | zero => simp
  | succ k ih => rw [Nat.pow_succ, Nat.pow_succ]; omega

set_option maxHeartbeats 2000000 in
theorem fits_bad (l : List Nat) (bits : Int) (w : World) (hl : By l) (h : parseC l = none) : Calls Try.prog 21 #[.string (mks l), .int .i64 bits] w fun e w' =>
    e = .returned (.bool false) ∧ Below w.heap.size w w' := by
  have H1 := Lib.hid (read_bad l w hl h)
  clear h
  go_enter Try.func21, Try.ntmps21
  go_wp2_with (go_at_call 48; go_loud (refine H1.out.mono ?_; rintro e w1 ⟨rfl, hb1⟩))
  go_ret
  exact ⟨rfl, hb1.alloc hb1.size _⟩

set_option maxHeartbeats 2000000 in
theorem fits_lt (l : List Nat) (x : Bool × Nat) (bits : Int) (w : World) (hl : By l) (h : parseC l = some x) (hb : bits < 1) : Calls Try.prog 21 #[.string (mks l), .int .i64 bits] w fun e w' =>
    e = .returned (.bool false) ∧ Below w.heap.size w w' := by
  have H1 := Lib.hid (read_ok l x w hl h)
  clear h
  go_enter Try.func21, Try.ntmps21
  go_wp2_with (go_at_call 48; go_loud (refine H1.out.mono ?_; rintro e w1 ⟨A, n, c, rfl, hn, hn4, hc, hr1, hb1⟩))
  go_ret
  exact ⟨rfl, hb1.alloc hb1.size _⟩
set_option maxHeartbeats 2000000 in
theorem fits_gt (l : List Nat) (x : Bool × Nat) (bits : Int) (w : World) (hl : By l) (h : parseC l = some x) (hb : 1600 < bits) : Calls Try.prog 21 #[.string (mks l), .int .i64 bits] w fun e w' =>
    e = .returned (.bool true) ∧ Below w.heap.size w w' := by
  have H1 := Lib.hid (read_ok l x w hl h)
  clear h
  go_enter Try.func21, Try.ntmps21
  go_wp2_with (go_at_call 48; go_loud (refine H1.out.mono ?_; rintro e w1 ⟨A, n, c, rfl, hn, hn4, hc, hr1, hb1⟩))
  go_ret
  exact ⟨rfl, hb1.alloc hb1.size _⟩

set_option maxHeartbeats 4000000 in
theorem fits_in (l : List Nat) (x1 : Bool) (x2 : Nat) (b : Nat) (w : World) (hl : By l) (h : parseC l = some (x1, x2)) (hb1 : 1 ≤ b) (hb2 : b ≤ 1600) : Calls Try.prog 21 #[.string (mks l), .int .i64 (b : Int)] w fun e w' =>
    e = .returned (.bool (decide (x2 < 2 ^ (b - 1)) || (x1 && decide (x2 = 2 ^ (b - 1))))) ∧ Below w.heap.size w w' := by
  have H1 := Lib.hid (read_ok l (x1, x2) w hl h)
  clear h
  obtain ⟨res, hres⟩ : ∃ res, res = (decide (x2 < 2 ^ (b - 1)) || (x1 && decide (x2 = 2 ^ (b - 1)))) := ⟨_, rfl⟩
  rw [← hres]
  have HRES := Lib.hid hres
  clear hres
  go_enter Try.func21, Try.ntmps21
  go_upto_region 6 with (go_at_call 48; go_loud (refine H1.out.mono ?_; rintro e w1 ⟨A, n, c, rfl, hn, hn4, hc, hr1, hb1'⟩))
  have HX := Lib.hid (Arr.new w1 62 [.bool x1, .slice A n c])
  have hBW : Below w.heap.size w (w1.alloc (.cells #[.bool x1, .slice A n c] 62)) := hb1'.alloc hb1'.size _
  have hrW := hr1.alloc (.cells #[.bool x1, .slice A n c] 62)
  have hsW : (w1.alloc (.cells #[.bool x1, .slice A n c] 62)).heap.size = w1.heap.size + 1 := by simp
  have hw1 := hb1'.size
  clear hr1 hb1'
  generalize (w1.alloc (.cells #[.bool x1, .slice A n c] 62)) = W at *
  go_wp2
  have h1p : Rd (W.alloc (.cells #[.int .u8 1] 5)) (some ⟨W.heap.size, 0, none⟩) (B8 (dg (2 ^ 0))) := by
    have e : dg (2 ^ 0) = [1] := dg_one
    rw [e]; exact (Arr.new W 5 [.int .u8 1]).rd
  rw [hsW] at h1p
  have h1l : Hid (1 = (dg (2 ^ 0)).length) := by show _ = _; rw [show (2 : Nat) ^ 0 = 1 from rfl, dg_one]; rfl
  have hBW1 : Below W.heap.size W (W.alloc (.cells #[.int .u8 1] 5)) := (Below.refl _ _).alloc (Nat.le_refl _) _
  go_loopw [7, 25] (fun pv iv wr => ∃ (k : Nat) (A1 : Option Addr) (n1 c1 : Nat), k ≤ b - 1 ∧ iv = .int .i64 k ∧ pv = .slice A1 n1 c1 ∧ Hid (n1 = (dg (2 ^ k)).length) ∧ Rd wr A1 (B8 (dg (2 ^ k))) ∧ Below W.heap.size W wr)
    (fun _ iv _ => b - 1 - (intOf iv).toNat)
  case atStart => exact ⟨0, some ⟨w1.heap.size + 1, 0, none⟩, 1, 1, by omega, rfl, rfl, h1l, h1p, hBW1⟩
  case round =>
    clear h1l h1p hBW1
    obtain ⟨k, A1, n1, c1, hk, rfl, rfl, hn1, hr1, hb⟩ := hrel
    have hn1b : n1 ≤ 4294967296 := by have := hn1.out; have := pow2_len k; omega
    have hx0 := (HX.out)
    by_cases hlt : k < b - 1
    · have hk2 : (k : Int) < (b : Int) - 1 := by omega
      have hpl := plus_any A1 A1 n1 c1 n1 c1 (2 ^ k) (2 ^ k) wr hn1 hn1 hr1 hr1 hn1b hn1b
      have e2 : 2 ^ k + 2 ^ k = 2 ^ (k + 1) := by rw [Nat.pow_succ]; omega
      rw [e2] at hpl
      have HPL := Lib.hid hpl
      clear hpl e2
      go_wp2_with (go_at_call 51; go_loud (refine HPL.out.mono ?_; rintro e w5 ⟨A5, n5, c5, rfl, hn5, hc5, hr5, hf5, hb5⟩))
      go_roundw
      case rel => exact ⟨k + 1, A5, n5, c5, by omega, by go_num, rfl, by have := hn5.out; rw [length_B8] at this; exact this, hr5, hb.trans (hb5.mono hb.size)⟩
      case measure => simp [intOf]; omega
    · obtain rfl : k = b - 1 := by omega
      have hk2 : ¬ ((b - 1 : Nat) : Int) < (b : Int) - 1 := by omega
      have q0 := (HX.out.keep hb).cell' (i := 0) rfl
      have q1 := (HX.out.keep hb).cell' (i := 1) rfl
      have hrr := hrW.keep hb
      have hsz := size_any A A1 n n1 c c1 x2 (2 ^ (b - 1)) wr hn hn1 hrr hr1 (by omega) hn1b
      have hBe := hBW.trans (hb.mono hBW.size)
      generalize 2 ^ (b - 1) = P at *
      rcases Nat.lt_trichotomy x2 P with hc | hc | hc
      · have hcm : cmpN x2 P = -1 := by unfold cmpN; rw [if_pos hc]
        rw [hcm] at hsz
        have hr : res = true := by rw [HRES.out, decide_eq_true hc]; rfl
        have HSZ := Lib.hid hsz
        have HR := Lib.hid hr
        clear hsz hcm hr hc
        go_wp2_with (go_at_call 52; go_loud (refine HSZ.out.mono ?_; rintro e w6 ⟨rfl, k6, rfl⟩))
        go_ret
        exact ⟨by rw [HR.out]; rfl, Below.drewN' hBe k6⟩
      · have hcm : cmpN x2 P = 0 := by unfold cmpN; rw [if_neg (by omega), if_pos hc]
        rw [hcm] at hsz
        have hr : res = x1 := by rw [HRES.out, decide_eq_false (by omega), decide_eq_true hc]; simp
        have HSZ := Lib.hid hsz
        have HR := Lib.hid hr
        clear hsz hcm hr hc
        cases x1
        all_goals
          go_wp2_with (go_at_call 52; go_loud (refine HSZ.out.mono ?_; rintro e w6 ⟨rfl, k6, rfl⟩))
          go_ret
          exact ⟨by rw [HR.out]; rfl, Below.drewN' hBe k6⟩
      · have hcm : cmpN x2 P = 1 := by unfold cmpN; rw [if_neg (by omega), if_neg (by omega)]
        rw [hcm] at hsz
        have hr : res = false := by rw [HRES.out, decide_eq_false (by omega), decide_eq_false (by omega)]; simp
        have HSZ := Lib.hid hsz
        have HR := Lib.hid hr
        clear hsz hcm hr hc
        cases x1
        all_goals
          go_wp2_with (go_at_call 52; go_loud (refine HSZ.out.mono ?_; rintro e w6 ⟨rfl, k6, rfl⟩))
          go_ret
          exact ⟨by rw [HR.out]; rfl, Below.drewN' hBe k6⟩

theorem fits_any (l : List Nat) (bits : Int) (w : World) (hl : By l) : Calls Try.prog 21 #[.string (mks l), .int .i64 bits] w fun e w' =>
    e = .returned (.bool (fitsP (parseC l) bits)) ∧ Below w.heap.size w w' := by
  cases h : parseC l with
  | none => exact fits_bad l bits w hl h
  | some x =>
    unfold fitsP
    by_cases h1 : bits < 1
    · simp only [if_pos h1]; exact fits_lt l x bits w hl h h1
    · by_cases h2 : 1600 < bits
      · simp only [if_neg h1, if_pos h2]; exact fits_gt l x bits w hl h h2
      · simp only [if_neg h1, if_neg h2]
        obtain ⟨b, rfl⟩ := Int.eq_ofNat_of_zero_le (show 0 ≤ bits by omega)
        exact fits_in l x.1 x.2 b w hl h (by omega) (by omega)
end Go.Proofs.Ytgnddobonboloaa
