/- The reference's Fits. -/
import Derived.Test.YtgnddobonboloaaRBytes
import Derived.Test.YtgnddobonboloaaFits
import Derived.Test.YtgnddobonboloaaPlain2
namespace Go.Proofs.Ytgnddobonboloaa
open Go.RowKit
def rfitsB (neg : Bool) (m L : Nat) : Bool := if neg then decide (m ≤ L) else decide (m < L)
theorem dg_one' : dg 1 = [1] := by rw [dg_pos (by omega)]; simp [dg_zero]
theorem cmp_lt0 (m L : Nat) : decide (cmpN m L < 0) = rfitsB false m L := by
  unfold cmpN rfitsB
  rw [Bool.eq_iff_iff]
  simp only [decide_eq_true_eq, Bool.false_eq_true, if_false]
  split <;> (try split) <;> omega
theorem cmp_le0 (m L : Nat) : decide (cmpN m L ≤ 0) = rfitsB true m L := by
  unfold cmpN rfitsB
  rw [Bool.eq_iff_iff]
  simp only [decide_eq_true_eq, if_true]
  split <;> (try split) <;> omega
theorem rfits_true {neg : Bool} {m j : Nat} (hj : m < 2 ^ j) : rfitsB neg m (2 ^ j) = true := by
  unfold rfitsB
  cases neg
  · exact decide_eq_true hj
  · exact decide_eq_true (Nat.le_of_lt hj)
theorem rfits_plain {neg : Bool} {m d : Nat} {bits : Int} {k : Nat} (hm : (dg m).length ≤ d) (hd : d ≤ 400) (hb : 1 ≤ bits) (hk : (k : Int) + 1 ≤ bits) (he : (k : Int) + 1 = bits ∨ 401 < (dg (2 ^ k)).length) (hneg : neg = true → 0 < m) :
    rfitsB neg m (2 ^ k) = fitsP (some (neg, m)) bits := by
  have h10 : m < 10 ^ d := dg_len_le.1 hm
  have hbig : 401 < (dg (2 ^ k)).length → m < 2 ^ k := by
    intro hj
    by_cases h : m < 2 ^ k
    · exact h
    · have := dg_len_mono (show 2 ^ k ≤ m by omega)
      omega
  have h16 : m < 2 ^ (4 * d) := by
    have h1 : (10 : Nat) ^ d ≤ (2 ^ 4) ^ d := Nat.pow_le_pow_left (by decide) d
    rw [← Nat.pow_mul] at h1
    exact Nat.lt_of_lt_of_le h10 h1
  unfold fitsP
  dsimp only
  rw [if_neg (by omega)]
  by_cases hgt : 1600 < bits
  · rw [if_pos hgt]
    rcases he with he | he
    · exact rfits_true (Nat.lt_of_lt_of_le h16 (Nat.pow_le_pow_right (by decide) (by omega)))
    · exact rfits_true (hbig he)
  · rw [if_neg hgt]
    rcases he with he | he
    · have e : bits.toNat - 1 = k := by omega
      rw [e]
      unfold rfitsB
      cases neg
      · simp
      · simp only [if_true, Bool.true_and]
        rw [Bool.eq_iff_iff]
        simp
        omega
    · rw [rfits_true (hbig he)]
      have h1 := hbig he
      have h2 : 2 ^ k ≤ 2 ^ (bits.toNat - 1) := Nat.pow_le_pow_right (by decide) (by omega)
      rw [decide_eq_true (show m < 2 ^ (bits.toNat - 1) by omega)]
      rfl

theorem rfits_lo (b : Bool) (A : Option Addr) (n c m : Nat) (bits : Int) (w : World) (hb : bits < 1) : Calls Try.prog 22 #[.agg #[.bool b, .slice A n c], .int .i64 bits] w fun e w' => e = .returned (.bool (fitsP (some (b, m)) bits)) ∧ Below w.heap.size w w' := by
  rw [show fitsP (some (b, m)) bits = false from by unfold fitsP; exact if_pos hb]
  go_enter Try.func22, Try.ntmps22
  go_wp2
  go_ret
  exact ⟨rfl, (Below.refl _ _).alloc (Nat.le_refl _) _⟩

theorem pow2_step (k : Nat) (h : (dg (2 ^ k)).length ≤ 401) : (dg (2 ^ (k + 1))).length ≤ 402 := by
  rw [Nat.pow_succ]
  exact dg_len_dbl h (by omega)

set_option maxHeartbeats 4000000 in
theorem rfits_in (b : Bool) (A : Option Addr) (n c m : Nat) (bits : Int) (w : World) (hn : Hid (n = (dg m).length)) (hr : Rd w A (B8 (dg m))) (hm : n ≤ 400) (hb0 : 1 ≤ bits) (hb9 : bits ≤ 9223372036854775807) (hneg : b = true → 0 < m) :
    Calls Try.prog 22 #[.agg #[.bool b, .slice A n c], .int .i64 bits] w fun e w' => e = .returned (.bool (fitsP (some (b, m)) bits)) ∧ Below w.heap.size w w' := by
  obtain ⟨bb, rfl⟩ := Int.eq_ofNat_of_zero_le (show 0 ≤ bits by omega)
  have HX : Hid (Arr (w.alloc (.cells #[.bool b, .slice A n c] 28)) w.heap.size 28 [.bool b, .slice A n c]) := Arr.new w _ _
  have hBW : Below w.heap.size w (w.alloc (.cells #[.bool b, .slice A n c] 28)) := (Below.refl _ _).alloc (Nat.le_refl _) _
  have hsW : w.heap.size + 1 ≤ (w.alloc (.cells #[.bool b, .slice A n c] 28)).heap.size := by simp
  have HP : Hid (∀ k : Nat, k + 1 ≤ bb → (k + 1 = bb ∨ 401 < (dg (2 ^ k)).length) → rfitsB b m (2 ^ k) = fitsP (some (b, m)) (bb : Int)) := fun k h1 h2 => rfits_plain (d := 400) (by have := hn.out; omega) (Nat.le_refl _) (by omega) (by omega) (by omega) hneg
  generalize fitsP (some (b, m)) (bb : Int) = R at *
  go_enter Try.func22, Try.ntmps22
  go_upto_region 1 with (fail)
  generalize (w.alloc (.cells #[.bool b, .slice A n c] 28)) = W at *
  go_wp2
  go_loopw [5, 6] (fun lv iv wr => ∃ (k : Nat) (A1 : Option Addr) (n1 c1 : Nat), k + 1 ≤ bb ∧ iv = .int .i64 ((k + 1 : Nat) : Int) ∧ lv = .slice A1 n1 c1 ∧ Hid (n1 = (dg (2 ^ k)).length) ∧ n1 ≤ 402 ∧ n1 ≤ c1 ∧ Rd wr A1 (B8 (dg (2 ^ k))) ∧ Below (w.heap.size + 1) W wr) (fun _ iv _ => bb - (intOf iv).toNat)
  case atStart =>
    refine ⟨0, some ⟨W.heap.size, 0, none⟩, 1, 1, by omega, rfl, rfl, by show _ = _; rw [Nat.pow_zero, dg_one']; rfl, by omega, Nat.le_refl _, ?_, (Below.refl _ _).alloc hsW _⟩
    rw [Nat.pow_zero, dg_one']
    exact (Arr.new W 5 [.int .u8 1]).rd
  case round =>
    obtain ⟨k, A1, n1, c1, hk, rfl, rfl, hn1, hnb, hc1, hr1, hb⟩ := hrel
    have hbs := hb.size
    have x0 := (HX.out.below hb (by omega)).cell' (i := 0) rfl
    have x1 := (HX.out.below hb (by omega)).cell' (i := 1) rfl
    have hBB := hBW.trans (hb.mono (by omega))
    by_cases hgo : k + 1 < bb ∧ n1 ≤ 401
    · obtain ⟨hg1, hg2⟩ := hgo
      have hg1' : ((k + 1 : Nat) : Int) < (bb : Int) := by omega
      have hsc := scale_any A1 n1 c1 (2 ^ k) 2 0 wr hn1 hr1 (by omega) (by omega) (by omega) (by omega) (by omega)
      rw [show 2 ^ k * (2 : Int).toNat + (0 : Int).toNat = 2 ^ (k + 1) from by rw [Nat.pow_succ]; simp] at hsc
      have HSC := Lib.hid hsc
      have HL := Lib.hid (pow2_step k (by have := hn1.out; omega))
      clear hsc
      go_wp2_with (go_at_call 45; go_loud (refine HSC.out.mono ?_; rintro e w5 ⟨A5, n5, c5, rfl, hn5, hc5, hr5, hf5, hb5⟩))
      go_roundw
      case rel => exact ⟨k + 1, A5, n5, c5, by omega, by go_num, rfl, by have := hn5.out; rw [length_B8] at this; exact this, by have := hn5.out; rw [length_B8] at this; have := HL.out; omega, hc5, hr5, hb.trans (hb5.mono (by omega))⟩
      case measure => simp [intOf]; omega
    · have hR := HP.out k hk (by have := hn1.out; omega)
      have HSZ := Lib.hid (rsize_any A A1 n n1 c c1 m (2 ^ k) wr hn hn1 (hr.keep hBB) hr1 (by omega) (by omega))
      have HRR := Lib.hid hR
      clear hR HP
      have hex : (¬ ((k + 1 : Nat) : Int) < (bb : Int)) ∨ (((k + 1 : Nat) : Int) < (bb : Int) ∧ ¬ (n1 : Int) ≤ 401) := by omega
      clear hgo
      rcases hex with h1 | ⟨h1, h2⟩ <;> cases b
      all_goals
        go_wp2_with (go_at_call 53; go_loud (refine HSZ.out.mono ?_; rintro e w6 ⟨rfl, k6, rfl⟩))
        go_ret
        refine ⟨?_, Below.drewN' hBB k6⟩
        rw [← HRR.out]
        first | rw [← cmp_lt0] | rw [← cmp_le0]
        rfl
theorem rfits_any (x : Bool × Nat) (A : Option Addr) (n c : Nat) (bits : Int) (w : World) (hn : Hid (n = (dg x.2).length)) (hr : Rd w A (B8 (dg x.2))) (hm : n ≤ 400) (hb9 : bits ≤ 9223372036854775807) (hx : x.1 = true → 0 < x.2) :
    Calls Try.prog 22 #[.agg #[.bool x.1, .slice A n c], .int .i64 bits] w fun e w' => e = .returned (.bool (fitsP (some x) bits)) ∧ Below w.heap.size w w' := by
  by_cases h : bits < 1
  · exact rfits_lo x.1 A n c x.2 bits w h
  · exact rfits_in x.1 A n c x.2 bits w hn hr hm (by omega) hb9 hx
end Go.Proofs.Ytgnddobonboloaa
