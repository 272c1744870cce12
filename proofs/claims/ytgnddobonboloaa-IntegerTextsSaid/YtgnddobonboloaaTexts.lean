/- IntegerTexts: the walk. -/
import Derived.Test.YtgnddobonboloaaRDigits
import Derived.Test.YtgnddobonboloaaLaw2
namespace Go.Proofs.Ytgnddobonboloaa
open Go.RowKit

theorem itext_any (b : Nat) (neg : Bool) (m : Nat) (w : World) (hk : knownB (b : Int) = true) (hm : (dg m).length ≤ 400) : Calls Try.prog 30 #[.string (mks (ntx neg m)), .int .i64 (b : Int)] w fun e w' =>
    e = .returned (.tuple #[.string (mks (dtx b neg m)), .int .i64 0]) ∧ Below w.heap.size w w' := by
  have hp := parseC_ntx neg m hm
  by_cases h10 : b = 10
  · subst h10
    rw [dtx_ten]
    exact itext_ten (ntx neg m) _ w hk (by_ntx neg m) hp trivial
  · by_cases h0 : m = 0
    · subst h0
      have e : dtx b neg 0 = ntx neg 0 := by unfold dtx ntx; rw [if_pos rfl, if_pos rfl]
      rw [e]
      exact itext_z (ntx neg 0) _ (b : Int) w hk (by_ntx neg 0) hp rfl (by simp; omega)
    · rw [decide_eq_true (show 0 < m by omega), Bool.and_true] at hp
      have e : dtx b neg m = (if neg then [45] else []) ++ (dgb b m).reverse.map hexch := by unfold dtx; rw [if_neg h0]
      rw [e]
      cases neg
      · exact itext_digits_p (ntx false m) m b w hk (by_ntx false m) hp h0 h10
      · exact itext_digits_n (ntx true m) m b w hk (by_ntx true m) hp h0 h10

set_option maxRecDepth 100000 in
set_option maxHeartbeats 8000000 in
theorem texts_un (b1 : Bool) (l1 : List Nat) (n1 : Nat) (base : Int) (w : World) (h1 : By l1) (k1 : n1 < 65536) (hk : knownB base = false) :
    Calls Try.prog 6 #[.agg #[.bool b1, .string (mks l1), .int .u16 (n1 : Int)], .int .i64 base] w fun e w' => e = .returned (.bool true) ∧ Below w.heap.size w w' := by
  obtain ⟨HX, HBd, HZ⟩ := boxes1 w 36 [.bool b1, .string (mks l1), .int .u16 (n1 : Int)]
  have hb : base ≠ 2 ∧ base ≠ 8 ∧ base ≠ 10 ∧ base ≠ 16 := by unfold knownB at hk; have := of_decide_eq_false hk; omega
  have g2 : (base == 2) = false := by simp; omega
  have q2 : (base != 2) = true := by simp; omega
  have g8 : (base == 8) = false := by simp; omega
  have q8 : (base != 8) = true := by simp; omega
  have g10 : (base == 10) = false := by simp; omega
  have q10 : (base != 10) = true := by simp; omega
  have g16 : (base == 16) = false := by simp; omega
  have q16 : (base != 16) = true := by simp; omega
  have C1 := fun l w => itext_unknown l base w hk
  simp only [show (⟨#[]⟩ : ByteArray) = mks [] from rfl] at C1
  have he : ((mks ([] : List Nat)).toList == []) = true := by rw [toList_mks]; rfl
  have D1 := Lib.hid C1
  clear C1 hk hb
  go_enter Try.func6, Try.ntmps6
  go_wp2_with (first | (go_at_call 17; (with_reducible refine (lawtext_any b1 l1 n1 _ h1 k1).mono ?_); rintro e wn ⟨m1, ⟨⟩, hm1, hbn⟩; replace HBd := HBd.trans (hbn.mono HBd.size); clear hbn) | (go_at_call 30; ((with_reducible refine (D1.out _ _).mono ?_)); rintro e wn ⟨rfl, rfl⟩) | (go_at_call 11; ((with_reducible refine (awake_any _).mono ?_)); rintro e wn ⟨rfl, hbn⟩; replace HBd := HBd.trans (hbn.mono HBd.size); clear hbn))
  exact bodyPost_ret (v := .bool true) (by simp [results, Try.results6, go_sem]) rfl ⟨rfl, HBd⟩

set_option maxRecDepth 100000 in
set_option maxHeartbeats 8000000 in
theorem texts_a (b1 : Bool) (l1 : List Nat) (n1 : Nat) (w : World) (h1 : By l1) (k1 : n1 < 65536) :
    Calls Try.prog 6 #[.agg #[.bool b1, .string (mks l1), .int .u16 (n1 : Int)], .int .i64 2] w fun e w' => e = .returned (.bool true) ∧ Below w.heap.size w w' := by
  obtain ⟨HX, HBd, HZ⟩ := boxes1 w 36 [.bool b1, .string (mks l1), .int .u16 (n1 : Int)]
  go_enter Try.func6, Try.ntmps6
  go_upto_region 2 with (go_at_call 17; (with_reducible refine (lawtext_any b1 l1 n1 _ h1 k1).mono ?_); rintro e wn ⟨m1, ⟨⟩, hm1, hbn⟩; replace HBd := HBd.trans (hbn.mono HBd.size); clear hbn)
  have hk : knownB ((2 : Nat) : Int) = true := by decide
  have C1 := fun w => itext_any 2 b1 m1 w hk hm1
  have C2 := fun w => parse_any (dtx 2 b1 m1) ((2 : Nat) : Int) w (by_dtx b1 (by omega) (by omega)) (by have := len_dtx (b := 2) b1 (by omega) hm1; omega)
  rw [parR_dtx b1 hk hm1] at C2
  have C3 := fun w => of_ntx b1 m1 w hm1
  have hlx : (dg (b1 && decide (0 < m1), m1).2).length ≤ 400 := hm1
  have hdx : dtx 2 b1 m1 = dtx 2 (b1 && decide (0 < m1), m1).1 (b1 && decide (0 < m1), m1).2 := by
    by_cases h0 : m1 = 0
    · subst h0; unfold dtx; rw [if_pos rfl, if_pos rfl]
    · simp only [decide_eq_true (show 0 < m1 by omega), Bool.and_true]
  generalize (b1 && decide (0 < m1), m1) = x at *
  have C4 := fun A n c w (hn : Hid (n = (dg x.2).length)) (hr : Rd w A (B8 (dg x.2))) => rdigits_any x.1 A n c x.2 2 w hn hr (by have := hn.out; omega) (by omega) (by omega)
  rw [← hdx] at C4
  change ∀ w, Calls _ _ #[_, .int .i64 2] _ _ at C1
  change ∀ w, Calls _ _ #[_, .int .i64 2] _ _ at C2
  change ∀ A n c w, _ → _ → Calls _ _ #[_, .int .i64 2] _ _ at C4
  generalize mks (dtx 2 b1 m1) = S at *
  generalize mks (ntx b1 m1) = A at *
  have D1 := Lib.hid C1
  have D2 := Lib.hid C2
  have D3 := Lib.hid C3
  have D4 := Lib.hid C4
  clear C1 C2 C3 C4 hdx
  go_wp2_with (first | (go_at_call 30; ((with_reducible refine (D1.out _).mono ?_)); rintro e wn ⟨rfl, hbn⟩; replace HBd := HBd.trans (hbn.mono HBd.size); clear hbn) | (go_at_call 12; ((with_reducible refine (D2.out _).mono ?_)); rintro e wn ⟨rfl, hbn⟩; replace HBd := HBd.trans (hbn.mono HBd.size); clear hbn) | (go_at_call 18; ((with_reducible refine (D3.out _).mono ?_)); rintro e wn ⟨A5, n5, c5, rfl, hn5, hc5, hr5, hf5, hbn⟩; replace HBd := HBd.trans (hbn.mono HBd.size); clear hbn) | (go_at_call 31; ((with_reducible refine (D4.out A5 n5 c5 _ hn5 hr5).mono ?_)); rintro e wn ⟨rfl, hbn⟩; replace HBd := HBd.trans (hbn.mono HBd.size); clear hbn) | (go_at_call 11; ((with_reducible refine (awake_any _).mono ?_)); rintro e wn ⟨rfl, hbn⟩; replace HBd := HBd.trans (hbn.mono HBd.size); clear hbn))
  exact bodyPost_ret (v := .bool true) (by simp [results, Try.results6, go_sem]) rfl ⟨rfl, HBd⟩
set_option maxRecDepth 100000 in
set_option maxHeartbeats 8000000 in
theorem texts_b (b1 : Bool) (l1 : List Nat) (n1 : Nat) (w : World) (h1 : By l1) (k1 : n1 < 65536) :
    Calls Try.prog 6 #[.agg #[.bool b1, .string (mks l1), .int .u16 (n1 : Int)], .int .i64 8] w fun e w' => e = .returned (.bool true) ∧ Below w.heap.size w w' := by
  obtain ⟨HX, HBd, HZ⟩ := boxes1 w 36 [.bool b1, .string (mks l1), .int .u16 (n1 : Int)]
  go_enter Try.func6, Try.ntmps6
  go_upto_region 2 with (go_at_call 17; (with_reducible refine (lawtext_any b1 l1 n1 _ h1 k1).mono ?_); rintro e wn ⟨m1, ⟨⟩, hm1, hbn⟩; replace HBd := HBd.trans (hbn.mono HBd.size); clear hbn)
  have hk : knownB ((8 : Nat) : Int) = true := by decide
  have C1 := fun w => itext_any 8 b1 m1 w hk hm1
  have C2 := fun w => parse_any (dtx 8 b1 m1) ((8 : Nat) : Int) w (by_dtx b1 (by omega) (by omega)) (by have := len_dtx (b := 8) b1 (by omega) hm1; omega)
  rw [parR_dtx b1 hk hm1] at C2
  have C3 := fun w => of_ntx b1 m1 w hm1
  have hlx : (dg (b1 && decide (0 < m1), m1).2).length ≤ 400 := hm1
  have hdx : dtx 8 b1 m1 = dtx 8 (b1 && decide (0 < m1), m1).1 (b1 && decide (0 < m1), m1).2 := by
    by_cases h0 : m1 = 0
    · subst h0; unfold dtx; rw [if_pos rfl, if_pos rfl]
    · simp only [decide_eq_true (show 0 < m1 by omega), Bool.and_true]
  generalize (b1 && decide (0 < m1), m1) = x at *
  have C4 := fun A n c w (hn : Hid (n = (dg x.2).length)) (hr : Rd w A (B8 (dg x.2))) => rdigits_any x.1 A n c x.2 8 w hn hr (by have := hn.out; omega) (by omega) (by omega)
  rw [← hdx] at C4
  change ∀ w, Calls _ _ #[_, .int .i64 8] _ _ at C1
  change ∀ w, Calls _ _ #[_, .int .i64 8] _ _ at C2
  change ∀ A n c w, _ → _ → Calls _ _ #[_, .int .i64 8] _ _ at C4
  generalize mks (dtx 8 b1 m1) = S at *
  generalize mks (ntx b1 m1) = A at *
  have D1 := Lib.hid C1
  have D2 := Lib.hid C2
  have D3 := Lib.hid C3
  have D4 := Lib.hid C4
  clear C1 C2 C3 C4 hdx
  go_wp2_with (first | (go_at_call 30; ((with_reducible refine (D1.out _).mono ?_)); rintro e wn ⟨rfl, hbn⟩; replace HBd := HBd.trans (hbn.mono HBd.size); clear hbn) | (go_at_call 12; ((with_reducible refine (D2.out _).mono ?_)); rintro e wn ⟨rfl, hbn⟩; replace HBd := HBd.trans (hbn.mono HBd.size); clear hbn) | (go_at_call 18; ((with_reducible refine (D3.out _).mono ?_)); rintro e wn ⟨A5, n5, c5, rfl, hn5, hc5, hr5, hf5, hbn⟩; replace HBd := HBd.trans (hbn.mono HBd.size); clear hbn) | (go_at_call 31; ((with_reducible refine (D4.out A5 n5 c5 _ hn5 hr5).mono ?_)); rintro e wn ⟨rfl, hbn⟩; replace HBd := HBd.trans (hbn.mono HBd.size); clear hbn) | (go_at_call 11; ((with_reducible refine (awake_any _).mono ?_)); rintro e wn ⟨rfl, hbn⟩; replace HBd := HBd.trans (hbn.mono HBd.size); clear hbn))
  exact bodyPost_ret (v := .bool true) (by simp [results, Try.results6, go_sem]) rfl ⟨rfl, HBd⟩
set_option maxRecDepth 100000 in
set_option maxHeartbeats 8000000 in
theorem texts_c (b1 : Bool) (l1 : List Nat) (n1 : Nat) (w : World) (h1 : By l1) (k1 : n1 < 65536) :
    Calls Try.prog 6 #[.agg #[.bool b1, .string (mks l1), .int .u16 (n1 : Int)], .int .i64 10] w fun e w' => e = .returned (.bool true) ∧ Below w.heap.size w w' := by
  obtain ⟨HX, HBd, HZ⟩ := boxes1 w 36 [.bool b1, .string (mks l1), .int .u16 (n1 : Int)]
  go_enter Try.func6, Try.ntmps6
  go_upto_region 2 with (go_at_call 17; (with_reducible refine (lawtext_any b1 l1 n1 _ h1 k1).mono ?_); rintro e wn ⟨m1, ⟨⟩, hm1, hbn⟩; replace HBd := HBd.trans (hbn.mono HBd.size); clear hbn)
  have hk : knownB ((10 : Nat) : Int) = true := by decide
  have C1 := fun w => itext_any 10 b1 m1 w hk hm1
  have C2 := fun w => parse_any (dtx 10 b1 m1) ((10 : Nat) : Int) w (by_dtx b1 (by omega) (by omega)) (by have := len_dtx (b := 10) b1 (by omega) hm1; omega)
  rw [parR_dtx b1 hk hm1] at C2
  have C3 := fun w => of_ntx b1 m1 w hm1
  have hlx : (dg (b1 && decide (0 < m1), m1).2).length ≤ 400 := hm1
  have hdx : dtx 10 b1 m1 = dtx 10 (b1 && decide (0 < m1), m1).1 (b1 && decide (0 < m1), m1).2 := by
    by_cases h0 : m1 = 0
    · subst h0; unfold dtx; rw [if_pos rfl, if_pos rfl]
    · simp only [decide_eq_true (show 0 < m1 by omega), Bool.and_true]
  generalize (b1 && decide (0 < m1), m1) = x at *
  have C4 := fun A n c w (hn : Hid (n = (dg x.2).length)) (hr : Rd w A (B8 (dg x.2))) => rdigits_any x.1 A n c x.2 10 w hn hr (by have := hn.out; omega) (by omega) (by omega)
  rw [← hdx] at C4
  change ∀ w, Calls _ _ #[_, .int .i64 10] _ _ at C1
  change ∀ w, Calls _ _ #[_, .int .i64 10] _ _ at C2
  change ∀ A n c w, _ → _ → Calls _ _ #[_, .int .i64 10] _ _ at C4
  generalize mks (dtx 10 b1 m1) = S at *
  generalize mks (ntx b1 m1) = A at *
  have D1 := Lib.hid C1
  have D2 := Lib.hid C2
  have D3 := Lib.hid C3
  have D4 := Lib.hid C4
  clear C1 C2 C3 C4 hdx
  go_wp2_with (first | (go_at_call 30; ((with_reducible refine (D1.out _).mono ?_)); rintro e wn ⟨rfl, hbn⟩; replace HBd := HBd.trans (hbn.mono HBd.size); clear hbn) | (go_at_call 12; ((with_reducible refine (D2.out _).mono ?_)); rintro e wn ⟨rfl, hbn⟩; replace HBd := HBd.trans (hbn.mono HBd.size); clear hbn) | (go_at_call 18; ((with_reducible refine (D3.out _).mono ?_)); rintro e wn ⟨A5, n5, c5, rfl, hn5, hc5, hr5, hf5, hbn⟩; replace HBd := HBd.trans (hbn.mono HBd.size); clear hbn) | (go_at_call 31; ((with_reducible refine (D4.out A5 n5 c5 _ hn5 hr5).mono ?_)); rintro e wn ⟨rfl, hbn⟩; replace HBd := HBd.trans (hbn.mono HBd.size); clear hbn) | (go_at_call 11; ((with_reducible refine (awake_any _).mono ?_)); rintro e wn ⟨rfl, hbn⟩; replace HBd := HBd.trans (hbn.mono HBd.size); clear hbn))
  exact bodyPost_ret (v := .bool true) (by simp [results, Try.results6, go_sem]) rfl ⟨rfl, HBd⟩
set_option maxRecDepth 100000 in
set_option maxHeartbeats 8000000 in
theorem texts_d (b1 : Bool) (l1 : List Nat) (n1 : Nat) (w : World) (h1 : By l1) (k1 : n1 < 65536) :
    Calls Try.prog 6 #[.agg #[.bool b1, .string (mks l1), .int .u16 (n1 : Int)], .int .i64 16] w fun e w' => e = .returned (.bool true) ∧ Below w.heap.size w w' := by
  obtain ⟨HX, HBd, HZ⟩ := boxes1 w 36 [.bool b1, .string (mks l1), .int .u16 (n1 : Int)]
  go_enter Try.func6, Try.ntmps6
  go_upto_region 2 with (go_at_call 17; (with_reducible refine (lawtext_any b1 l1 n1 _ h1 k1).mono ?_); rintro e wn ⟨m1, ⟨⟩, hm1, hbn⟩; replace HBd := HBd.trans (hbn.mono HBd.size); clear hbn)
  have hk : knownB ((16 : Nat) : Int) = true := by decide
  have C1 := fun w => itext_any 16 b1 m1 w hk hm1
  have C2 := fun w => parse_any (dtx 16 b1 m1) ((16 : Nat) : Int) w (by_dtx b1 (by omega) (by omega)) (by have := len_dtx (b := 16) b1 (by omega) hm1; omega)
  rw [parR_dtx b1 hk hm1] at C2
  have C3 := fun w => of_ntx b1 m1 w hm1
  have hlx : (dg (b1 && decide (0 < m1), m1).2).length ≤ 400 := hm1
  have hdx : dtx 16 b1 m1 = dtx 16 (b1 && decide (0 < m1), m1).1 (b1 && decide (0 < m1), m1).2 := by
    by_cases h0 : m1 = 0
    · subst h0; unfold dtx; rw [if_pos rfl, if_pos rfl]
    · simp only [decide_eq_true (show 0 < m1 by omega), Bool.and_true]
  generalize (b1 && decide (0 < m1), m1) = x at *
  have C4 := fun A n c w (hn : Hid (n = (dg x.2).length)) (hr : Rd w A (B8 (dg x.2))) => rdigits_any x.1 A n c x.2 16 w hn hr (by have := hn.out; omega) (by omega) (by omega)
  rw [← hdx] at C4
  change ∀ w, Calls _ _ #[_, .int .i64 16] _ _ at C1
  change ∀ w, Calls _ _ #[_, .int .i64 16] _ _ at C2
  change ∀ A n c w, _ → _ → Calls _ _ #[_, .int .i64 16] _ _ at C4
  generalize mks (dtx 16 b1 m1) = S at *
  generalize mks (ntx b1 m1) = A at *
  have D1 := Lib.hid C1
  have D2 := Lib.hid C2
  have D3 := Lib.hid C3
  have D4 := Lib.hid C4
  clear C1 C2 C3 C4 hdx
  go_wp2_with (first | (go_at_call 30; ((with_reducible refine (D1.out _).mono ?_)); rintro e wn ⟨rfl, hbn⟩; replace HBd := HBd.trans (hbn.mono HBd.size); clear hbn) | (go_at_call 12; ((with_reducible refine (D2.out _).mono ?_)); rintro e wn ⟨rfl, hbn⟩; replace HBd := HBd.trans (hbn.mono HBd.size); clear hbn) | (go_at_call 18; ((with_reducible refine (D3.out _).mono ?_)); rintro e wn ⟨A5, n5, c5, rfl, hn5, hc5, hr5, hf5, hbn⟩; replace HBd := HBd.trans (hbn.mono HBd.size); clear hbn) | (go_at_call 31; ((with_reducible refine (D4.out A5 n5 c5 _ hn5 hr5).mono ?_)); rintro e wn ⟨rfl, hbn⟩; replace HBd := HBd.trans (hbn.mono HBd.size); clear hbn) | (go_at_call 11; ((with_reducible refine (awake_any _).mono ?_)); rintro e wn ⟨rfl, hbn⟩; replace HBd := HBd.trans (hbn.mono HBd.size); clear hbn))
  exact bodyPost_ret (v := .bool true) (by simp [results, Try.results6, go_sem]) rfl ⟨rfl, HBd⟩
theorem texts_any (b1 : Bool) (l1 : List Nat) (n1 : Nat) (base : Int) (w : World) (h1 : By l1) (k1 : n1 < 65536) :
    Calls Try.prog 6 #[.agg #[.bool b1, .string (mks l1), .int .u16 (n1 : Int)], .int .i64 base] w fun e w' => e = .returned (.bool true) ∧ Below w.heap.size w w' := by
  cases hk : knownB base with
  | false => exact texts_un b1 l1 n1 base w h1 k1 hk
  | true =>
    have hb : base = 2 ∨ base = 8 ∨ base = 10 ∨ base = 16 := by unfold knownB at hk; exact of_decide_eq_true hk
    rcases hb with rfl | rfl | rfl | rfl
    · exact texts_a b1 l1 n1 w h1 k1
    · exact texts_b b1 l1 n1 w h1 k1
    · exact texts_c b1 l1 n1 w h1 k1
    · exact texts_d b1 l1 n1 w h1 k1
end Go.Proofs.Ytgnddobonboloaa
