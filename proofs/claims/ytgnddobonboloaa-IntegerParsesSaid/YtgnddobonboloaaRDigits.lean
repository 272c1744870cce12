/- The reference's Digits, Valid. -/
import Derived.Test.YtgnddobonboloaaIText
namespace Go.Proofs.Ytgnddobonboloaa
open Go.RowKit
theorem hexs_slice {d : Nat} (h : d < 16) : (⟨#[48, 49, 50, 51, 52, 53, 54, 55, 56, 57, 97, 98, 99, 100, 101, 102]⟩ : ByteArray).extract d (d + 1) = mks [hexch d] := by
  have : d = 0 ∨ d = 1 ∨ d = 2 ∨ d = 3 ∨ d = 4 ∨ d = 5 ∨ d = 6 ∨ d = 7 ∨ d = 8 ∨ d = 9 ∨ d = 10 ∨ d = 11 ∨ d = 12 ∨ d = 13 ∨ d = 14 ∨ d = 15 := by omega
  rcases this with rfl | rfl | rfl | rfl | rfl | rfl | rfl | rfl | rfl | rfl | rfl | rfl | rfl | rfl | rfl | rfl <;> rfl

set_option maxHeartbeats 4000000 in
theorem rdigits_any (ng : Bool) (A : Option Addr) (n c m b : Nat) (w : World) (hn : Hid (n = (dg m).length)) (hr : Rd w A (B8 (dg m))) (hm : n ≤ 400) (hb2 : 2 ≤ b) (hb16 : b ≤ 16) :
    Calls Try.prog 31 #[.agg #[.bool ng, .slice A n c], .int .i64 (b : Int)] w fun e w' => e = .returned (.string (mks (dtx b ng m))) ∧ Below w.heap.size w w' := by
  have HX : Hid (Arr (w.alloc (.cells #[.bool ng, .slice A n c] 28)) w.heap.size 28 [.bool ng, .slice A n c]) := Arr.new w _ _
  have hBW : Below w.heap.size w (w.alloc (.cells #[.bool ng, .slice A n c] 28)) := (Below.refl _ _).alloc (Nat.le_refl _) _
  have hsW : w.heap.size + 1 ≤ (w.alloc (.cells #[.bool ng, .slice A n c] 28)).heap.size := by simp
  have hrW := hr.keep hBW
  have hlen := dgb_len (b := b) hb2 (dg_len2 (m := m) (k := 200) (by have := hn.out; omega))
  by_cases hm0 : m = 0
  · obtain rfl : n = 0 := by rw [hn.out, hm0, dg_zero]; rfl
    have e : mks (dtx b ng m) = (⟨#[48]⟩ : ByteArray) := by unfold dtx; rw [if_pos hm0]; rfl
    rw [e]
    clear hm0 e
    go_enter Try.func31, Try.ntmps31
    go_wp2
    go_ret
    exact ⟨rfl, hBW⟩
  · have hn0' : ((n : Int) == 0) = false := by have := dg_pos_len hn hm0; simp; omega
    have e : dtx b ng m = (if ng then [45] else []) ++ ((dgb b m).reverse.map hexch) := by unfold dtx; rw [if_neg hm0]
    have HDX := Lib.hid e
    have e45 : (⟨#[45]⟩ : ByteArray) = mks [45] := rfl
    clear hm0 e
    go_enter Try.func31, Try.ntmps31
    go_upto_region 1 with (fail)
    generalize (w.alloc (.cells #[.bool ng, .slice A n c] 28)) = W at *
    have x1 := HX.out.cell' (i := 1) rfl
    go_wp2
    go_loopw [5, 6] (fun sv dv wr => ∃ (m' : Nat) (os : List Nat) (A1 : Option Addr) (n1 c1 : Nat), sv = .string (mks os) ∧ dv = .slice A1 n1 c1 ∧ Hid ((dgb b m').reverse.map hexch ++ os = (dgb b m).reverse.map hexch) ∧ Hid (n1 = (dg m').length) ∧ n1 ≤ 400 ∧ os.length ≤ 1400 ∧ Rd wr A1 (B8 (dg m')) ∧ Below (w.heap.size + 1) W wr) (fun sv _ _ => 1401 - (match sv with | .string s => s.size | _ => 0))
    case atStart => exact ⟨m, [], A, n, c, rfl, rfl, by show _ = _; simp, hn, hm, by simp, hrW, Below.refl _ _⟩
    case round =>
      clear hrW x1
      obtain ⟨m', os, A1, n1, c1, rfl, rfl, heq, hn1, hn1b, hob, hr1, hb⟩ := hrel
      have hbs := hb.size
      have x0 := (HX.out.below hb (by omega)).cell' (i := 0) rfl
      by_cases h0 : m' = 0
      · have HE : Hid (os = (dgb b m).reverse.map hexch) := by
          have h1 := heq.out
          rw [h0, dgb_zero] at h1
          show _ = _
          simpa using h1
        obtain rfl : n1 = 0 := by rw [hn1.out, h0, dg_zero]; rfl
        clear h0 heq
        cases ng
        all_goals
          go_wp2
          go_ret
          rw [HDX.out, ← HE.out]
          exact ⟨rfl, hBW.trans (hb.mono (by omega))⟩
      · have hn0 : 0 < n1 := dg_pos_len hn1 h0
        have HSH := Lib.hid (rshort_d A1 n1 c1 m' b wr hn1 hr1 (by omega) (by omega) (by omega))
        have HM0 := Lib.hid h0
        have hl := congrArg List.length heq.out
        rw [dgb_pos h0 (by omega)] at hl
        simp at hl
        have hol : os.length + 1 ≤ 1400 := by omega
        clear h0 hl
        go_upto_region 7 with (go_at_call 54; go_loud (refine HSH.out.mono ?_; rintro e w5 ⟨A5, n5, c5, d, rfl, hd, hd5, hn5, hc5, hr5, hf5, hb5⟩))
        have hd16 : d < 16 := by omega
        have hsl := hexs_slice hd16
        go_wp2
        go_roundw
        case rel =>
          refine ⟨m' / b, hexch d :: os, A5, n5, c5, rfl, rfl, ?_, hn5, ?_, by simp; omega, hr5, hb.trans (hb5.mono (by omega))⟩
          · show _ = _
            rw [← heq.out, dgb_pos HM0.out (by omega), hd.out]
            simp
          · have := dg_len_mono (Nat.div_le_self m' b); have := hn5.out; have := hn1.out; omega
        case measure =>
          show 1401 - (mks (hexch d :: os)).size < 1401 - (mks os).size
          rw [size_mks, size_mks]; simp; omega

/-- All the bytes from k on are digits. -/
theorem rvalid_step {l : List Nat} {k c : Nat} (h : l[k]? = some c) : (l.drop k).all isDig = (isDig c && (l.drop (k + 1)).all isDig) := by
  have := List.getElem?_eq_some_iff.1 h
  rw [List.drop_eq_getElem_cons this.1, this.2, List.all_cons]

theorem drop_bodyL {l : List Nat} {c : Nat} (h : l[0]? = some c) (hn : c ≠ 45) : bodyL l = l := by
  unfold bodyL negL
  rw [h]
  simp [hn]
set_option maxHeartbeats 4000000 in
theorem rvalid_bada (l : List Nat) (w : World) (hl : By l) (hm : l.length ≤ 4294967296) (c0 : Nat) (hc0 : l[0]? = some c0) (hne : c0 ≠ 45) (hbad : 0 = l.length ∨ (0 < l.length ∧ 400 < l.length - 0) ∨ (0 < l.length ∧ l.length - 0 ≤ 400 ∧ l[0]? = some 48 ∧ 1 < l.length)) :
    Calls Try.prog 16 #[.string (mks l)] w fun e w' => e = .returned (.bool false) ∧ w = w' := by
  have hl0 : 0 < l.length := (List.getElem?_eq_some_iff.1 hc0).1
  have hg0 := get_mks hc0 (hl.get hc0) (by rw [size_mks]; omega)
  have hne' : ((c0 : Int) == 45) = false := by simp; omega
  rcases hbad with h1 | ⟨h1, h2⟩ | ⟨h1, h2, h3, h4⟩
  · have h1' : ((0 : Int) == (l.length : Int)) = true := by simp; omega
    clear hc0 h1
    go_enter Try.func16, Try.ntmps16
    go_wp2
    go_ret
    exact ⟨rfl, rfl⟩
  · have h1' : ((0 : Int) == (l.length : Int)) = false := by simp; omega
    have h2' : 400 < (l.length : Int) - 0 := by omega
    clear hc0
    go_enter Try.func16, Try.ntmps16
    go_wp2
    go_ret
    exact ⟨rfl, rfl⟩
  · have h1' : ((0 : Int) == (l.length : Int)) = false := by simp; omega
    have h2' : ¬ 400 < (l.length : Int) - 0 := by omega
    have hg1 := get_mks h3 (by omega) (by rw [size_mks]; omega)
    clear hc0 h3
    go_enter Try.func16, Try.ntmps16
    go_wp2
    go_ret
    exact ⟨rfl, rfl⟩
set_option maxHeartbeats 4000000 in
theorem rvalid_gooda (l : List Nat) (w : World) (hl : By l) (hm : l.length ≤ 4294967296) (c0 : Nat) (hc0 : l[0]? = some c0) (hne : c0 ≠ 45) (h1 : 0 < l.length) (h2 : l.length - 0 ≤ 400) (h3 : ¬ (l[0]? = some 48 ∧ 1 < l.length)) :
    Calls Try.prog 16 #[.string (mks l)] w fun e w' => e = .returned (.bool ((l.drop 0).all isDig)) ∧ w = w' := by
  skip
  have hg0 := get_mks hc0 (hl.get hc0) (by rw [size_mks]; omega)
  skip
  have hne' : ((c0 : Int) == 45) = false := by simp; omega
  have h1' : ((0 : Int) == (l.length : Int)) = false := by simp; omega
  have h2' : ¬ 400 < (l.length : Int) - 0 := by omega
  have h3' : (((c0 : Int) == 48) = false) ∨ (((c0 : Int) == 48) = true ∧ ¬ 1 < (l.length : Int)) := by
    by_cases h : c0 = 48
    · exact .inr ⟨by simp; omega, fun h' => h3 ⟨by rw [hc0, h], by omega⟩⟩
    · exact .inl (by simp; omega)
  generalize hR : (l.drop 0).all isDig = R
  have HR := Lib.hid hR
  clear hR hc0 h3
  go_enter Try.func16, Try.ntmps16
  rcases h3' with h3 | ⟨h3, h4⟩
  all_goals (try (exfalso; omega))
  all_goals
    go_wp2
    go_loop [4] (fun iv => ∃ i : Nat, iv = .int .i64 i ∧ i ≤ l.length ∧ Hid ((l.drop i).all isDig = R)) (fun iv => l.length - (intOf iv).toNat)
    case atStart => exact ⟨0, rfl, by omega, HR⟩
    case round =>
      obtain ⟨i, rfl, hi, hR⟩ := hrel
      by_cases hlt : i < l.length
      · obtain ⟨c, hc⟩ : ∃ c, l[i]? = some c := ⟨_, List.getElem?_eq_getElem hlt⟩
        have hgc := get_mks hc (hl.get hc) (by rw [size_mks]; exact hlt)
        have hst := rvalid_step hc
        have hcb := hl.get hc
        rw [hR.out] at hst
        have HST := Lib.hid hst
        clear hst hc
        have hcase : (48 ≤ (c : Int) ∧ (c : Int) ≤ 57) ∨ (c : Int) < 48 ∨ (48 ≤ (c : Int) ∧ 57 < (c : Int)) := by omega
        rcases hcase with ⟨d1, d2⟩ | d1 | ⟨d1, d2⟩
        · have hd : isDig c = true := decide_eq_true (by omega)
          have HD := Lib.hid hd
          clear hd
          go_wp2
          go_round
          case rel => exact ⟨i + 1, by go_num, by omega, by show _ = _; have := HST.out; rw [HD.out, Bool.true_and] at this; exact this.symm⟩
          case measure => simp [intOf]; omega
        · have hd : isDig c = false := decide_eq_false (by omega)
          have HD := Lib.hid hd
          clear hd
          go_wp2
          go_ret
          exact ⟨by rw [HST.out, HD.out, Bool.false_and]; try rfl, rfl⟩
        · have hd : isDig c = false := decide_eq_false (by omega)
          have HD := Lib.hid hd
          clear hd
          go_wp2
          go_ret
          exact ⟨by rw [HST.out, HD.out, Bool.false_and]; try rfl, rfl⟩
      · have hR' := hR.out
        rw [List.drop_eq_nil_of_le (by omega)] at hR'
        have HR2 := Lib.hid hR'
        clear hR' hR
        go_wp2
        go_ret
        exact ⟨by rw [← HR2.out]; try rfl, rfl⟩
set_option maxHeartbeats 4000000 in
theorem rvalid_badb (l : List Nat) (w : World) (hl : By l) (hm : l.length ≤ 4294967296) (hc0 : l[0]? = some 45) (hbad : 1 = l.length ∨ (1 < l.length ∧ 400 < l.length - 1) ∨ (1 < l.length ∧ l.length - 1 ≤ 400 ∧ l[1]? = some 48 ∧ 1 < l.length)) :
    Calls Try.prog 16 #[.string (mks l)] w fun e w' => e = .returned (.bool false) ∧ w = w' := by
  have hl0 : 0 < l.length := (List.getElem?_eq_some_iff.1 hc0).1
  have hg0 := get_mks hc0 (hl.get hc0) (by rw [size_mks]; omega)
  skip
  rcases hbad with h1 | ⟨h1, h2⟩ | ⟨h1, h2, h3, h4⟩
  · have h1' : ((1 : Int) == (l.length : Int)) = true := by simp; omega
    clear hc0 h1
    go_enter Try.func16, Try.ntmps16
    go_wp2
    go_ret
    exact ⟨rfl, rfl⟩
  · have h1' : ((1 : Int) == (l.length : Int)) = false := by simp; omega
    have h2' : 400 < (l.length : Int) - 1 := by omega
    clear hc0
    go_enter Try.func16, Try.ntmps16
    go_wp2
    go_ret
    exact ⟨rfl, rfl⟩
  · have h1' : ((1 : Int) == (l.length : Int)) = false := by simp; omega
    have h2' : ¬ 400 < (l.length : Int) - 1 := by omega
    have hg1 := get_mks h3 (by omega) (by rw [size_mks]; omega)
    clear hc0 h3
    go_enter Try.func16, Try.ntmps16
    go_wp2
    go_ret
    exact ⟨rfl, rfl⟩
set_option maxHeartbeats 4000000 in
theorem rvalid_goodb (l : List Nat) (w : World) (hl : By l) (hm : l.length ≤ 4294967296) (hc0 : l[0]? = some 45) (h1 : 1 < l.length) (h2 : l.length - 1 ≤ 400) (h3 : ¬ (l[1]? = some 48 ∧ 1 < l.length)) :
    Calls Try.prog 16 #[.string (mks l)] w fun e w' => e = .returned (.bool ((l.drop 1).all isDig)) ∧ w = w' := by
  obtain ⟨c1, hc1⟩ : ∃ c1, l[1]? = some c1 := ⟨_, List.getElem?_eq_getElem h1⟩
  have hg0 := get_mks hc0 (hl.get hc0) (by rw [size_mks]; omega)
  have hg1 := get_mks hc1 (hl.get hc1) (by rw [size_mks]; omega)
  skip
  have h1' : ((1 : Int) == (l.length : Int)) = false := by simp; omega
  have h2' : ¬ 400 < (l.length : Int) - 1 := by omega
  have h3' : (((c1 : Int) == 48) = false) ∨ (((c1 : Int) == 48) = true ∧ ¬ 1 < (l.length : Int)) := by
    by_cases h : c1 = 48
    · exact .inr ⟨by simp; omega, fun h' => h3 ⟨by rw [hc1, h], by omega⟩⟩
    · exact .inl (by simp; omega)
  generalize hR : (l.drop 1).all isDig = R
  have HR := Lib.hid hR
  clear hR hc0 hc1 h3
  go_enter Try.func16, Try.ntmps16
  rcases h3' with h3 | ⟨h3, h4⟩
  all_goals (try (exfalso; omega))
  all_goals
    go_wp2
    go_loop [4] (fun iv => ∃ i : Nat, iv = .int .i64 i ∧ i ≤ l.length ∧ Hid ((l.drop i).all isDig = R)) (fun iv => l.length - (intOf iv).toNat)
    case atStart => exact ⟨1, rfl, by omega, HR⟩
    case round =>
      obtain ⟨i, rfl, hi, hR⟩ := hrel
      by_cases hlt : i < l.length
      · obtain ⟨c, hc⟩ : ∃ c, l[i]? = some c := ⟨_, List.getElem?_eq_getElem hlt⟩
        have hgc := get_mks hc (hl.get hc) (by rw [size_mks]; exact hlt)
        have hst := rvalid_step hc
        have hcb := hl.get hc
        rw [hR.out] at hst
        have HST := Lib.hid hst
        clear hst hc
        have hcase : (48 ≤ (c : Int) ∧ (c : Int) ≤ 57) ∨ (c : Int) < 48 ∨ (48 ≤ (c : Int) ∧ 57 < (c : Int)) := by omega
        rcases hcase with ⟨d1, d2⟩ | d1 | ⟨d1, d2⟩
        · have hd : isDig c = true := decide_eq_true (by omega)
          have HD := Lib.hid hd
          clear hd
          go_wp2
          go_round
          case rel => exact ⟨i + 1, by go_num, by omega, by show _ = _; have := HST.out; rw [HD.out, Bool.true_and] at this; exact this.symm⟩
          case measure => simp [intOf]; omega
        · have hd : isDig c = false := decide_eq_false (by omega)
          have HD := Lib.hid hd
          clear hd
          go_wp2
          go_ret
          exact ⟨by rw [HST.out, HD.out, Bool.false_and]; try rfl, rfl⟩
        · have hd : isDig c = false := decide_eq_false (by omega)
          have HD := Lib.hid hd
          clear hd
          go_wp2
          go_ret
          exact ⟨by rw [HST.out, HD.out, Bool.false_and]; try rfl, rfl⟩
      · have hR' := hR.out
        rw [List.drop_eq_nil_of_le (by omega)] at hR'
        have HR2 := Lib.hid hR'
        clear hR' hR
        go_wp2
        go_ret
        exact ⟨by rw [← HR2.out]; try rfl, rfl⟩
theorem rvalid_nil (w : World) : Calls Try.prog 16 #[.string (mks [])] w fun e w' => e = .returned (.bool false) ∧ w = w' := by
  go_enter Try.func16, Try.ntmps16
  go_wp2
  go_ret
  exact ⟨rfl, rfl⟩
theorem rvalid_any (l : List Nat) (w : World) (hl : By l) (hm : l.length ≤ 4294967296) : Calls Try.prog 16 #[.string (mks l)] w fun e w' => e = .returned (.bool (parseC l).isSome) ∧ w = w' := by
  cases l with
  | nil => exact rvalid_nil w
  | cons c r =>
    by_cases h : c = 45
    · subst h
      cases r with
      | nil => exact rvalid_badb [45] w hl hm rfl (.inl rfl)
      | cons d r =>
        have hn : negL (45 :: d :: r) = true := by unfold negL; exact decide_eq_true ⟨by simp, rfl⟩
        have hb : bodyL (45 :: d :: r) = d :: r := by unfold bodyL; rw [hn]; rfl
        unfold parseC
        by_cases hbad : badL (45 :: d :: r)
        · rw [if_pos hbad]
          unfold badL at hbad
          rw [hb] at hbad
          refine rvalid_badb _ w hl hm rfl (.inr ?_)
          simp at hbad ⊢
          omega
        · rw [if_neg hbad]
          unfold badL at hbad
          rw [hb] at hbad ⊢
          have h1 := rvalid_goodb (45 :: d :: r) w hl hm rfl (by simp) (by have : ¬ 400 < (d :: r).length := fun h => hbad (.inr (.inl h)); simp at this ⊢; omega) (fun hh => hbad (.inr (.inr hh)))
          rw [show (45 :: d :: r).drop 1 = d :: r from rfl] at h1
          by_cases hall : (d :: r).all isDig = true
          · rw [if_pos hall]; rw [hall] at h1; exact h1
          · rw [if_neg hall]; rw [Bool.eq_false_iff.2 hall] at h1; exact h1
    · have hb : bodyL (c :: r) = c :: r := drop_bodyL (c := c) rfl h
      unfold parseC
      by_cases hbad : badL (c :: r)
      · rw [if_pos hbad]
        unfold badL at hbad
        rw [hb] at hbad
        refine rvalid_bada _ w hl hm c rfl h (.inr ?_)
        simp at hbad ⊢
        omega
      · rw [if_neg hbad]
        unfold badL at hbad
        rw [hb] at hbad ⊢
        have h1 := rvalid_gooda (c :: r) w hl hm c rfl h (by simp) (by have : ¬ 400 < (c :: r).length := fun h => hbad (.inr (.inl h)); simp at this ⊢; omega) (fun hh => hbad (.inr (.inr hh)))
        rw [List.drop_zero] at h1
        by_cases hall : (c :: r).all isDig = true
        · rw [if_pos hall]; rw [hall] at h1; exact h1
        · rw [if_neg hall]; rw [Bool.eq_false_iff.2 hall] at h1; exact h1
end Go.Proofs.Ytgnddobonboloaa
