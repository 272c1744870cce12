/- IntegerDivides: the walk (under way). -/
import Derived.Test.YtgnddobonboloaaLawText
import Derived.Test.YtgnddobonboloaaAwake
import Derived.Test.YtgnddobonboloaaPlain2
namespace Go.Proofs.Ytgnddobonboloaa
open Go.RowKit

set_option maxRecDepth 8000 in
set_option maxHeartbeats 4000000 in
theorem divides_any (b1 b2 : Bool) (l1 l2 : List Nat) (n1 n2 : Nat) (w : World) (h1 : By l1) (h2 : By l2) (k1 : n1 < 65536) (k2 : n2 < 65536) :
    Calls Try.prog 9 #[.agg #[.bool b1, .string (mks l1), .int .u16 (n1 : Int)], .agg #[.bool b2, .string (mks l2), .int .u16 (n2 : Int)]] w fun e w' => e = .returned (.bool true) ∧ Below w.heap.size w w' := by
  obtain ⟨HX, HY, HB, HZ⟩ := two_box w 36 36 [.bool b1, .string (mks l1), .int .u16 (n1 : Int)] [.bool b2, .string (mks l2), .int .u16 (n2 : Int)]
  go_enter Try.func9, Try.ntmps9
  go_upto_region 1 with (fail)
  have HBd := HB.drew
  generalize ((w.alloc (.cells #[.bool b1, .string (mks l1), .int .u16 (n1 : Int)] 36)).alloc (.cells #[.bool b2, .string (mks l2), .int .u16 (n2 : Int)] 36)) = W at *
  have x0 := HX.out.cell' (i := 0) rfl
  have x1 := HX.out.cell' (i := 1) rfl
  have x2 := HX.out.cell' (i := 2) rfl
  have y0 := HY.out.cell' (i := 0) rfl
  have y1 := HY.out.cell' (i := 1) rfl
  have y2 := HY.out.cell' (i := 2) rfl
  have HYd : Hid (Arr W.drew (w.heap.size + 1) 36 [.bool b2, .string (mks l2), .int .u16 (n2 : Int)]) := HY
  have HXd : Hid (Arr W.drew w.heap.size 36 [.bool b1, .string (mks l1), .int .u16 (n1 : Int)]) := HX
  go_region_held3 (fun w' => w'.cell? ⟨w.heap.size, 0, none⟩ = some (.bool b1) ∧ w'.cell? ⟨w.heap.size, 1, none⟩ = some (.string (mks l1)) ∧ w'.cell? ⟨w.heap.size, 2, none⟩ = some (.int .u16 (n1 : Int)) ∧ w'.cell? ⟨w.heap.size + 1, 0, none⟩ = some (.bool b2) ∧ w'.cell? ⟨w.heap.size + 1, 1, none⟩ = some (.string (mks l2)) ∧ w'.cell? ⟨w.heap.size + 1, 2, none⟩ = some (.int .u16 (n2 : Int)))
    (first | exact ⟨x0, x1, x2, y0, y1, y2⟩ | exact ⟨x0', x1', x2', y0', y1', y2'⟩ | exact ⟨x0q, x1q, x2q, y0q, y1q, y2q⟩)
    (first | (go_at_call 17; ((with_reducible refine (lawtext_any b1 l1 n1 _ h1 k1).mono ?_)); rintro e w5 ⟨m1, ⟨⟩, hm1, hb5⟩; have x0' := (HXd.out.keep hb5).cell' (i := 0) rfl; have x1' := (HXd.out.keep hb5).cell' (i := 1) rfl; have x2' := (HXd.out.keep hb5).cell' (i := 2) rfl; have y0' := (HYd.out.keep hb5).cell' (i := 0) rfl; have y1' := (HYd.out.keep hb5).cell' (i := 1) rfl; have y2' := (HYd.out.keep hb5).cell' (i := 2) rfl) | (go_at_call 17; (with_reducible refine (lawtext_any b2 l2 n2 _ h2 k2).mono ?_); rintro e w6 ⟨m2, ⟨⟩, hm2, hb6⟩; have x0q := ((HXd.out.keep hb5).keep hb6).cell' (i := 0) rfl; have x1q := ((HXd.out.keep hb5).keep hb6).cell' (i := 1) rfl; have x2q := ((HXd.out.keep hb5).keep hb6).cell' (i := 2) rfl; have y0q := ((HYd.out.keep hb5).keep hb6).cell' (i := 0) rfl; have y1q := ((HYd.out.keep hb5).keep hb6).cell' (i := 1) rfl; have y2q := ((HYd.out.keep hb5).keep hb6).cell' (i := 2) rfl))
  replace HBd := (HBd.trans (hb5.mono HBd.size)).trans (hb6.mono (Nat.le_trans HBd.size hb5.size))
  have p1 := parseC_ntx b1 m1 hm1
  have p2 := parseC_ntx b2 m2 hm2
  have P1 := Lib.hid p1
  have P2 := Lib.hid p2
  clear p1 p2 x0 x1 x2 y0 y1 y2 x0' x1' x2' y0' y1' y2'
  by_cases hz : m2 = 0
  · have e48 : mks (ntx b2 m2) = (⟨#[48]⟩ : ByteArray) := by unfold ntx; rw [if_pos hz]; rfl
    have HDZ := fun w => divmod_zero (ntx b1 m1) (ntx b2 m2) _ _ w (by_ntx _ _) (by_ntx _ _) P1.out P2.out hz
    rw [e48] at HDZ ⊢
    have HD := Lib.hid HDZ
    clear HDZ e48 hz
    go_wp2_with (first | (go_at_call 26; ((with_reducible refine (HD.out _).mono ?_)); rintro e wn ⟨rfl, hbn⟩; replace HBd := HBd.trans (hbn.mono HBd.size); clear hbn) | (go_at_call 11; ((with_reducible refine (awake_any _).mono ?_)); rintro e wn ⟨rfl, hbn⟩; replace HBd := HBd.trans (hbn.mono HBd.size); clear hbn))
    exact bodyPost_ret (v := .bool true) (by simp [results, Try.results9, go_sem]) rfl ⟨rfl, HBd⟩
  · have hb0 : ((mks (ntx b2 m2)).toList == [48]) = false := by
      rw [toList_mks, beq_eq_false_iff_ne]
      intro he
      have h48 : mks (ntx b2 m2) = mks (ntx false 0) := by unfold mks; rw [he]; rfl
      exact hz (ntx_inj hm2 (by rw [dg_zero]; exact Nat.zero_le _) (mks_inj (by_ntx _ _) (by_ntx _ _) h48)).1
    have p48 : parseC [48] = some (false, 0) := parseC_ntx false 0 (by rw [dg_zero]; exact Nat.zero_le _)
    have b48 : By [48] := by_ntx false 0
    have e48 : mks [48] = (⟨#[48]⟩ : ByteArray) := rfl
    have hY : (b2 && decide (0 < m2), m2).2 ≠ 0 := hz
    have okX := can_dgX b1 m1
    have okY := can_dgX b2 m2
    have hA := tS_can b1 m1 hm1
    generalize hx : (b1 && decide (0 < m1), m1) = x at *
    generalize hy : (b2 && decide (0 < m2), m2) = y at *
    have hx2 : x.2 = m1 := by rw [← hx]
    have hy2 : y.2 = m2 := by rw [← hy]
    have lx : (dg x.2).length ≤ 400 := by rw [hx2]; exact hm1
    have ly : (dg y.2).length ≤ 400 := by rw [hy2]; exact hm2
    have pq := parse_tS (dmQ_len (x := x) hY lx) (ok_dmQN x y)
    have pr := parse_tS (dmR_len (x := x) hY ly) (ok_dmRN x y)
    obtain ⟨hd1, _, hd3⟩ := sub_dm (x := x) hY
    have ld := Nat.le_trans (dg_len_mono hd1) ly
    have pd := parse_tS ld hd3
    obtain ⟨z, k, kk, hsr, hsy, hsd, hall⟩ := sg_cases (x := x) hY
    have C1 := fun w => divmod_ok _ _ x y w (by_ntx b1 m1) (by_ntx b2 m2) P1.out P2.out hY
    have C2 := fun w => cmp_ok _ _ _ _ w (by_tS _) b48 pr p48
    have C3 := fun w => cmp_ok _ _ _ _ w (by_ntx b2 m2) b48 P2.out p48
    have C4 := fun w => sub_ok _ _ _ _ w (by_tS _) (by_ntx b2 m2) pr P2.out
    have C5 := fun w => cmp_ok _ _ _ _ w (by_tS _) b48 pd p48
    have C6 := fun w => mul_ok _ _ _ _ w (by_tS _) (by_ntx b2 m2) pq P2.out
    simp only [cmpP_zero (ok_dmRN x y), hsr, e48] at C2
    simp only [cmpP_zero okY, hsy, e48] at C3
    simp only [tE_le ld] at C4
    simp only [cmpP_zero hd3, hsd, e48] at C5
    have hlen : 400 ≤ (dg x.2).length → 400 ≤ (mks (ntx b1 m1)).size := by
      intro h
      rw [size_mks, ← hA, tS_le lx, ntx_pos (by intro h0; rw [h0, dg_zero] at h; simp at h)]
      simp [asc]; omega
    by_cases hl : (dg (dmQ x y * y.2)).length ≤ 400
    · have pm := parse_tS (x := mulN (dmQN x y) y) hl (ok_mulN _ _)
      have C7 := fun w => add_ok _ _ _ _ w (by_tS _) (by_tS _) pm pr trivial
      rw [div_back okX hY, hA, tE_le lx] at C7
      rw [tE_le (x := mulN (dmQN x y) y) hl] at C6
      clear pm hl pq pr pd ld hd1 hd3 lx ly hsr hsy hsd hA okX okY hY P1 P2 p48 b48 e48 hz hx2 hy2 hlen hx hy hm1 hm2
      generalize mks (tS (dmQN x y)) = Q at *
      generalize mks (tS (dmRN x y)) = R at *
      generalize mks (tS (sumN (dmRN x y) (negN y))) = D at *
      generalize mks (tS (mulN (dmQN x y) y)) = M at *
      generalize mks (ntx b2 m2) = B at *
      generalize mks (ntx b1 m1) = A at *
      have D1 := Lib.hid C1
      have D2 := Lib.hid C2
      have D3 := Lib.hid C3
      have D4 := Lib.hid C4
      have D5 := Lib.hid C5
      have D6 := Lib.hid C6
      have D7 := Lib.hid C7
      clear C1 C2 C3 C4 C5 C6 C7
      rcases hall with ⟨rfl, rfl, rfl⟩ | ⟨rfl, rfl, rfl⟩ | ⟨rfl, rfl, rfl⟩ | ⟨rfl, rfl, rfl⟩
      all_goals
        go_wp2_with (first | (go_at_call 26; ((with_reducible refine (D1.out _).mono ?_)); rintro e wn ⟨rfl, hbn⟩; replace HBd := HBd.trans (hbn.mono HBd.size); clear hbn) | (go_at_call 34; ((with_reducible refine (D2.out _).mono ?_)); rintro e wn ⟨rfl, hbn⟩; replace HBd := HBd.trans (hbn.mono HBd.size); clear hbn) | (go_at_call 34; ((with_reducible refine (D3.out _).mono ?_)); rintro e wn ⟨rfl, hbn⟩; replace HBd := HBd.trans (hbn.mono HBd.size); clear hbn) | (go_at_call 34; ((with_reducible refine (D5.out _).mono ?_)); rintro e wn ⟨rfl, hbn⟩; replace HBd := HBd.trans (hbn.mono HBd.size); clear hbn) | (go_at_call 33; ((with_reducible refine (D4.out _).mono ?_)); rintro e wn ⟨rfl, hbn⟩; replace HBd := HBd.trans (hbn.mono HBd.size); clear hbn) | (go_at_call 25; ((with_reducible refine (D6.out _).mono ?_)); rintro e wn ⟨rfl, hbn⟩; replace HBd := HBd.trans (hbn.mono HBd.size); clear hbn) | (go_at_call 32; ((with_reducible refine (D7.out _).mono ?_)); rintro e wn ⟨rfl, hbn⟩; replace HBd := HBd.trans (hbn.mono HBd.size); clear hbn) | (go_at_call 11; ((with_reducible refine (awake_any _).mono ?_)); rintro e wn ⟨rfl, hbn⟩; replace HBd := HBd.trans (hbn.mono HBd.size); clear hbn))
        exact bodyPost_ret (v := .bool true) (by simp [results, Try.results9, go_sem]) rfl ⟨rfl, HBd⟩
    · have hlg := hlen (mul_long (x := x) (y := y) ly hl)
      have e1 : tS (mulN (dmQN x y) y) = [] := by unfold tS; exact if_neg hl
      have e2 : tE (mulN (dmQN x y) y) = 6 := by unfold tE; exact if_neg hl
      rw [e1, e2] at C6
      clear e1 e2 hl pq pr pd ld hd1 hd3 lx ly hsr hsy hsd hA okX okY hY P1 P2 p48 b48 e48 hz hx2 hy2 hlen hx hy hm1 hm2
      generalize mks (tS (dmQN x y)) = Q at *
      generalize mks (tS (dmRN x y)) = R at *
      generalize mks (tS (sumN (dmRN x y) (negN y))) = D at *
      generalize mks (ntx b2 m2) = B at *
      generalize mks (ntx b1 m1) = A at *
      have D1 := Lib.hid C1
      have D2 := Lib.hid C2
      have D3 := Lib.hid C3
      have D4 := Lib.hid C4
      have D5 := Lib.hid C5
      have D6 := Lib.hid C6
      clear C1 C2 C3 C4 C5 C6
      rcases hall with ⟨rfl, rfl, rfl⟩ | ⟨rfl, rfl, rfl⟩ | ⟨rfl, rfl, rfl⟩ | ⟨rfl, rfl, rfl⟩
      all_goals
        go_wp2_with (first | (go_at_call 26; ((with_reducible refine (D1.out _).mono ?_)); rintro e wn ⟨rfl, hbn⟩; replace HBd := HBd.trans (hbn.mono HBd.size); clear hbn) | (go_at_call 34; ((with_reducible refine (D2.out _).mono ?_)); rintro e wn ⟨rfl, hbn⟩; replace HBd := HBd.trans (hbn.mono HBd.size); clear hbn) | (go_at_call 34; ((with_reducible refine (D3.out _).mono ?_)); rintro e wn ⟨rfl, hbn⟩; replace HBd := HBd.trans (hbn.mono HBd.size); clear hbn) | (go_at_call 34; ((with_reducible refine (D5.out _).mono ?_)); rintro e wn ⟨rfl, hbn⟩; replace HBd := HBd.trans (hbn.mono HBd.size); clear hbn) | (go_at_call 33; ((with_reducible refine (D4.out _).mono ?_)); rintro e wn ⟨rfl, hbn⟩; replace HBd := HBd.trans (hbn.mono HBd.size); clear hbn) | (go_at_call 25; ((with_reducible refine (D6.out _).mono ?_)); rintro e wn ⟨rfl, hbn⟩; replace HBd := HBd.trans (hbn.mono HBd.size); clear hbn) | (go_at_call 11; ((with_reducible refine (awake_any _).mono ?_)); rintro e wn ⟨rfl, hbn⟩; replace HBd := HBd.trans (hbn.mono HBd.size); clear hbn))
        exact bodyPost_ret (v := .bool true) (by simp [results, Try.results9, go_sem]) rfl ⟨rfl, HBd⟩
end Go.Proofs.Ytgnddobonboloaa
