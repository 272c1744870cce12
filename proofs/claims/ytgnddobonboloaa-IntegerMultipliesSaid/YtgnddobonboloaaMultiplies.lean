/- IntegerMultiplies: the walk. -/
import Derived.Test.YtgnddobonboloaaLaw2
namespace Go.Proofs.Ytgnddobonboloaa
open Go.RowKit

set_option maxRecDepth 100000 in
set_option maxHeartbeats 8000000 in
theorem multiplies_any (b1 b2 : Bool) (l1 l2 : List Nat) (n1 n2 : Nat) (w : World) (h1 : By l1) (h2 : By l2) (k1 : n1 < 65536) (k2 : n2 < 65536) :
    Calls Try.prog 5 #[.agg #[.bool b1, .string (mks l1), .int .u16 (n1 : Int)], .agg #[.bool b2, .string (mks l2), .int .u16 (n2 : Int)]] w fun e w' => e = .returned (.bool true) ∧ Below w.heap.size w w' := by
  obtain ⟨HX, HY, HB, HZ⟩ := two_box w 36 36 [.bool b1, .string (mks l1), .int .u16 (n1 : Int)] [.bool b2, .string (mks l2), .int .u16 (n2 : Int)]
  go_enter Try.func5, Try.ntmps5
  go_upto_region 1 with (fail)
  have HBd := HB.drew
  generalize ((w.alloc (.cells #[.bool b1, .string (mks l1), .int .u16 (n1 : Int)] 36)).alloc (.cells #[.bool b2, .string (mks l2), .int .u16 (n2 : Int)] 36)) = W at *
  have x0 := HX.out.cell' (i := 0) rfl
  have x1 := HX.out.cell' (i := 1) rfl
  have x2 := HX.out.cell' (i := 2) rfl
  have y0 := HY.out.cell' (i := 0) rfl
  have y1 := HY.out.cell' (i := 1) rfl
  have y2 := HY.out.cell' (i := 2) rfl
  have HXd : Hid (Arr W.drew w.heap.size 36 [.bool b1, .string (mks l1), .int .u16 (n1 : Int)]) := HX
  have HYd : Hid (Arr W.drew (w.heap.size + 1) 36 [.bool b2, .string (mks l2), .int .u16 (n2 : Int)]) := HY
  go_region_held3 (fun w' => w'.cell? ⟨w.heap.size, 0, none⟩ = some (.bool b1) ∧ w'.cell? ⟨w.heap.size, 1, none⟩ = some (.string (mks l1)) ∧ w'.cell? ⟨w.heap.size, 2, none⟩ = some (.int .u16 (n1 : Int)) ∧ w'.cell? ⟨w.heap.size + 1, 0, none⟩ = some (.bool b2) ∧ w'.cell? ⟨w.heap.size + 1, 1, none⟩ = some (.string (mks l2)) ∧ w'.cell? ⟨w.heap.size + 1, 2, none⟩ = some (.int .u16 (n2 : Int))) (first | exact ⟨x0, x1, x2, y0, y1, y2⟩ | exact ⟨x0', x1', x2', y0', y1', y2'⟩ | exact ⟨x0'', x1'', x2'', y0'', y1'', y2''⟩) (first | (go_at_call 17; (with_reducible refine (lawtext_any b1 l1 n1 _ h1 k1).mono ?_); rintro e w5 ⟨m1, ⟨⟩, hm1, hb5⟩; have x0' := ((HXd.out.keep hb5)).cell' (i := 0) rfl; have x1' := ((HXd.out.keep hb5)).cell' (i := 1) rfl; have x2' := ((HXd.out.keep hb5)).cell' (i := 2) rfl; have y0' := ((HYd.out.keep hb5)).cell' (i := 0) rfl; have y1' := ((HYd.out.keep hb5)).cell' (i := 1) rfl; have y2' := ((HYd.out.keep hb5)).cell' (i := 2) rfl) | (go_at_call 17; (with_reducible refine (lawtext_any b2 l2 n2 _ h2 k2).mono ?_); rintro e w6 ⟨m2, ⟨⟩, hm2, hb6⟩; have x0'' := (((HXd.out.keep hb5).keep hb6)).cell' (i := 0) rfl; have x1'' := (((HXd.out.keep hb5).keep hb6)).cell' (i := 1) rfl; have x2'' := (((HXd.out.keep hb5).keep hb6)).cell' (i := 2) rfl; have y0'' := (((HYd.out.keep hb5).keep hb6)).cell' (i := 0) rfl; have y1'' := (((HYd.out.keep hb5).keep hb6)).cell' (i := 1) rfl; have y2'' := (((HYd.out.keep hb5).keep hb6)).cell' (i := 2) rfl))
  replace HBd := HBd.trans (hb5.mono HBd.size)
  replace HBd := HBd.trans (hb6.mono HBd.size)
  have P1 := Lib.hid (parseC_ntx b1 m1 hm1)
  have P2 := Lib.hid (parseC_ntx b2 m2 hm2)
  clear x0 x0' x0'' x1 x1' x1'' x2 x2' x2'' y0 y0' y0'' y1 y1' y1'' y2 y2' y2'' hb5 hb6
  have C1 := fun w => of_ntx b1 m1 w hm1
  have C2 := fun w => of_ntx b2 m2 w hm2
  have okX := can_dgX b1 m1
  have okY := can_dgX b2 m2
  have lx : (dg (b1 && decide (0 < m1), m1).2).length ≤ 400 := hm1
  have ly : (dg (b2 && decide (0 < m2), m2).2).length ≤ 400 := hm2
  generalize (b1 && decide (0 < m1), m1) = x at *
  generalize (b2 && decide (0 < m2), m2) = y at *
  have C3 := fun w => mul_ok _ _ x y w (by_ntx b1 m1) (by_ntx b2 m2) P1.out P2.out
  have C4 := fun w => divmod_zero _ _ x y w (by_ntx b1 m1) (by_ntx b2 m2) P1.out P2.out
  have C5 := fun w => divmod_ok _ _ x y w (by_ntx b1 m1) (by_ntx b2 m2) P1.out P2.out
  generalize mks (ntx b1 m1) = A at *
  generalize mks (ntx b2 m2) = B at *
  have D1 := Lib.hid C1
  have D2 := Lib.hid C2
  have D3 := Lib.hid C3
  clear C1 C2 C3 P1 P2
  by_cases hz : y.2 = 0
  · rw [show mks [] = (⟨#[]⟩ : ByteArray) from rfl] at C4
    have D4 := Lib.hid (fun w => C4 w hz)
    clear C4 C5
    go_upto_region 3 with (first | (go_at_call 18; ((with_reducible refine (D1.out _).mono ?_)); rintro e w5 ⟨A5, n5, c5, rfl, hn5, hc5, hr5, hf5, hb5⟩) | (go_at_call 18; ((with_reducible refine (D2.out _).mono ?_)); rintro e w6 ⟨A6, n6, c6, rfl, hn6, hc6, hr6, hf6, hb6⟩))
    obtain ⟨HX, HY, hb7, hz7⟩ := two_box w6 28 28 [.bool x.1, .slice A5 n5 c5] [.bool y.1, .slice A6 n6 c6]
    replace HBd := ((HBd.trans (hb5.mono HBd.size)).trans (hb6.mono (Nat.le_trans HBd.size hb5.size))).trans (hb7.mono (Nat.le_trans (Nat.le_trans HBd.size hb5.size) hb6.size))
    have hr5' := (hr5.keep hb6).keep hb7
    have hr6' := hr6.keep hb7
    have hn54 : n5 ≤ 400 := by have := hn5.out; omega
    have hn64 : n6 ≤ 400 := by have := hn6.out; omega
    generalize ((w6.alloc (.cells #[.bool x.1, .slice A5 n5 c5] 28)).alloc (.cells #[.bool y.1, .slice A6 n6 c6] 28)) = W2 at *
    obtain ⟨zz, hzz, hzz2, hzz3, hzz4⟩ : ∃ zz, zz ≤ W2.heap.size ∧ Hid (W2.heap.size = zz) ∧ w6.heap.size < zz ∧ w6.heap.size + 1 < zz := ⟨W2.heap.size, Nat.le_refl _, rfl, by have := hz7.out; omega, by have := hz7.out; omega⟩
    have RX : ∀ w', Below zz W2 w' → Rd w' A5 (B8 (dg x.2)) := fun w' h => hr5'.keep (by rw [hzz2.out]; exact h)
    have RY : ∀ w', Below zz W2 w' → Rd w' A6 (B8 (dg y.2)) := fun w' h => hr6'.keep (by rw [hzz2.out]; exact h)
    have RXH := Lib.hid RX
    have RYH := Lib.hid RY
    have rx0 : ∀ w', Below zz W2 w' → w'.cell? ⟨w6.heap.size, 0, none⟩ = some (.bool x.1) := fun w' h => (Arr.below (w := W2) HX.out h (by omega)).cell' (i := 0) rfl; have rxf0 : ∀ w', Below zz W2 w' → w'.frozen? ⟨w6.heap.size, 0, none⟩ = false := fun w' h => (Arr.below (w := W2) HX.out h (by omega)).frozen 0; have rx1 : ∀ w', Below zz W2 w' → w'.cell? ⟨w6.heap.size, 1, none⟩ = some (.slice A5 n5 c5) := fun w' h => (Arr.below (w := W2) HX.out h (by omega)).cell' (i := 1) rfl; have rxf1 : ∀ w', Below zz W2 w' → w'.frozen? ⟨w6.heap.size, 1, none⟩ = false := fun w' h => (Arr.below (w := W2) HX.out h (by omega)).frozen 1
    have ry0 : ∀ w', Below zz W2 w' → w'.cell? ⟨w6.heap.size + 1, 0, none⟩ = some (.bool y.1) := fun w' h => (Arr.below (w := W2) HY.out h (by omega)).cell' (i := 0) rfl; have ryf0 : ∀ w', Below zz W2 w' → w'.frozen? ⟨w6.heap.size + 1, 0, none⟩ = false := fun w' h => (Arr.below (w := W2) HY.out h (by omega)).frozen 0; have ry1 : ∀ w', Below zz W2 w' → w'.cell? ⟨w6.heap.size + 1, 1, none⟩ = some (.slice A6 n6 c6) := fun w' h => (Arr.below (w := W2) HY.out h (by omega)).cell' (i := 1) rfl; have ryf1 : ∀ w', Below zz W2 w' → w'.frozen? ⟨w6.heap.size + 1, 1, none⟩ = false := fun w' h => (Arr.below (w := W2) HY.out h (by omega)).frozen 1
    have HS : Below zz W2 W2 := Below.refl _ _
    clear RX RY hr5 hr6 hr5' hr6' hf5 hf6 hb5 hb6 hb7 D1 D2 hz7
    obtain rfl : n6 = 0 := by rw [hn6.out, hz, dg_zero]; rfl
    clear hz
    go_wp2_with (first | (go_at_call 25; ((with_reducible refine (D3.out _).mono ?_)); rintro e wn ⟨rfl, hbn⟩; replace HBd := HBd.trans (hbn.mono HBd.size); replace HS := HS.trans (hbn.mono (Nat.le_trans hzz HS.size)); clear hbn) | (go_at_call 26; ((with_reducible refine (D4.out _).mono ?_)); rintro e wn ⟨rfl, hbn⟩; replace HBd := HBd.trans (hbn.mono HBd.size); replace HS := HS.trans (hbn.mono (Nat.le_trans hzz HS.size)); clear hbn) | (go_at_call 27; ((with_reducible refine (rmul_p x y A5 A6 n5 0 c5 c6 _ hn5 hn6 (RXH.out _ HS) (RYH.out _ HS) lx ly).mono ?_)); rintro e wn ⟨Am, nm, cm, rfl, hnm, hcm, hrm, hfm, hbn⟩; replace HBd := HBd.trans (hbn.mono HBd.size); replace HS := HS.trans (hbn.mono (Nat.le_trans hzz HS.size)); clear hbn) | (go_at_call 14; ((with_reducible refine (agree_any (mulN x y) Am nm cm _ hnm hrm).mono ?_)); rintro e wn ⟨rfl, hbn⟩; replace HBd := HBd.trans (hbn.mono HBd.size); replace HS := HS.trans (hbn.mono (Nat.le_trans hzz HS.size)); clear hbn) | (go_at_call 11; ((with_reducible refine (awake_any _).mono ?_)); rintro e wn ⟨rfl, hbn⟩; replace HBd := HBd.trans (hbn.mono HBd.size); replace HS := HS.trans (hbn.mono (Nat.le_trans hzz HS.size)); clear hbn))
    exact bodyPost_ret (v := .bool true) (by simp [results, Try.results5, go_sem]) rfl ⟨rfl, HBd⟩
  · have C5' := fun w => C5 w hz
    have lq := dmQ_len (x := x) (y := y) hz lx
    have lr := dmR_len (x := x) (y := y) hz ly
    rw [tS_le (x := dmQN x y) lq, tS_le (x := dmRN x y) lr] at C5'
    have D4 := Lib.hid C5'
    clear C4 C5 C5'
    go_upto_region 3 with (first | (go_at_call 18; ((with_reducible refine (D1.out _).mono ?_)); rintro e w5 ⟨A5, n5, c5, rfl, hn5, hc5, hr5, hf5, hb5⟩) | (go_at_call 18; ((with_reducible refine (D2.out _).mono ?_)); rintro e w6 ⟨A6, n6, c6, rfl, hn6, hc6, hr6, hf6, hb6⟩))
    obtain ⟨HX, HY, hb7, hz7⟩ := two_box w6 28 28 [.bool x.1, .slice A5 n5 c5] [.bool y.1, .slice A6 n6 c6]
    replace HBd := ((HBd.trans (hb5.mono HBd.size)).trans (hb6.mono (Nat.le_trans HBd.size hb5.size))).trans (hb7.mono (Nat.le_trans (Nat.le_trans HBd.size hb5.size) hb6.size))
    have hr5' := (hr5.keep hb6).keep hb7
    have hr6' := hr6.keep hb7
    have hn54 : n5 ≤ 400 := by have := hn5.out; omega
    have hn64 : n6 ≤ 400 := by have := hn6.out; omega
    generalize ((w6.alloc (.cells #[.bool x.1, .slice A5 n5 c5] 28)).alloc (.cells #[.bool y.1, .slice A6 n6 c6] 28)) = W2 at *
    obtain ⟨zz, hzz, hzz2, hzz3, hzz4⟩ : ∃ zz, zz ≤ W2.heap.size ∧ Hid (W2.heap.size = zz) ∧ w6.heap.size < zz ∧ w6.heap.size + 1 < zz := ⟨W2.heap.size, Nat.le_refl _, rfl, by have := hz7.out; omega, by have := hz7.out; omega⟩
    have RX : ∀ w', Below zz W2 w' → Rd w' A5 (B8 (dg x.2)) := fun w' h => hr5'.keep (by rw [hzz2.out]; exact h)
    have RY : ∀ w', Below zz W2 w' → Rd w' A6 (B8 (dg y.2)) := fun w' h => hr6'.keep (by rw [hzz2.out]; exact h)
    have RXH := Lib.hid RX
    have RYH := Lib.hid RY
    have rx0 : ∀ w', Below zz W2 w' → w'.cell? ⟨w6.heap.size, 0, none⟩ = some (.bool x.1) := fun w' h => (Arr.below (w := W2) HX.out h (by omega)).cell' (i := 0) rfl; have rxf0 : ∀ w', Below zz W2 w' → w'.frozen? ⟨w6.heap.size, 0, none⟩ = false := fun w' h => (Arr.below (w := W2) HX.out h (by omega)).frozen 0; have rx1 : ∀ w', Below zz W2 w' → w'.cell? ⟨w6.heap.size, 1, none⟩ = some (.slice A5 n5 c5) := fun w' h => (Arr.below (w := W2) HX.out h (by omega)).cell' (i := 1) rfl; have rxf1 : ∀ w', Below zz W2 w' → w'.frozen? ⟨w6.heap.size, 1, none⟩ = false := fun w' h => (Arr.below (w := W2) HX.out h (by omega)).frozen 1
    have ry0 : ∀ w', Below zz W2 w' → w'.cell? ⟨w6.heap.size + 1, 0, none⟩ = some (.bool y.1) := fun w' h => (Arr.below (w := W2) HY.out h (by omega)).cell' (i := 0) rfl; have ryf0 : ∀ w', Below zz W2 w' → w'.frozen? ⟨w6.heap.size + 1, 0, none⟩ = false := fun w' h => (Arr.below (w := W2) HY.out h (by omega)).frozen 0; have ry1 : ∀ w', Below zz W2 w' → w'.cell? ⟨w6.heap.size + 1, 1, none⟩ = some (.slice A6 n6 c6) := fun w' h => (Arr.below (w := W2) HY.out h (by omega)).cell' (i := 1) rfl; have ryf1 : ∀ w', Below zz W2 w' → w'.frozen? ⟨w6.heap.size + 1, 1, none⟩ = false := fun w' h => (Arr.below (w := W2) HY.out h (by omega)).frozen 1
    have HS : Below zz W2 W2 := Below.refl _ _
    clear RX RY hr5 hr6 hr5' hr6' hf5 hf6 hb5 hb6 hb7 D1 D2 hz7
    have hn6p : ((n6 : Int) == 0) = false := by
      have : n6 ≠ 0 := by intro e; apply hz; exact dg_length_zero.1 (by rw [← hn6.out]; exact e)
      simp; omega
    have HZ2 := Lib.hid hz
    clear hz
    go_upto_region 10 with (first | (go_at_call 25; ((with_reducible refine (D3.out _).mono ?_)); rintro e wn ⟨rfl, hbn⟩; replace HBd := HBd.trans (hbn.mono HBd.size); replace HS := HS.trans (hbn.mono (Nat.le_trans hzz HS.size)); clear hbn) | (go_at_call 26; ((with_reducible refine (D4.out _).mono ?_)); rintro e wn ⟨rfl, hbn⟩; replace HBd := HBd.trans (hbn.mono HBd.size); replace HS := HS.trans (hbn.mono (Nat.le_trans hzz HS.size)); clear hbn) | (go_at_call 27; ((with_reducible refine (rmul_p x y A5 A6 n5 n6 c5 c6 _ hn5 hn6 (RXH.out _ HS) (RYH.out _ HS) lx ly).mono ?_)); rintro e wn ⟨Am, nm, cm, rfl, hnm, hcm, hrm, hfm, hbn⟩; replace HBd := HBd.trans (hbn.mono HBd.size); replace HS := HS.trans (hbn.mono (Nat.le_trans hzz HS.size)); clear hbn) | (go_at_call 14; ((with_reducible refine (agree_any (mulN x y) Am nm cm _ hnm hrm).mono ?_)); rintro e wn ⟨rfl, hbn⟩; replace HBd := HBd.trans (hbn.mono HBd.size); replace HS := HS.trans (hbn.mono (Nat.le_trans hzz HS.size)); clear hbn) | (go_at_call 28; ((with_reducible refine (rdivmod_p x y A5 A6 n5 n6 c5 c6 _ hn5 hn6 (RXH.out _ HS) (RYH.out _ HS) lx ly HZ2.out).mono ?_)); rintro e wn ⟨Aq, nq, cq, Ar, nr, cr, rfl, hnq, hnr, hrq, hrr, hbn⟩; replace HBd := HBd.trans (hbn.mono HBd.size); replace HS := HS.trans (hbn.mono (Nat.le_trans hzz HS.size)); clear hbn))
    obtain ⟨HQ, HR, hb8, hz8⟩ := two_box wn 28 28 [.bool (dmQN x y).1, .slice Aq nq cq] [.bool (dmRN x y).1, .slice Ar nr cr]
    have hrq' := hrq.keep hb8
    have hrr' := hrr.keep hb8
    have HBe := HBd.trans (hb8.mono HBd.size)
    clear HBd HS
    generalize ((wn.alloc (.cells #[.bool (dmQN x y).1, .slice Aq nq cq] 28)).alloc (.cells #[.bool (dmRN x y).1, .slice Ar nr cr] 28)) = W3 at *
    have q0 := HQ.out.cell' (i := 0) rfl
    have q1 := HQ.out.cell' (i := 1) rfl
    have D6 := Lib.hid (fun w h => rtext_any (dmQN x y).1 Aq nq cq (dmQN x y).2 w hnq h (by have := hnq.out; have : (dg (dmQN x y).2).length ≤ 400 := lq; omega))
    have D7 := Lib.hid (fun w h => rtext_any (dmRN x y).1 Ar nr cr (dmRN x y).2 w hnr h (by have := hnr.out; have : (dg (dmRN x y).2).length ≤ 400 := lr; omega))
    have HRQ := Lib.hid hrq'
    have HRR := Lib.hid hrr'
    clear hrq hrr hrq' hrr' rx0 rx1 ry0 ry1 rxf0 rxf1 ryf0 ryf1 hb8 hz8
    generalize mks (ntx (dmQN x y).1 (dmQN x y).2) = Q at *
    generalize mks (ntx (dmRN x y).1 (dmRN x y).2) = R at *
    go_wp2_with (first | (go_at_call 29; ((with_reducible refine (D6.out _ HRQ.out).mono ?_)); rintro e w8 ⟨rfl, hb8⟩; have r0 := (HR.out.keep hb8).cell' (i := 0) rfl; have r1 := (HR.out.keep hb8).cell' (i := 1) rfl) | (go_at_call 29; ((with_reducible refine (D7.out _ (HRR.out.keep hb8)).mono ?_)); rintro e w9 ⟨rfl, hb9⟩) | (go_at_call 11; go_loud (refine (awake_any _).mono ?_; rintro e wz ⟨rfl, hbz⟩)))
    exact bodyPost_ret (v := .bool true) (by simp [results, Try.results5, go_sem]) rfl ⟨rfl, ((HBe.trans (hb8.mono HBe.size)).trans (hb9.mono (Nat.le_trans HBe.size hb8.size))).trans (hbz.mono (Nat.le_trans (Nat.le_trans HBe.size hb8.size) hb9.size))⟩
end Go.Proofs.Ytgnddobonboloaa
