/- IntegerAdds: the walk. -/
import Derived.Test.YtgnddobonboloaaLaw2
namespace Go.Proofs.Ytgnddobonboloaa
open Go.RowKit

set_option maxRecDepth 100000 in
set_option maxHeartbeats 16000000 in
theorem adds_any (b1 b2 : Bool) (l1 l2 : List Nat) (n1 n2 : Nat) (w : World) (h1 : By l1) (h2 : By l2) (k1 : n1 < 65536) (k2 : n2 < 65536) :
    Calls Try.prog 8 #[.agg #[.bool b1, .string (mks l1), .int .u16 (n1 : Int)], .agg #[.bool b2, .string (mks l2), .int .u16 (n2 : Int)]] w fun e w' => e = .returned (.bool true) ∧ Below w.heap.size w w' := by
  obtain ⟨HX, HY, HB, HZ⟩ := two_box w 36 36 [.bool b1, .string (mks l1), .int .u16 (n1 : Int)] [.bool b2, .string (mks l2), .int .u16 (n2 : Int)]
  go_enter Try.func8, Try.ntmps8
  go_upto_region 1 with (fail)
  have HBd := HB.drew
  generalize ((w.alloc (.cells #[.bool b1, .string (mks l1), .int .u16 (n1 : Int)] 36)).alloc (.cells #[.bool b2, .string (mks l2), .int .u16 (n2 : Int)] 36)) = W at *
  have x0 := HX.out.cell' (i := 0) rfl
  have x1 := HX.out.cell' (i := 1) rfl
  have x2 := HX.out.cell' (i := 2) rfl
  have y0 := HY.out.cell' (i := 0) rfl
  have y1 := HY.out.cell' (i := 1) rfl
  have y2 := HY.out.cell' (i := 2) rfl
  have HXd : Hid (Arr W.drew w.heap.size 36 [.bool b1, .string (mks l1), .int .u16 (n1 : Int)]) := HX
  have HYd : Hid (Arr W.drew (w.heap.size + 1) 36 [.bool b2, .string (mks l2), .int .u16 (n2 : Int)]) := HY
  go_region_held3 (fun w' => w'.cell? ⟨w.heap.size, 0, none⟩ = some (.bool b1) ∧ w'.cell? ⟨w.heap.size, 1, none⟩ = some (.string (mks l1)) ∧ w'.cell? ⟨w.heap.size, 2, none⟩ = some (.int .u16 (n1 : Int)) ∧ w'.cell? ⟨w.heap.size + 1, 0, none⟩ = some (.bool b2) ∧ w'.cell? ⟨w.heap.size + 1, 1, none⟩ = some (.string (mks l2)) ∧ w'.cell? ⟨w.heap.size + 1, 2, none⟩ = some (.int .u16 (n2 : Int))) (first | exact ⟨x0, x1, x2, y0, y1, y2⟩ | exact ⟨x0', x1', x2', y0', y1', y2'⟩ | exact ⟨x0'', x1'', x2'', y0'', y1'', y2''⟩) (first | (go_at_call 17; (with_reducible refine (lawtext_any b1 l1 n1 _ h1 k1).mono ?_); rintro e w5 ⟨m1, ⟨⟩, hm1, hb5⟩; have x0' := ((HXd.out.keep hb5)).cell' (i := 0) rfl; have x1' := ((HXd.out.keep hb5)).cell' (i := 1) rfl; have x2' := ((HXd.out.keep hb5)).cell' (i := 2) rfl; have y0' := ((HYd.out.keep hb5)).cell' (i := 0) rfl; have y1' := ((HYd.out.keep hb5)).cell' (i := 1) rfl; have y2' := ((HYd.out.keep hb5)).cell' (i := 2) rfl) | (go_at_call 17; (with_reducible refine (lawtext_any b2 l2 n2 _ h2 k2).mono ?_); rintro e w6 ⟨m2, ⟨⟩, hm2, hb6⟩; have x0'' := (((HXd.out.keep hb5).keep hb6)).cell' (i := 0) rfl; have x1'' := (((HXd.out.keep hb5).keep hb6)).cell' (i := 1) rfl; have x2'' := (((HXd.out.keep hb5).keep hb6)).cell' (i := 2) rfl; have y0'' := (((HYd.out.keep hb5).keep hb6)).cell' (i := 0) rfl; have y1'' := (((HYd.out.keep hb5).keep hb6)).cell' (i := 1) rfl; have y2'' := (((HYd.out.keep hb5).keep hb6)).cell' (i := 2) rfl))
  replace HBd := HBd.trans (hb5.mono HBd.size)
  replace HBd := HBd.trans (hb6.mono HBd.size)
  have P1 := Lib.hid (parseC_ntx b1 m1 hm1)
  have P2 := Lib.hid (parseC_ntx b2 m2 hm2)
  clear x0 x0' x0'' x1 x1' x1'' x2 x2' x2'' y0 y0' y0'' y1 y1' y1'' y2 y2' y2'' hb5 hb6
  have C1 := fun w => of_ntx b1 m1 w hm1
  have C2 := fun w => of_ntx b2 m2 w hm2
  have okX := can_dgX b1 m1
  have okY := can_dgX b2 m2
  have lx : (dg (b1 && decide (0 < m1), m1).2).length ≤ 400 := hm1
  have ly : (dg (b2 && decide (0 < m2), m2).2).length ≤ 400 := hm2
  generalize (b1 && decide (0 < m1), m1) = x at *
  generalize (b2 && decide (0 < m2), m2) = y at *
  have C3 := fun w => add_ok _ _ x y w (by_ntx b1 m1) (by_ntx b2 m2) P1.out P2.out trivial
  have C4 := fun w => sub_ok _ _ x y w (by_ntx b1 m1) (by_ntx b2 m2) P1.out P2.out
  have C5 := fun w => cmp_ok _ _ x y w (by_ntx b1 m1) (by_ntx b2 m2) P1.out P2.out
  have C6 := fun w => neg_ok _ x w (by_ntx b1 m1) P1.out
  rw [tS_le (x := negN x) lx] at C6
  generalize mks (ntx b1 m1) = A at *
  generalize mks (ntx b2 m2) = B at *
  have D1 := Lib.hid C1
  have D2 := Lib.hid C2
  have D3 := Lib.hid C3
  have D4 := Lib.hid C4
  clear C1 C2 C3 C4 P1 P2
  go_upto_region 3 with (first | (go_at_call 18; ((with_reducible refine (D1.out _).mono ?_)); rintro e w5 ⟨A5, n5, c5, rfl, hn5, hc5, hr5, hf5, hb5⟩) | (go_at_call 18; ((with_reducible refine (D2.out _).mono ?_)); rintro e w6 ⟨A6, n6, c6, rfl, hn6, hc6, hr6, hf6, hb6⟩))
  obtain ⟨HX, HY, hb7, hz7⟩ := two_box w6 28 28 [.bool x.1, .slice A5 n5 c5] [.bool y.1, .slice A6 n6 c6]
  replace HBd := ((HBd.trans (hb5.mono HBd.size)).trans (hb6.mono (Nat.le_trans HBd.size hb5.size))).trans (hb7.mono (Nat.le_trans (Nat.le_trans HBd.size hb5.size) hb6.size))
  have hr5' := (hr5.keep hb6).keep hb7
  have hr6' := hr6.keep hb7
  have hn54 : n5 ≤ 400 := by have := hn5.out; omega
  have hn64 : n6 ≤ 400 := by have := hn6.out; omega
  generalize ((w6.alloc (.cells #[.bool x.1, .slice A5 n5 c5] 28)).alloc (.cells #[.bool y.1, .slice A6 n6 c6] 28)) = W2 at *
  obtain ⟨zz, hzz, hzz2, hzz3, hzz4⟩ : ∃ zz, zz ≤ W2.heap.size ∧ Hid (W2.heap.size = zz) ∧ w6.heap.size < zz ∧ w6.heap.size + 1 < zz := ⟨W2.heap.size, Nat.le_refl _, rfl, by have := hz7.out; omega, by have := hz7.out; omega⟩
  have RX : ∀ w', Below zz W2 w' → Rd w' A5 (B8 (dg x.2)) := fun w' h => hr5'.keep (by rw [hzz2.out]; exact h)
  have RY : ∀ w', Below zz W2 w' → Rd w' A6 (B8 (dg y.2)) := fun w' h => hr6'.keep (by rw [hzz2.out]; exact h)
  have RXH := Lib.hid RX
  have RYH := Lib.hid RY
  have rx0 : ∀ w', Below zz W2 w' → w'.cell? ⟨w6.heap.size, 0, none⟩ = some (.bool x.1) := fun w' h => (Arr.below (w := W2) HX.out h (by omega)).cell' (i := 0) rfl; have rxf0 : ∀ w', Below zz W2 w' → w'.frozen? ⟨w6.heap.size, 0, none⟩ = false := fun w' h => (Arr.below (w := W2) HX.out h (by omega)).frozen 0; have rx1 : ∀ w', Below zz W2 w' → w'.cell? ⟨w6.heap.size, 1, none⟩ = some (.slice A5 n5 c5) := fun w' h => (Arr.below (w := W2) HX.out h (by omega)).cell' (i := 1) rfl; have rxf1 : ∀ w', Below zz W2 w' → w'.frozen? ⟨w6.heap.size, 1, none⟩ = false := fun w' h => (Arr.below (w := W2) HX.out h (by omega)).frozen 1
  have ry0 : ∀ w', Below zz W2 w' → w'.cell? ⟨w6.heap.size + 1, 0, none⟩ = some (.bool y.1) := fun w' h => (Arr.below (w := W2) HY.out h (by omega)).cell' (i := 0) rfl; have ryf0 : ∀ w', Below zz W2 w' → w'.frozen? ⟨w6.heap.size + 1, 0, none⟩ = false := fun w' h => (Arr.below (w := W2) HY.out h (by omega)).frozen 0; have ry1 : ∀ w', Below zz W2 w' → w'.cell? ⟨w6.heap.size + 1, 1, none⟩ = some (.slice A6 n6 c6) := fun w' h => (Arr.below (w := W2) HY.out h (by omega)).cell' (i := 1) rfl; have ryf1 : ∀ w', Below zz W2 w' → w'.frozen? ⟨w6.heap.size + 1, 1, none⟩ = false := fun w' h => (Arr.below (w := W2) HY.out h (by omega)).frozen 1
  have HS : Below zz W2 W2 := Below.refl _ _
  clear RX RY hr5 hr6 hr5' hr6' hf5 hf6 hb5 hb6 hb7 D1 D2 hz7
  have HB2 := HBd
  have HZB : w.heap.size ≤ zz := by have := HB2.size; have := hzz2.out; omega
  go_upto_region 5 with (first | (go_at_call 32; ((with_reducible refine (D3.out _).mono ?_)); rintro e wn ⟨rfl, hbn⟩; replace HBd := HBd.trans (hbn.mono HBd.size); replace HS := HS.trans (hbn.mono (Nat.le_trans hzz HS.size)); clear hbn) | (go_at_call 33; ((with_reducible refine (D4.out _).mono ?_)); rintro e wn ⟨rfl, hbn⟩; replace HBd := HBd.trans (hbn.mono HBd.size); replace HS := HS.trans (hbn.mono (Nat.le_trans hzz HS.size)); clear hbn))
  have HSd : Below zz W2 wn.drew := HS.drew
  have HBe := HBd.drew
  have hz1 : zz ≤ wn.drew.heap.size := Nat.le_trans hzz HS.size
  have hz2 : zz ≤ wn.heap.size := hz1
  have E2 := fun w h h' => rcmp_any x.1 y.1 A5 A6 n5 n6 c5 c6 x.2 y.2 w hn5 hn6 h h' (by omega) (by omega)
  have E4 := fun w h => rneg_any x.1 A5 n5 c5 x.2 w hn5 h hc5 (by unfold maxLen; omega)
  have E7 := fun w h => rneg_any y.1 A6 n6 c6 y.2 w hn6 h hc6 (by unfold maxLen; omega)
  have E5 := fun w h => rtext_any (negN x).1 A5 n5 c5 x.2 w hn5 h (by omega)
  have E6 := fun w h h' => radd_any x y A5 A6 n5 n6 c5 c6 w hn5 hn6 h h' (by omega) (by omega) okX okY
  have E8 := fun w h h' => radd_any x (negN y) A5 A6 n5 n6 c5 c6 w hn5 hn6 h h' (by omega) (by omega) okX (ok_negN y)
  have E9 := fun A n c w hn hr => agree_any (sumN x y) A n c w hn hr
  have E10 := fun A n c w hn hr => agree_any (sumN x (negN y)) A n c w hn hr
  change ∀ w, _ → _ → Calls _ _ _ _ (fun e w' => e = .returned (.int .i64 (cmpP x y)) ∧ _) at E2
  change ∀ w, _ → Calls _ _ _ _ (fun e w' => e = .returned (.agg #[.bool (negN x).1, _]) ∧ _) at E4
  change ∀ w, _ → Calls _ _ _ _ (fun e w' => e = .returned (.agg #[.bool (negN y).1, _]) ∧ _) at E7
  change ∀ w, Calls _ _ _ _ (fun e w' => e = .returned (.string (mks (ntx (negN x).1 x.2))) ∧ _) at C6
  generalize mks (ntx (negN x).1 x.2) = NX at *
  generalize (negN x).1 = nbx at *
  generalize mks (tS (sumN x (negN y))) = SD at *
  generalize tE (sumN x (negN y)) = TD at *
  generalize mks (tS (sumN x y)) = SA at *
  generalize tE (sumN x y) = TA at *
  generalize cmpP x y = ZC at *
  have D5 := Lib.hid C5
  have D6 := Lib.hid C6
  have F2 := Lib.hid E2
  have F4 := Lib.hid E4
  have F5 := Lib.hid E5
  have F6 := Lib.hid E6
  have F7 := Lib.hid E7
  have F8 := Lib.hid E8
  have F9 := Lib.hid E9
  have F10 := Lib.hid E10
  clear C5 C6 E2 E4 E5 E6 E7 E8 E9 E10 D3 D4
  go_region_held3 (fun w' => Below zz W2 w') (assumption)
    (first | (go_at_call 34; ((with_reducible refine (D5.out _).mono ?_)); (all_goals try (fail)); rintro e w11 ⟨rfl, hb11⟩; have z11 := hb11.size; (try simp at z11); have hS11_0 : Below zz W2 w11 := Below.trans (by first | assumption | exact Below.alloc (by assumption) (by first | omega | (simp; omega)) _ | exact Below.allocDrew (by assumption) (by first | omega | (simp; omega)) _) (hb11.mono (by first | omega | (simp; omega)))) | (go_at_call 35; ((with_reducible refine (F2.out _ (RXH.out _ (by assumption)) (RYH.out _ (by assumption))).mono ?_)); (all_goals try (fail)); rintro e w12 ⟨rfl, hb12⟩; have z12 := hb12.size; (try simp at z12); have hS12_0 : Below zz W2 w12 := Below.trans (by first | assumption | exact Below.alloc (by assumption) (by first | omega | (simp; omega)) _ | exact Below.allocDrew (by assumption) (by first | omega | (simp; omega)) _) (hb12.mono (by first | omega | (simp; omega)))) | (go_at_call 36; ((with_reducible refine (D6.out _).mono ?_)); (all_goals try (fail)); rintro e w13 ⟨rfl, hb13⟩; have z13 := hb13.size; (try simp at z13); have hS13_0 : Below zz W2 w13 := Below.trans (by first | assumption | exact Below.alloc (by assumption) (by first | omega | (simp; omega)) _ | exact Below.allocDrew (by assumption) (by first | omega | (simp; omega)) _) (hb13.mono (by first | omega | (simp; omega)))) | (go_at_call 37; ((with_reducible refine (F4.out _ (RXH.out _ (by assumption))).mono ?_)); (all_goals try (fail)); rintro e w14 ⟨rfl, hb14⟩; have z14 := hb14.size; (try simp at z14); have hS14_0 : Below zz W2 w14 := Below.trans (by first | assumption | exact Below.alloc (by assumption) (by first | omega | (simp; omega)) _ | exact Below.allocDrew (by assumption) (by first | omega | (simp; omega)) _) (hb14.mono (by first | omega | (simp; omega)))) | (go_at_call 29; ((with_reducible refine (F5.out _ (RXH.out _ (by assumption))).mono ?_)); (all_goals try (fail)); rintro e w15 ⟨rfl, hb15⟩; have z15 := hb15.size; (try simp at z15); have hS15_0 : Below zz W2 w15 := Below.trans (by first | assumption | exact Below.alloc (by assumption) (by first | omega | (simp; omega)) _ | exact Below.allocDrew (by assumption) (by first | omega | (simp; omega)) _) (hb15.mono (by first | omega | (simp; omega)))) | (go_at_call 38; ((with_reducible refine (F6.out _ (RXH.out _ (by assumption)) (RYH.out _ (by assumption))).mono ?_)); (all_goals try (fail)); rintro e w16 ⟨A16, n16, c16, rfl, hn16, hc16, hr16, hf16, hb16⟩; have z16 := hb16.size; (try simp at z16); have hS16_0 : Below zz W2 w16 := Below.trans (by first | assumption | exact Below.alloc (by assumption) (by first | omega | (simp; omega)) _ | exact Below.allocDrew (by assumption) (by first | omega | (simp; omega)) _) (hb16.mono (by first | omega | (simp; omega)))) | (go_at_call 14; ((with_reducible refine (F9.out A16 n16 c16 _ hn16 hr16).mono ?_)); (all_goals try (fail)); rintro e w17 ⟨rfl, hb17⟩; have z17 := hb17.size; (try simp at z17); have hS17_0 : Below zz W2 w17 := Below.trans (by first | assumption | exact Below.alloc (by assumption) (by first | omega | (simp; omega)) _ | exact Below.allocDrew (by assumption) (by first | omega | (simp; omega)) _) (hb17.mono (by first | omega | (simp; omega)))) | (go_at_call 37; ((with_reducible refine (F7.out _ (RYH.out _ (by assumption))).mono ?_)); (all_goals try (fail)); rintro e w18 ⟨rfl, hb18⟩; have z18 := hb18.size; (try simp at z18); have hS18_0 : Below zz W2 w18 := Below.trans (by first | assumption | exact Below.alloc (by assumption) (by first | omega | (simp; omega)) _ | exact Below.allocDrew (by assumption) (by first | omega | (simp; omega)) _) (hb18.mono (by first | omega | (simp; omega)))) | (go_at_call 38; ((with_reducible refine (F8.out _ (RXH.out _ (by assumption)) (RYH.out _ (by assumption))).mono ?_)); (all_goals try (fail)); rintro e w19 ⟨A19, n19, c19, rfl, hn19, hc19, hr19, hf19, hb19⟩; have z19 := hb19.size; (try simp at z19); have hS19_0 : Below zz W2 w19 := Below.trans (by first | assumption | exact Below.alloc (by assumption) (by first | omega | (simp; omega)) _ | exact Below.allocDrew (by assumption) (by first | omega | (simp; omega)) _) (hb19.mono (by first | omega | (simp; omega)))) | (go_at_call 14; ((with_reducible refine (F10.out A19 n19 c19 _ hn19 hr19).mono ?_)); (all_goals try (fail)); rintro e w20 ⟨rfl, hb20⟩; have z20 := hb20.size; (try simp at z20); have hS20_0 : Below zz W2 w20 := Below.trans (by first | assumption | exact Below.alloc (by assumption) (by first | omega | (simp; omega)) _ | exact Below.allocDrew (by assumption) (by first | omega | (simp; omega)) _) (hb20.mono (by first | omega | (simp; omega)))) | (go_at_call 11; ((with_reducible refine (awake_any _).mono ?_)); (all_goals try (fail)); rintro e w21 ⟨rfl, hb21⟩; have z21 := hb21.size; (try simp at z21); have hS21_0 : Below zz W2 w21 := Below.trans (by first | assumption | exact Below.alloc (by assumption) (by first | omega | (simp; omega)) _ | exact Below.allocDrew (by assumption) (by first | omega | (simp; omega)) _) (hb21.mono (by first | omega | (simp; omega)))))
  all_goals
    go_wp2
    exact bodyPost_ret (v := .bool true) (by simp [results, Try.results8, go_sem]) rfl ⟨rfl, HB2.trans (Below.mono (by assumption) HZB)⟩
end Go.Proofs.Ytgnddobonboloaa
