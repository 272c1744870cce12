/- IntegerRings: the walk. -/
import Derived.Test.YtgnddobonboloaaOpen
namespace Go.Proofs.Ytgnddobonboloaa
open Go.RowKit

set_option maxRecDepth 100000 in
set_option maxHeartbeats 8000000 in
theorem rings_any (b1 b2 b3 : Bool) (l1 l2 l3 : List Nat) (n1 n2 n3 : Nat) (w : World) (h1 : By l1) (h2 : By l2) (h3 : By l3) (k1 : n1 < 65536) (k2 : n2 < 65536) (k3 : n3 < 65536) :
    Calls Try.prog 7 #[.agg #[.bool b1, .string (mks l1), .int .u16 (n1 : Int)], .agg #[.bool b2, .string (mks l2), .int .u16 (n2 : Int)], .agg #[.bool b3, .string (mks l3), .int .u16 (n3 : Int)]] w fun e w' => e = .returned (.bool true) ∧ Below w.heap.size w w' := by
  obtain ⟨HX, HY, HV, HB, HZ⟩ := boxes3 w 36 36 36 [.bool b1, .string (mks l1), .int .u16 (n1 : Int)] [.bool b2, .string (mks l2), .int .u16 (n2 : Int)] [.bool b3, .string (mks l3), .int .u16 (n3 : Int)]
  go_enter Try.func7, Try.ntmps7
  go_upto_region 1 with (fail)
  have HBd := HB.drew
  generalize (((w.alloc (.cells #[.bool b1, .string (mks l1), .int .u16 (n1 : Int)] 36)).alloc (.cells #[.bool b2, .string (mks l2), .int .u16 (n2 : Int)] 36)).alloc (.cells #[.bool b3, .string (mks l3), .int .u16 (n3 : Int)] 36)) = W at *
  have x0 := HX.out.cell' (i := 0) rfl
  have x1 := HX.out.cell' (i := 1) rfl
  have x2 := HX.out.cell' (i := 2) rfl
  have y0 := HY.out.cell' (i := 0) rfl
  have y1 := HY.out.cell' (i := 1) rfl
  have y2 := HY.out.cell' (i := 2) rfl
  have v0 := HV.out.cell' (i := 0) rfl
  have v1 := HV.out.cell' (i := 1) rfl
  have v2 := HV.out.cell' (i := 2) rfl
  have HXd : Hid (Arr W.drew w.heap.size 36 [.bool b1, .string (mks l1), .int .u16 (n1 : Int)]) := HX
  have HYd : Hid (Arr W.drew (w.heap.size + 1) 36 [.bool b2, .string (mks l2), .int .u16 (n2 : Int)]) := HY
  have HVd : Hid (Arr W.drew (w.heap.size + 2) 36 [.bool b3, .string (mks l3), .int .u16 (n3 : Int)]) := HV
  go_region_held3 (fun w' => w'.cell? ⟨w.heap.size, 0, none⟩ = some (.bool b1) ∧ w'.cell? ⟨w.heap.size, 1, none⟩ = some (.string (mks l1)) ∧ w'.cell? ⟨w.heap.size, 2, none⟩ = some (.int .u16 (n1 : Int)) ∧ w'.cell? ⟨w.heap.size + 1, 0, none⟩ = some (.bool b2) ∧ w'.cell? ⟨w.heap.size + 1, 1, none⟩ = some (.string (mks l2)) ∧ w'.cell? ⟨w.heap.size + 1, 2, none⟩ = some (.int .u16 (n2 : Int)) ∧ w'.cell? ⟨w.heap.size + 2, 0, none⟩ = some (.bool b3) ∧ w'.cell? ⟨w.heap.size + 2, 1, none⟩ = some (.string (mks l3)) ∧ w'.cell? ⟨w.heap.size + 2, 2, none⟩ = some (.int .u16 (n3 : Int))) (first | exact ⟨x0, x1, x2, y0, y1, y2, v0, v1, v2⟩ | exact ⟨x0', x1', x2', y0', y1', y2', v0', v1', v2'⟩ | exact ⟨x0'', x1'', x2'', y0'', y1'', y2'', v0'', v1'', v2''⟩ | exact ⟨x0''', x1''', x2''', y0''', y1''', y2''', v0''', v1''', v2'''⟩) (first | (go_at_call 17; (with_reducible refine (lawtext_any b1 l1 n1 _ h1 k1).mono ?_); rintro e w5 ⟨m1, ⟨⟩, hm1, hb5⟩; have x0' := ((HXd.out.keep hb5)).cell' (i := 0) rfl; have x1' := ((HXd.out.keep hb5)).cell' (i := 1) rfl; have x2' := ((HXd.out.keep hb5)).cell' (i := 2) rfl; have y0' := ((HYd.out.keep hb5)).cell' (i := 0) rfl; have y1' := ((HYd.out.keep hb5)).cell' (i := 1) rfl; have y2' := ((HYd.out.keep hb5)).cell' (i := 2) rfl; have v0' := ((HVd.out.keep hb5)).cell' (i := 0) rfl; have v1' := ((HVd.out.keep hb5)).cell' (i := 1) rfl; have v2' := ((HVd.out.keep hb5)).cell' (i := 2) rfl) | (go_at_call 17; (with_reducible refine (lawtext_any b2 l2 n2 _ h2 k2).mono ?_); rintro e w6 ⟨m2, ⟨⟩, hm2, hb6⟩; have x0'' := (((HXd.out.keep hb5).keep hb6)).cell' (i := 0) rfl; have x1'' := (((HXd.out.keep hb5).keep hb6)).cell' (i := 1) rfl; have x2'' := (((HXd.out.keep hb5).keep hb6)).cell' (i := 2) rfl; have y0'' := (((HYd.out.keep hb5).keep hb6)).cell' (i := 0) rfl; have y1'' := (((HYd.out.keep hb5).keep hb6)).cell' (i := 1) rfl; have y2'' := (((HYd.out.keep hb5).keep hb6)).cell' (i := 2) rfl; have v0'' := (((HVd.out.keep hb5).keep hb6)).cell' (i := 0) rfl; have v1'' := (((HVd.out.keep hb5).keep hb6)).cell' (i := 1) rfl; have v2'' := (((HVd.out.keep hb5).keep hb6)).cell' (i := 2) rfl) | (go_at_call 17; (with_reducible refine (lawtext_any b3 l3 n3 _ h3 k3).mono ?_); rintro e w7 ⟨m3, ⟨⟩, hm3, hb7⟩; have x0''' := ((((HXd.out.keep hb5).keep hb6).keep hb7)).cell' (i := 0) rfl; have x1''' := ((((HXd.out.keep hb5).keep hb6).keep hb7)).cell' (i := 1) rfl; have x2''' := ((((HXd.out.keep hb5).keep hb6).keep hb7)).cell' (i := 2) rfl; have y0''' := ((((HYd.out.keep hb5).keep hb6).keep hb7)).cell' (i := 0) rfl; have y1''' := ((((HYd.out.keep hb5).keep hb6).keep hb7)).cell' (i := 1) rfl; have y2''' := ((((HYd.out.keep hb5).keep hb6).keep hb7)).cell' (i := 2) rfl; have v0''' := ((((HVd.out.keep hb5).keep hb6).keep hb7)).cell' (i := 0) rfl; have v1''' := ((((HVd.out.keep hb5).keep hb6).keep hb7)).cell' (i := 1) rfl; have v2''' := ((((HVd.out.keep hb5).keep hb6).keep hb7)).cell' (i := 2) rfl))
  replace HBd := HBd.trans (hb5.mono HBd.size)
  replace HBd := HBd.trans (hb6.mono HBd.size)
  replace HBd := HBd.trans (hb7.mono HBd.size)
  have P1 := Lib.hid (parseC_ntx b1 m1 hm1)
  have P2 := Lib.hid (parseC_ntx b2 m2 hm2)
  have P3 := Lib.hid (parseC_ntx b3 m3 hm3)
  clear x0 x0' x0'' x0''' x1 x1' x1'' x1''' x2 x2' x2'' x2''' y0 y0' y0'' y0''' y1 y1' y1'' y1''' y2 y2' y2'' y2''' v0 v0' v0'' v0''' v1 v1' v1'' v1''' v2 v2' v2'' v2''' hb5 hb6 hb7
  have okX := can_dgX b1 m1
  have okY := can_dgX b2 m2
  have okZ := can_dgX b3 m3
  generalize (b1 && decide (0 < m1), m1) = x at *
  generalize (b2 && decide (0 < m2), m2) = y at *
  generalize (b3 && decide (0 < m3), m3) = z at *
  have C1 := fun w => add_ok _ _ x y w (by_ntx b1 m1) (by_ntx b2 m2) P1.out P2.out trivial
  have C2 := fun w => add_ok _ _ y x w (by_ntx b2 m2) (by_ntx b1 m1) P2.out P1.out trivial
  have C3 := fun w => add_ok _ _ y z w (by_ntx b2 m2) (by_ntx b3 m3) P2.out P3.out trivial
  have C6 := fun w => mul_ok _ _ x z w (by_ntx b1 m1) (by_ntx b3 m3) P1.out P3.out
  have C7 := fun w => mul_ok _ _ y z w (by_ntx b2 m2) (by_ntx b3 m3) P2.out P3.out
  have C12 := fun w => mul_ok _ _ x y w (by_ntx b1 m1) (by_ntx b2 m2) P1.out P2.out
  have C13 := fun w => mul_ok _ _ y x w (by_ntx b2 m2) (by_ntx b1 m1) P2.out P1.out
  rw [sumN_comm okX okY] at C2
  rw [mulN_comm x y] at C13
  by_cases q1 : (dg (sumN x y).2).length ≤ 400; rotate_left
  · rw [tE_gt q1] at C1 C2
    skip
    have D1 := Lib.hid C1
    have D2 := Lib.hid C2
    have D3 := Lib.hid C3
    have D6 := Lib.hid C6
    have D7 := Lib.hid C7
    have D12 := Lib.hid C12
    have D13 := Lib.hid C13
    skip
    clear C1 C2 C3 C6 C7 C12 C13 P1 P2 P3
    skip
    generalize mks (tS (sumN x y)) = XY at *
    generalize mks (tS (sumN y z)) = YZ at *
    generalize mks (tS (mulN x z)) = XZ at *
    generalize mks (tS (mulN y z)) = YZM at *
    generalize mks (tS (mulN x y)) = XYM2 at *
    generalize tE (mulN x y) = v4 at *
    generalize tE (mulN y z) = v5 at *
    generalize tE (mulN x z) = v6 at *
    generalize tE (sumN y z) = v7 at *
    generalize mks (ntx b1 m1) = A at *
    generalize mks (ntx b2 m2) = B at *
    generalize mks (ntx b3 m3) = C at *
    go_wp2_with (first | (go_at_call 32; ((with_reducible refine (D1.out _).mono ?_)); rintro e wn ⟨rfl, hbn⟩; replace HBd := HBd.trans (hbn.mono HBd.size); clear hbn) | (go_at_call 32; ((with_reducible refine (D2.out _).mono ?_)); rintro e wn ⟨rfl, hbn⟩; replace HBd := HBd.trans (hbn.mono HBd.size); clear hbn) | (go_at_call 32; ((with_reducible refine (D3.out _).mono ?_)); rintro e wn ⟨rfl, hbn⟩; replace HBd := HBd.trans (hbn.mono HBd.size); clear hbn) | (go_at_call 25; ((with_reducible refine (D6.out _).mono ?_)); rintro e wn ⟨rfl, hbn⟩; replace HBd := HBd.trans (hbn.mono HBd.size); clear hbn) | (go_at_call 25; ((with_reducible refine (D7.out _).mono ?_)); rintro e wn ⟨rfl, hbn⟩; replace HBd := HBd.trans (hbn.mono HBd.size); clear hbn) | (go_at_call 25; ((with_reducible refine (D12.out _).mono ?_)); rintro e wn ⟨rfl, hbn⟩; replace HBd := HBd.trans (hbn.mono HBd.size); clear hbn) | (go_at_call 25; ((with_reducible refine (D13.out _).mono ?_)); rintro e wn ⟨rfl, hbn⟩; replace HBd := HBd.trans (hbn.mono HBd.size); clear hbn) | (go_at_call 25; ((with_reducible refine (D6.out _).mono ?_)); rintro e wn ⟨rfl, hbn⟩; replace HBd := HBd.trans (hbn.mono HBd.size); clear hbn) | (go_at_call 11; ((with_reducible refine (awake_any _).mono ?_)); rintro e wn ⟨rfl, hbn⟩; replace HBd := HBd.trans (hbn.mono HBd.size); clear hbn))
    exact bodyPost_ret (v := .bool true) (by simp [results, Try.results7, go_sem]) rfl ⟨rfl, HBd⟩
  by_cases q2 : (dg (sumN y z).2).length ≤ 400; rotate_left
  · rw [tE_le q1] at C1 C2; rw [tE_gt q2] at C3
    skip
    have D1 := Lib.hid C1
    have D2 := Lib.hid C2
    have D3 := Lib.hid C3
    have D6 := Lib.hid C6
    have D7 := Lib.hid C7
    have D12 := Lib.hid C12
    have D13 := Lib.hid C13
    skip
    clear C1 C2 C3 C6 C7 C12 C13 P1 P2 P3
    skip
    generalize mks (tS (sumN x y)) = XY at *
    generalize mks (tS (sumN y z)) = YZ at *
    generalize mks (tS (mulN x z)) = XZ at *
    generalize mks (tS (mulN y z)) = YZM at *
    generalize mks (tS (mulN x y)) = XYM2 at *
    generalize tE (mulN x y) = v4 at *
    generalize tE (mulN y z) = v5 at *
    generalize tE (mulN x z) = v6 at *
    generalize tE (sumN y z) = v7 at *
    generalize mks (ntx b1 m1) = A at *
    generalize mks (ntx b2 m2) = B at *
    generalize mks (ntx b3 m3) = C at *
    go_wp2_with (first | (go_at_call 32; ((with_reducible refine (D1.out _).mono ?_)); rintro e wn ⟨rfl, hbn⟩; replace HBd := HBd.trans (hbn.mono HBd.size); clear hbn) | (go_at_call 32; ((with_reducible refine (D2.out _).mono ?_)); rintro e wn ⟨rfl, hbn⟩; replace HBd := HBd.trans (hbn.mono HBd.size); clear hbn) | (go_at_call 32; ((with_reducible refine (D3.out _).mono ?_)); rintro e wn ⟨rfl, hbn⟩; replace HBd := HBd.trans (hbn.mono HBd.size); clear hbn) | (go_at_call 25; ((with_reducible refine (D6.out _).mono ?_)); rintro e wn ⟨rfl, hbn⟩; replace HBd := HBd.trans (hbn.mono HBd.size); clear hbn) | (go_at_call 25; ((with_reducible refine (D7.out _).mono ?_)); rintro e wn ⟨rfl, hbn⟩; replace HBd := HBd.trans (hbn.mono HBd.size); clear hbn) | (go_at_call 25; ((with_reducible refine (D12.out _).mono ?_)); rintro e wn ⟨rfl, hbn⟩; replace HBd := HBd.trans (hbn.mono HBd.size); clear hbn) | (go_at_call 25; ((with_reducible refine (D13.out _).mono ?_)); rintro e wn ⟨rfl, hbn⟩; replace HBd := HBd.trans (hbn.mono HBd.size); clear hbn) | (go_at_call 25; ((with_reducible refine (D6.out _).mono ?_)); rintro e wn ⟨rfl, hbn⟩; replace HBd := HBd.trans (hbn.mono HBd.size); clear hbn) | (go_at_call 11; ((with_reducible refine (awake_any _).mono ?_)); rintro e wn ⟨rfl, hbn⟩; replace HBd := HBd.trans (hbn.mono HBd.size); clear hbn))
    exact bodyPost_ret (v := .bool true) (by simp [results, Try.results7, go_sem]) rfl ⟨rfl, HBd⟩
  by_cases q3 : (dg (mulN x z).2).length ≤ 400; rotate_left
  · rw [tE_le q1] at C1 C2; rw [tE_le q2] at C3; rw [tE_gt q3] at C6
    have PS := parse_tS q1 (ok_sumN okX okY); have PT := parse_tS q2 (ok_sumN okY okZ); have C4 := fun w => add_ok _ _ _ z w (by_tS _) (by_ntx b3 m3) PS P3.out trivial; have C5 := fun w => add_ok _ _ x _ w (by_ntx b1 m1) (by_tS _) P1.out PT trivial; rw [sumN_assoc okX okY okZ] at C4
    have D1 := Lib.hid C1
    have D2 := Lib.hid C2
    have D3 := Lib.hid C3
    have D6 := Lib.hid C6
    have D7 := Lib.hid C7
    have D12 := Lib.hid C12
    have D13 := Lib.hid C13
    have D4 := Lib.hid C4; have D5 := Lib.hid C5; clear C4 C5 PS PT
    clear C1 C2 C3 C6 C7 C12 C13 P1 P2 P3
    generalize mks (tS (sumN x (sumN y z))) = XYZ at *; generalize tE (sumN x (sumN y z)) = v1 at *
    generalize mks (tS (sumN x y)) = XY at *
    generalize mks (tS (sumN y z)) = YZ at *
    generalize mks (tS (mulN x z)) = XZ at *
    generalize mks (tS (mulN y z)) = YZM at *
    generalize mks (tS (mulN x y)) = XYM2 at *
    generalize tE (mulN x y) = v4 at *
    generalize tE (mulN y z) = v5 at *
    generalize tE (mulN x z) = v6 at *
    generalize tE (sumN y z) = v7 at *
    generalize mks (ntx b1 m1) = A at *
    generalize mks (ntx b2 m2) = B at *
    generalize mks (ntx b3 m3) = C at *
    go_wp2_with (first | (go_at_call 32; ((with_reducible refine (D1.out _).mono ?_)); rintro e wn ⟨rfl, hbn⟩; replace HBd := HBd.trans (hbn.mono HBd.size); clear hbn) | (go_at_call 32; ((with_reducible refine (D2.out _).mono ?_)); rintro e wn ⟨rfl, hbn⟩; replace HBd := HBd.trans (hbn.mono HBd.size); clear hbn) | (go_at_call 32; ((with_reducible refine (D3.out _).mono ?_)); rintro e wn ⟨rfl, hbn⟩; replace HBd := HBd.trans (hbn.mono HBd.size); clear hbn) | (go_at_call 25; ((with_reducible refine (D6.out _).mono ?_)); rintro e wn ⟨rfl, hbn⟩; replace HBd := HBd.trans (hbn.mono HBd.size); clear hbn) | (go_at_call 25; ((with_reducible refine (D7.out _).mono ?_)); rintro e wn ⟨rfl, hbn⟩; replace HBd := HBd.trans (hbn.mono HBd.size); clear hbn) | (go_at_call 25; ((with_reducible refine (D12.out _).mono ?_)); rintro e wn ⟨rfl, hbn⟩; replace HBd := HBd.trans (hbn.mono HBd.size); clear hbn) | (go_at_call 25; ((with_reducible refine (D13.out _).mono ?_)); rintro e wn ⟨rfl, hbn⟩; replace HBd := HBd.trans (hbn.mono HBd.size); clear hbn) | (go_at_call 32; ((with_reducible refine (D4.out _).mono ?_)); rintro e wn ⟨rfl, hbn⟩; replace HBd := HBd.trans (hbn.mono HBd.size); clear hbn) | (go_at_call 32; ((with_reducible refine (D5.out _).mono ?_)); rintro e wn ⟨rfl, hbn⟩; replace HBd := HBd.trans (hbn.mono HBd.size); clear hbn) | (go_at_call 11; ((with_reducible refine (awake_any _).mono ?_)); rintro e wn ⟨rfl, hbn⟩; replace HBd := HBd.trans (hbn.mono HBd.size); clear hbn))
    exact bodyPost_ret (v := .bool true) (by simp [results, Try.results7, go_sem]) rfl ⟨rfl, HBd⟩
  by_cases q4 : (dg (mulN y z).2).length ≤ 400; rotate_left
  · rw [tE_le q1] at C1 C2; rw [tE_le q2] at C3; rw [tE_le q3] at C6; rw [tE_gt q4] at C7
    have PS := parse_tS q1 (ok_sumN okX okY); have PT := parse_tS q2 (ok_sumN okY okZ); have C4 := fun w => add_ok _ _ _ z w (by_tS _) (by_ntx b3 m3) PS P3.out trivial; have C5 := fun w => add_ok _ _ x _ w (by_ntx b1 m1) (by_tS _) P1.out PT trivial; rw [sumN_assoc okX okY okZ] at C4
    have D1 := Lib.hid C1
    have D2 := Lib.hid C2
    have D3 := Lib.hid C3
    have D6 := Lib.hid C6
    have D7 := Lib.hid C7
    have D12 := Lib.hid C12
    have D13 := Lib.hid C13
    have D4 := Lib.hid C4; have D5 := Lib.hid C5; clear C4 C5 PS PT
    clear C1 C2 C3 C6 C7 C12 C13 P1 P2 P3
    generalize mks (tS (sumN x (sumN y z))) = XYZ at *; generalize tE (sumN x (sumN y z)) = v1 at *
    generalize mks (tS (sumN x y)) = XY at *
    generalize mks (tS (sumN y z)) = YZ at *
    generalize mks (tS (mulN x z)) = XZ at *
    generalize mks (tS (mulN y z)) = YZM at *
    generalize mks (tS (mulN x y)) = XYM2 at *
    generalize tE (mulN x y) = v4 at *
    generalize tE (mulN y z) = v5 at *
    generalize tE (mulN x z) = v6 at *
    generalize tE (sumN y z) = v7 at *
    generalize mks (ntx b1 m1) = A at *
    generalize mks (ntx b2 m2) = B at *
    generalize mks (ntx b3 m3) = C at *
    go_wp2_with (first | (go_at_call 32; ((with_reducible refine (D1.out _).mono ?_)); rintro e wn ⟨rfl, hbn⟩; replace HBd := HBd.trans (hbn.mono HBd.size); clear hbn) | (go_at_call 32; ((with_reducible refine (D2.out _).mono ?_)); rintro e wn ⟨rfl, hbn⟩; replace HBd := HBd.trans (hbn.mono HBd.size); clear hbn) | (go_at_call 32; ((with_reducible refine (D3.out _).mono ?_)); rintro e wn ⟨rfl, hbn⟩; replace HBd := HBd.trans (hbn.mono HBd.size); clear hbn) | (go_at_call 25; ((with_reducible refine (D6.out _).mono ?_)); rintro e wn ⟨rfl, hbn⟩; replace HBd := HBd.trans (hbn.mono HBd.size); clear hbn) | (go_at_call 25; ((with_reducible refine (D7.out _).mono ?_)); rintro e wn ⟨rfl, hbn⟩; replace HBd := HBd.trans (hbn.mono HBd.size); clear hbn) | (go_at_call 25; ((with_reducible refine (D12.out _).mono ?_)); rintro e wn ⟨rfl, hbn⟩; replace HBd := HBd.trans (hbn.mono HBd.size); clear hbn) | (go_at_call 25; ((with_reducible refine (D13.out _).mono ?_)); rintro e wn ⟨rfl, hbn⟩; replace HBd := HBd.trans (hbn.mono HBd.size); clear hbn) | (go_at_call 32; ((with_reducible refine (D4.out _).mono ?_)); rintro e wn ⟨rfl, hbn⟩; replace HBd := HBd.trans (hbn.mono HBd.size); clear hbn) | (go_at_call 32; ((with_reducible refine (D5.out _).mono ?_)); rintro e wn ⟨rfl, hbn⟩; replace HBd := HBd.trans (hbn.mono HBd.size); clear hbn) | (go_at_call 11; ((with_reducible refine (awake_any _).mono ?_)); rintro e wn ⟨rfl, hbn⟩; replace HBd := HBd.trans (hbn.mono HBd.size); clear hbn))
    exact bodyPost_ret (v := .bool true) (by simp [results, Try.results7, go_sem]) rfl ⟨rfl, HBd⟩
  skip
  · rw [tE_le q1] at C1 C2; rw [tE_le q2] at C3; rw [tE_le q3] at C6; rw [tE_le q4] at C7
    have PS := parse_tS q1 (ok_sumN okX okY); have PT := parse_tS q2 (ok_sumN okY okZ); have C4 := fun w => add_ok _ _ _ z w (by_tS _) (by_ntx b3 m3) PS P3.out trivial; have C5 := fun w => add_ok _ _ x _ w (by_ntx b1 m1) (by_tS _) P1.out PT trivial; rw [sumN_assoc okX okY okZ] at C4; have PP := parse_tS q3 (ok_mulN x z); have PQ := parse_tS q4 (ok_mulN y z); have C8 := fun w => mul_ok _ _ _ z w (by_tS _) (by_ntx b3 m3) PS P3.out; have C9 := fun w => add_ok _ _ _ _ w (by_tS _) (by_tS _) PP PQ trivial; have C10 := fun w => mul_ok _ _ _ y w (by_tS _) (by_ntx b2 m2) PP P2.out; have C11 := fun w => mul_ok _ _ x _ w (by_ntx b1 m1) (by_tS _) P1.out PQ; rw [mulN_dist] at C9; rw [mulN_assoc] at C10
    have D1 := Lib.hid C1
    have D2 := Lib.hid C2
    have D3 := Lib.hid C3
    have D6 := Lib.hid C6
    have D7 := Lib.hid C7
    have D12 := Lib.hid C12
    have D13 := Lib.hid C13
    have D4 := Lib.hid C4; have D5 := Lib.hid C5; have D8 := Lib.hid C8; have D9 := Lib.hid C9; have D10 := Lib.hid C10; have D11 := Lib.hid C11; clear C4 C5 C8 C9 C10 C11 PS PT PP PQ
    clear C1 C2 C3 C6 C7 C12 C13 P1 P2 P3
    generalize mks (tS (sumN x (sumN y z))) = XYZ at *; generalize tE (sumN x (sumN y z)) = v1 at *; generalize mks (tS (mulN (sumN x y) z)) = XYM at *; generalize tE (mulN (sumN x y) z) = v2 at *; generalize mks (tS (mulN x (mulN y z))) = MMM at *; generalize tE (mulN x (mulN y z)) = v3 at *
    generalize mks (tS (sumN x y)) = XY at *
    generalize mks (tS (sumN y z)) = YZ at *
    generalize mks (tS (mulN x z)) = XZ at *
    generalize mks (tS (mulN y z)) = YZM at *
    generalize mks (tS (mulN x y)) = XYM2 at *
    generalize tE (mulN x y) = v4 at *
    generalize tE (mulN y z) = v5 at *
    generalize tE (mulN x z) = v6 at *
    generalize tE (sumN y z) = v7 at *
    generalize mks (ntx b1 m1) = A at *
    generalize mks (ntx b2 m2) = B at *
    generalize mks (ntx b3 m3) = C at *
    go_wp2_with (first | (go_at_call 32; ((with_reducible refine (D1.out _).mono ?_)); rintro e wn ⟨rfl, hbn⟩; replace HBd := HBd.trans (hbn.mono HBd.size); clear hbn) | (go_at_call 32; ((with_reducible refine (D2.out _).mono ?_)); rintro e wn ⟨rfl, hbn⟩; replace HBd := HBd.trans (hbn.mono HBd.size); clear hbn) | (go_at_call 32; ((with_reducible refine (D3.out _).mono ?_)); rintro e wn ⟨rfl, hbn⟩; replace HBd := HBd.trans (hbn.mono HBd.size); clear hbn) | (go_at_call 25; ((with_reducible refine (D6.out _).mono ?_)); rintro e wn ⟨rfl, hbn⟩; replace HBd := HBd.trans (hbn.mono HBd.size); clear hbn) | (go_at_call 25; ((with_reducible refine (D7.out _).mono ?_)); rintro e wn ⟨rfl, hbn⟩; replace HBd := HBd.trans (hbn.mono HBd.size); clear hbn) | (go_at_call 25; ((with_reducible refine (D12.out _).mono ?_)); rintro e wn ⟨rfl, hbn⟩; replace HBd := HBd.trans (hbn.mono HBd.size); clear hbn) | (go_at_call 25; ((with_reducible refine (D13.out _).mono ?_)); rintro e wn ⟨rfl, hbn⟩; replace HBd := HBd.trans (hbn.mono HBd.size); clear hbn) | (go_at_call 32; ((with_reducible refine (D4.out _).mono ?_)); rintro e wn ⟨rfl, hbn⟩; replace HBd := HBd.trans (hbn.mono HBd.size); clear hbn) | (go_at_call 32; ((with_reducible refine (D5.out _).mono ?_)); rintro e wn ⟨rfl, hbn⟩; replace HBd := HBd.trans (hbn.mono HBd.size); clear hbn) | (go_at_call 25; ((with_reducible refine (D8.out _).mono ?_)); rintro e wn ⟨rfl, hbn⟩; replace HBd := HBd.trans (hbn.mono HBd.size); clear hbn) | (go_at_call 32; ((with_reducible refine (D9.out _).mono ?_)); rintro e wn ⟨rfl, hbn⟩; replace HBd := HBd.trans (hbn.mono HBd.size); clear hbn) | (go_at_call 25; ((with_reducible refine (D10.out _).mono ?_)); rintro e wn ⟨rfl, hbn⟩; replace HBd := HBd.trans (hbn.mono HBd.size); clear hbn) | (go_at_call 25; ((with_reducible refine (D11.out _).mono ?_)); rintro e wn ⟨rfl, hbn⟩; replace HBd := HBd.trans (hbn.mono HBd.size); clear hbn) | (go_at_call 11; ((with_reducible refine (awake_any _).mono ?_)); rintro e wn ⟨rfl, hbn⟩; replace HBd := HBd.trans (hbn.mono HBd.size); clear hbn))
    exact bodyPost_ret (v := .bool true) (by simp [results, Try.results7, go_sem]) rfl ⟨rfl, HBd⟩
end Go.Proofs.Ytgnddobonboloaa
