/- IntegerBytes: the walk. -/
import Derived.Test.YtgnddobonboloaaDtx
import Derived.Test.YtgnddobonboloaaLaw2
namespace Go.Proofs.Ytgnddobonboloaa
open Go.RowKit

set_option maxRecDepth 100000 in
set_option maxHeartbeats 8000000 in
theorem bytes_long (b1 : Bool) (l1 lb : List Nat) (n1 : Nat) (bits : Int) (w : World) (hs : 300 < lb.length) :
    Calls Try.prog 4 #[.agg #[.bool b1, .string (mks l1), .int .u16 (n1 : Int)], .string (mks lb), .int .i64 bits] w fun e w' => e = .returned (.bool true) ∧ Below w.heap.size w w' := by
  have HBd : Below w.heap.size w (w.alloc (.cells #[.bool b1, .string (mks l1), .int .u16 (n1 : Int)] 36)) := (Below.refl _ _).alloc (Nat.le_refl _) _
  have hs' : 300 < (lb.length : Int) := by omega
  go_enter Try.func4, Try.ntmps4
  go_wp2_with (go_at_call 11; ((with_reducible refine (awake_any _).mono ?_)); rintro e wn ⟨rfl, hbn⟩; replace HBd := HBd.trans (hbn.mono HBd.size); clear hbn)
  exact bodyPost_ret (v := .bool true) (by simp [results, Try.results4, go_sem]) rfl ⟨rfl, HBd⟩

theorem ofmag_back (b : Bool) (m : Nat) (w : World) (hm : (dg m).length ≤ 400) : Calls Try.prog 20 #[.string (mks (dgb 256 m).reverse), .bool b] w fun e w' =>
    e = .returned (.tuple #[.string (mks (ntx b m)), .int .i64 0]) ∧ Below w.heap.size w w' := by
  have h := ofmag_any (dgb 256 m).reverse b w (fun c hc => dgb_lt (by omega) c (List.mem_reverse.1 hc)) (by have := dgb256_len hm; simp; omega)
  obtain ⟨h1, h2⟩ := mag_back hm
  rw [if_pos h2, if_pos h2, h1] at h
  have e1 : tS (sigN b m) = ntx b m := tS_can b m hm
  have e2 : tE (sigN b m) = 0 := tE_le hm
  rw [e1, e2] at h
  exact h
theorem ofmag_short (b : Bool) (l : List Nat) (w : World) (hl : By l) (hs : l.length ≤ 300) : Calls Try.prog 20 #[.string (mks l), .bool b] w fun e w' =>
    e = .returned (.tuple #[.string (mks (tS (sigN b (hor 256 id l)))), .int .i64 (tE (sigN b (hor 256 id l)))]) ∧ Below w.heap.size w w' := by
  have h := ofmag_any l b w hl (by omega)
  have h2 : (lead 0 l).length ≤ 400 := Nat.le_trans (lead_le 0 l) (by omega)
  rw [if_pos h2, if_pos h2, hor_lead rfl] at h
  exact h

set_option maxRecDepth 100000 in
set_option maxHeartbeats 16000000 in
theorem bytes_main (b1 : Bool) (l1 lb : List Nat) (n1 : Nat) (bits : Int) (w : World) (h1 : By l1) (hlb : By lb) (k1 : n1 < 65536) (hs : lb.length ≤ 300) (hb9 : bits ≤ 9223372036854775807) :
    Calls Try.prog 4 #[.agg #[.bool b1, .string (mks l1), .int .u16 (n1 : Int)], .string (mks lb), .int .i64 bits] w fun e w' => e = .returned (.bool true) ∧ Below w.heap.size w w' := by
  obtain ⟨HX, HBd, HZ⟩ := boxes1 w 36 [.bool b1, .string (mks l1), .int .u16 (n1 : Int)]
  have hs' : ¬ 300 < (lb.length : Int) := by omega
  have C5 := fun w => ofmag_short b1 lb w hlb hs
  have E8 := fun w => rofbytes_any lb b1 w hlb (by omega)
  have E9 := fun A n c w hn hr => agree_any (sigN b1 (hor 256 id lb)) A n c w hn hr
  generalize hZZ : sigN b1 (hor 256 id lb) = Z at *
  clear hZZ
  have D8 := Lib.hid E8
  have D9 := Lib.hid E9
  clear E8 E9
  go_enter Try.func4, Try.ntmps4
  go_upto_region 4 with (go_at_call 17; (with_reducible refine (lawtext_any b1 l1 n1 _ h1 k1).mono ?_); rintro e wn ⟨m1, ⟨⟩, hm1, hbn⟩)
  have HX1 := HX.out.keep hbn
  have HB1 := HBd.trans (hbn.mono HBd.size)
  have P1 := parseC_ntx b1 m1 hm1
  have C2 := fun w => of_ntx b1 m1 w hm1
  have C4 := fun w => ofmag_back b1 m1 w hm1
  have okX := can_dgX b1 m1
  have hx2 : m1 = (b1 && decide (0 < m1), m1).2 := rfl
  rw [show (dgb 256 m1) = dgb 256 (b1 && decide (0 < m1), m1).2 from rfl] at C4
  have hlx : (dg (b1 && decide (0 < m1), m1).2).length ≤ 400 := hm1
  clear hx2
  generalize (b1 && decide (0 < m1), m1) = x at *
  have C3 := fun w => mag_ok (ntx b1 m1) x.1 x.2 w (by_ntx b1 m1) P1
  have C6 := fun w => fits_any (ntx b1 m1) bits w (by_ntx b1 m1)
  rw [P1] at C6
  have D2 := Lib.hid C2
  clear C2 P1 HBd hbn HX HZ
  have HZ1 : w.heap.size + 1 ≤ wn.heap.size := HX1.lt
  go_upto_region 5 with (go_at_call 18; ((with_reducible refine (D2.out _).mono ?_)); rintro e w5 ⟨A5, n5, c5, rfl, hn5, hc5, hr5, hf5, hb5⟩)
  obtain ⟨HY, hb6, hz6⟩ := boxes1 w5 28 [.bool x.1, .slice A5 n5 c5]
  have HX2 := Lib.hid ((HX1.keep hb5).keep hb6)
  have HBd := (HB1.trans (hb5.mono HB1.size)).trans (hb6.mono (Nat.le_trans HB1.size hb5.size))
  have hr6 := hr5.keep hb6
  have hn54 : n5 ≤ 400 := by have := hn5.out; omega
  have hz5 := hb5.size
  generalize (w5.alloc (.cells #[.bool x.1, .slice A5 n5 c5] 28)) = W2 at *
  obtain ⟨zz, hzz, hzz2, hzz3, hzz4⟩ : ∃ zz, zz ≤ W2.heap.size ∧ Hid (W2.heap.size = zz) ∧ w5.heap.size < zz ∧ w.heap.size < zz := ⟨W2.heap.size, Nat.le_refl _, rfl, by omega, by omega⟩
  have RXH : Hid (∀ w', Below zz W2 w' → Rd w' A5 (B8 (dg x.2))) := fun w' h => hr6.keep (by rw [hzz2.out]; exact h)
  have rx0 : ∀ w', Below zz W2 w' → w'.cell? ⟨w5.heap.size, 0, none⟩ = some (.bool x.1) := fun w' h => (Arr.below (w := W2) HY.out h (by omega)).cell' (i := 0) rfl; have rxf0 : ∀ w', Below zz W2 w' → w'.frozen? ⟨w5.heap.size, 0, none⟩ = false := fun w' h => (Arr.below (w := W2) HY.out h (by omega)).frozen 0; have rx1 : ∀ w', Below zz W2 w' → w'.cell? ⟨w5.heap.size, 1, none⟩ = some (.slice A5 n5 c5) := fun w' h => (Arr.below (w := W2) HY.out h (by omega)).cell' (i := 1) rfl; have rxf1 : ∀ w', Below zz W2 w' → w'.frozen? ⟨w5.heap.size, 1, none⟩ = false := fun w' h => (Arr.below (w := W2) HY.out h (by omega)).frozen 1
  have rn0 : ∀ w', Below zz W2 w' → w'.cell? ⟨w.heap.size, 0, none⟩ = some (.bool b1) := fun w' h => (Arr.below (w := W2) HX2.out h (by omega)).cell' (i := 0) rfl; have rnf0 : ∀ w', Below zz W2 w' → w'.frozen? ⟨w.heap.size, 0, none⟩ = false := fun w' h => (Arr.below (w := W2) HX2.out h (by omega)).frozen 0; have rn1 : ∀ w', Below zz W2 w' → w'.cell? ⟨w.heap.size, 1, none⟩ = some (.string (mks l1)) := fun w' h => (Arr.below (w := W2) HX2.out h (by omega)).cell' (i := 1) rfl; have rnf1 : ∀ w', Below zz W2 w' → w'.frozen? ⟨w.heap.size, 1, none⟩ = false := fun w' h => (Arr.below (w := W2) HX2.out h (by omega)).frozen 1; have rn2 : ∀ w', Below zz W2 w' → w'.cell? ⟨w.heap.size, 2, none⟩ = some (.int .u16 (n1 : Int)) := fun w' h => (Arr.below (w := W2) HX2.out h (by omega)).cell' (i := 2) rfl; have rnf2 : ∀ w', Below zz W2 w' → w'.frozen? ⟨w.heap.size, 2, none⟩ = false := fun w' h => (Arr.below (w := W2) HX2.out h (by omega)).frozen 2
  have HS : Below zz W2 W2 := Below.refl _ _
  have E6 := fun w h => rfits_any x A5 n5 c5 bits w hn5 h hn54 hb9 okX
  have E7 := fun w h => rbytes_any x.1 A5 n5 c5 x.2 w hn5 h hn54
  generalize fitsP (some x) bits = FB at *
  generalize mks (dgb 256 x.2).reverse = M at *
  generalize mks (ntx b1 m1) = A at *
  generalize mks (tS Z) = SZ at *
  generalize tE Z = TZ at *
  have D3 := Lib.hid C3
  have D4 := Lib.hid C4
  have D5 := Lib.hid C5
  have D6 := Lib.hid C6
  have F6 := Lib.hid E6
  have F7 := Lib.hid E7
  clear C3 C4 C5 C6 E6 E7 D2 hr5 hr6 hf5 hb5 hb6 HX1 HB1
  have HB2 := HBd
  have HZB : w.heap.size ≤ zz := by omega
  go_upto_region 8 with (first | (go_at_call 19; ((with_reducible refine (D3.out _).mono ?_)); rintro e wn ⟨rfl, hbn⟩; replace HBd := HBd.trans (hbn.mono HBd.size); replace HS := HS.trans (hbn.mono (Nat.le_trans hzz HS.size)); clear hbn) | (go_at_call 20; ((with_reducible refine (D4.out _).mono ?_)); rintro e wn ⟨rfl, hbn⟩; replace HBd := HBd.trans (hbn.mono HBd.size); replace HS := HS.trans (hbn.mono (Nat.le_trans hzz HS.size)); clear hbn) | (go_at_call 20; ((with_reducible refine (D5.out _).mono ?_)); rintro e wn ⟨rfl, hbn⟩; replace HBd := HBd.trans (hbn.mono HBd.size); replace HS := HS.trans (hbn.mono (Nat.le_trans hzz HS.size)); clear hbn))
  have HSd : Below zz W2 wn.drew := HS.drew
  have hz1 : zz ≤ wn.drew.heap.size := Nat.le_trans hzz HS.size
  have hz2 : zz ≤ wn.heap.size := hz1
  go_region_held3 (fun w' => Below zz W2 w') (assumption)
    (first | (go_at_call 21; ((with_reducible refine (D6.out _).mono ?_)); (all_goals try (fail)); rintro e w11 ⟨rfl, hb11⟩; have z11 := hb11.size; (try simp at z11); have hS11_0 : Below zz W2 w11 := Below.trans (by first | assumption | exact Below.alloc (by assumption) (by first | omega | (simp; omega)) _ | exact Below.allocDrew (by assumption) (by first | omega | (simp; omega)) _) (hb11.mono (by first | omega | (simp; omega)))) | (go_at_call 22; ((with_reducible refine (F6.out _ (RXH.out _ (by assumption))).mono ?_)); (all_goals try (fail)); rintro e w12 ⟨rfl, hb12⟩; have z12 := hb12.size; (try simp at z12); have hS12_0 : Below zz W2 w12 := Below.trans (by first | assumption | exact Below.alloc (by assumption) (by first | omega | (simp; omega)) _ | exact Below.allocDrew (by assumption) (by first | omega | (simp; omega)) _) (hb12.mono (by first | omega | (simp; omega)))) | (go_at_call 23; ((with_reducible refine (F7.out _ (RXH.out _ (by assumption))).mono ?_)); (all_goals try (fail)); rintro e w13 ⟨rfl, hb13⟩; have z13 := hb13.size; (try simp at z13); have hS13_0 : Below zz W2 w13 := Below.trans (by first | assumption | exact Below.alloc (by assumption) (by first | omega | (simp; omega)) _ | exact Below.allocDrew (by assumption) (by first | omega | (simp; omega)) _) (hb13.mono (by first | omega | (simp; omega)))) | (go_at_call 24; ((with_reducible refine (D8.out _).mono ?_)); (all_goals try (fail)); rintro e w16 ⟨A16, n16, c16, rfl, hn16, hc16, hr16, hf16, hb16⟩; have z16 := hb16.size; (try simp at z16); have hS16_0 : Below zz W2 w16 := Below.trans (by first | assumption | exact Below.alloc (by assumption) (by first | omega | (simp; omega)) _ | exact Below.allocDrew (by assumption) (by first | omega | (simp; omega)) _) (hb16.mono (by first | omega | (simp; omega)))) | (go_at_call 14; ((with_reducible refine (D9.out A16 n16 c16 _ hn16 hr16).mono ?_)); (all_goals try (fail)); rintro e w17 ⟨rfl, hb17⟩; have z17 := hb17.size; (try simp at z17); have hS17_0 : Below zz W2 w17 := Below.trans (by first | assumption | exact Below.alloc (by assumption) (by first | omega | (simp; omega)) _ | exact Below.allocDrew (by assumption) (by first | omega | (simp; omega)) _) (hb17.mono (by first | omega | (simp; omega)))) | (go_at_call 11; ((with_reducible refine (awake_any _).mono ?_)); (all_goals try (fail)); rintro e w21 ⟨rfl, hb21⟩; have z21 := hb21.size; (try simp at z21); have hS21_0 : Below zz W2 w21 := Below.trans (by first | assumption | exact Below.alloc (by assumption) (by first | omega | (simp; omega)) _ | exact Below.allocDrew (by assumption) (by first | omega | (simp; omega)) _) (hb21.mono (by first | omega | (simp; omega)))))
  all_goals
    go_wp2
    exact bodyPost_ret (v := .bool true) (by simp [results, Try.results4, go_sem]) rfl ⟨rfl, HB2.trans (Below.mono (by assumption) HZB)⟩
theorem bytes_any (b1 : Bool) (l1 lb : List Nat) (n1 : Nat) (bits : Int) (w : World) (h1 : By l1) (hlb : By lb) (k1 : n1 < 65536) (hb9 : bits ≤ 9223372036854775807) :
    Calls Try.prog 4 #[.agg #[.bool b1, .string (mks l1), .int .u16 (n1 : Int)], .string (mks lb), .int .i64 bits] w fun e w' => e = .returned (.bool true) ∧ Below w.heap.size w w' := by
  by_cases hs : 300 < lb.length
  · exact bytes_long b1 l1 lb n1 bits w hs
  · exact bytes_main b1 l1 lb n1 bits w h1 hlb k1 (by omega) hb9
end Go.Proofs.Ytgnddobonboloaa
