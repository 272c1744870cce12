/- The reference's Add. -/
import Derived.Test.YtgnddobonboloaaRText
import Derived.Test.YtgnddobonboloaaRPlus
import Derived.Test.YtgnddobonboloaaRMinus
namespace Go.Proofs.Ytgnddobonboloaa
open Go.RowKit
theorem ri_end {w w5 : World} {x : Bool × Nat} {b : Bool} {A : Option Addr} {n c R : Nat} (hb1 : Hid (b = x.1)) (hn : Hid (n = (dg x.2).length)) (hc : n ≤ c) (hr : Rd w5 A (B8 (dg x.2))) (hf : From (R + 1) A) (hb : Below w.heap.size w w5) (hR : w.heap.size ≤ R) :
    RI w x (.returned (.agg #[.bool b, .slice A n c])) ((w5.setCell ⟨R, 0, none⟩ (.bool b)).setCell ⟨R, 1, none⟩ (.slice A n c)) := by
  refine ⟨A, n, c, by rw [hb1.out], hn, hc, ?_, fun ad e => by have := hf ad e; omega, ?_⟩
  · refine Rd.setCell (Rd.setCell hr _ ?_) _ ?_
    · intro ad e; have := hf ad e; dsimp only; omega
    · intro ad e; have := hf ad e; dsimp only; omega
  · exact (hb.setCell hR _).setCell hR _

set_option maxHeartbeats 4000000 in
theorem radd_same (b b' : Bool) (A A' : Option Addr) (n n' c c' p q : Nat) (w : World) (hn : Hid (n = (dg p).length)) (hn' : Hid (n' = (dg q).length)) (hr : Rd w A (B8 (dg p))) (hr' : Rd w A' (B8 (dg q)))
    (hm : n ≤ 4294967296) (hm' : n' ≤ 4294967296) (hbb : b = b') :
    Calls Try.prog 38 #[.agg #[.bool b, .slice A n c], .agg #[.bool b', .slice A' n' c']] w (RI w (b && decide (0 < p + q), p + q)) := by
  have HSZ : Hid (∀ W, Rd W A (B8 (dg p)) → Rd W A' (B8 (dg q)) → Calls Try.prog 53 #[.slice A n c, .slice A' n' c'] W fun e w' => ∃ z : Int, e = .returned (.int .i64 z) ∧ (0 : Int) = 0 ∧ ∃ k, w' = W.drewN k) := fun W h h' => (rsize_any A A' n n' c c' p q W hn hn' h h' hm hm').mono (by
    rintro e w' ⟨rfl, k, rfl⟩; exact ⟨cmpN p q, rfl, by omega, k, rfl⟩)
  obtain ⟨HX, HY, HR, HB, HZ⟩ := three_box w 28 28 28 [.bool b, .slice A n c] [.bool b', .slice A' n' c'] [.bool false, .slice none 0 0]
  subst hbb
  obtain ⟨x, hx⟩ : ∃ x : Bool × Nat, x = (b && decide (0 < p + q), p + q) := ⟨_, rfl⟩
  rw [← hx]
  have HRES := Lib.hid hx
  clear hx
  go_enter Try.func38, Try.ntmps38
  go_upto_region 2 with (fail)
  have HXn : Hid (Arr (((w.alloc (.cells #[.bool b, .slice A n c] 28)).alloc (.cells #[.bool b, .slice A' n' c'] 28)).alloc (.cells #[.bool false, .slice none 0 0] 28)) w.heap.size 28 [.bool b, .slice A n c]) := HX
  have HYn : Hid (Arr (((w.alloc (.cells #[.bool b, .slice A n c] 28)).alloc (.cells #[.bool b, .slice A' n' c'] 28)).alloc (.cells #[.bool false, .slice none 0 0] 28)) (w.heap.size + 1) 28 [.bool b, .slice A' n' c']) := HY
  have HRn : Hid (Arr (((w.alloc (.cells #[.bool b, .slice A n c] 28)).alloc (.cells #[.bool b, .slice A' n' c'] 28)).alloc (.cells #[.bool false, .slice none 0 0] 28)) (w.heap.size + 1 + 1) 28 [.bool false, .slice none 0 0]) := HR
  have HBn : Below w.heap.size w (((w.alloc (.cells #[.bool b, .slice A n c] 28)).alloc (.cells #[.bool b, .slice A' n' c'] 28)).alloc (.cells #[.bool false, .slice none 0 0] 28)).drew := Below.drew (HB)
  have HZn : Hid ((((w.alloc (.cells #[.bool b, .slice A n c] 28)).alloc (.cells #[.bool b, .slice A' n' c'] 28)).alloc (.cells #[.bool false, .slice none 0 0] 28)).drew.heap.size = w.heap.size + 3) := HZ
  clear HX HY HR HB HZ
  generalize (((w.alloc (.cells #[.bool b, .slice A n c] 28)).alloc (.cells #[.bool b, .slice A' n' c'] 28)).alloc (.cells #[.bool false, .slice none 0 0] 28)) = W at *
  have hz3 : w.heap.size + 3 ≤ W.drew.heap.size := by have := HZn.out; omega
  have x0 : ∀ w', Below (w.heap.size + 2) W.drew w' → w'.cell? ⟨w.heap.size, 0, none⟩ = some (.bool b) := fun w' h => (Arr.below (w := W.drew) HXn.out h (by omega)).cell' (i := 0) rfl
  have x1 : ∀ w', Below (w.heap.size + 2) W.drew w' → w'.cell? ⟨w.heap.size, 1, none⟩ = some (.slice A n c) := fun w' h => (Arr.below (w := W.drew) HXn.out h (by omega)).cell' (i := 1) rfl
  have y0 : ∀ w', Below (w.heap.size + 2) W.drew w' → w'.cell? ⟨w.heap.size + 1, 0, none⟩ = some (.bool b) := fun w' h => (Arr.below (w := W.drew) HYn.out h (by omega)).cell' (i := 0) rfl
  have y1 : ∀ w', Below (w.heap.size + 2) W.drew w' → w'.cell? ⟨w.heap.size + 1, 1, none⟩ = some (.slice A' n' c') := fun w' h => (Arr.below (w := W.drew) HYn.out h (by omega)).cell' (i := 1) rfl
  have HRd : Hid (Arr W.drew (w.heap.size + 1 + 1) 28 [.bool false, .slice none 0 0]) := HRn
  have hS : Below (w.heap.size + 2) W.drew W.drew := Below.refl _ _
  go_region_held3 (fun w' => Below (w.heap.size + 2) W.drew w')
    (first | assumption | exact Below.setCell (Below.setCell (by assumption) (by dsimp only; omega) _) (by dsimp only; omega) _)
    (first | (go_at_call 60; go_loud (refine (rplus_any A A' n c n' c' (dg p) (dg q) _ hn hn' (hr.keep (HBn.trans (hS.mono (by omega)))) (hr'.keep (HBn.trans (hS.mono (by omega)))) (ten_dg p) (ten_dg q) hm hm').mono ?_; rintro e w5 ⟨zs, htz, hvz, hlz, A5, n5, c5, rfl, hn5, hc5, hr5, hf5, hb5⟩; (have HVZ : Hid (val zs = p + q) := (by show _ = _; rw [hvz, val_dg, val_dg]); clear hvz); have hS5 : Below (w.heap.size + 2) W.drew w5 := hb5.mono (by omega); have z5 := hb5.size)) | (go_at_call 46; go_loud (skip; refine (signed_any A5 n5 c5 zs b _ (by have := hn5.out; rw [length_B8] at this; exact this) hr5 htz hc5 (by have := hn5.out; rw [length_B8] at this; unfold maxLen; omega)).mono ?_; rintro e w6 ⟨k, rfl, hk, hkn, hb6⟩; have hS6 : Below (w.heap.size + 2) W.drew w6 := hS5.trans (hb6.mono (by omega)); have HR6 := ((HRd.out.keep hb5).keep hb6); have r0 := HR6.cell' (i := 0) rfl; have r1 := HR6.cell' (i := 1) rfl; have f0 := HR6.frozen 0; have f1 := HR6.frozen 1)))
  all_goals
    have HV : val zs = p + q := HVZ.out
    rw [HV] at hk
    have hrd := rd_trim hr5 htz
    rw [HV] at hrd
    have HVV := Lib.hid HV
    clear HV
    go_wp2
    refine bodyPost_ret (v := .agg #[.bool (b && decide (0 < val zs)), .slice A5 k c5]) (by simp [results, Try.results38, go_sem, r0, r1, HVV.out]) rfl ?_
    rw [HRES.out]
    have z6 := hb6.size
    exact ri_end (by show _ = _; rw [HVV.out]) hk (by omega) (hrd.keep hb6) (fun ad e => by have := hf5 ad e; omega) ((HBn.trans (hb5.mono HBn.size)).trans (hb6.mono (by omega))) (by omega)
set_option maxHeartbeats 4000000 in
theorem radd_gt (b b' : Bool) (A A' : Option Addr) (n n' c c' p q : Nat) (w : World) (hn : Hid (n = (dg p).length)) (hn' : Hid (n' = (dg q).length)) (hr : Rd w A (B8 (dg p))) (hr' : Rd w A' (B8 (dg q)))
    (hm : n ≤ 4294967296) (hm' : n' ≤ 4294967296) (hbb : b ≠ b') (hpq : q ≤ p) :
    Calls Try.prog 38 #[.agg #[.bool b, .slice A n c], .agg #[.bool b', .slice A' n' c']] w (RI w (b && decide (0 < p - q), p - q)) := by
  have HSZ : Hid (∀ W, Rd W A (B8 (dg p)) → Rd W A' (B8 (dg q)) → Calls Try.prog 53 #[.slice A n c, .slice A' n' c'] W fun e w' => ∃ z : Int, e = .returned (.int .i64 z) ∧ 0 ≤ z ∧ ∃ k, w' = W.drewN k) := fun W h h' => (rsize_any A A' n n' c c' p q W hn hn' h h' hm hm').mono (by
    rintro e w' ⟨rfl, k, rfl⟩; exact ⟨cmpN p q, rfl, by unfold cmpN; split <;> (try split) <;> omega, k, rfl⟩)
  obtain ⟨HX, HY, HR, HB, HZ⟩ := three_box w 28 28 28 [.bool b, .slice A n c] [.bool b', .slice A' n' c'] [.bool false, .slice none 0 0]
  have hbe : (b == b') = false := by cases b <;> cases b' <;> simp_all
  obtain ⟨x, hx⟩ : ∃ x : Bool × Nat, x = (b && decide (0 < p - q), p - q) := ⟨_, rfl⟩
  rw [← hx]
  have HRES := Lib.hid hx
  clear hx
  go_enter Try.func38, Try.ntmps38
  go_upto_region 4 with (go_at_call 53; go_loud (refine (HSZ.out _ (hr.keep HB) (hr'.keep HB)).mono ?_; rintro e w6 ⟨z, rfl, hz, k6, rfl⟩))
  have HXn : Hid (Arr ((((w.alloc (.cells #[.bool b, .slice A n c] 28)).alloc (.cells #[.bool b', .slice A' n' c'] 28)).alloc (.cells #[.bool false, .slice none 0 0] 28)).drewN k6) w.heap.size 28 [.bool b, .slice A n c]) := HX
  have HYn : Hid (Arr ((((w.alloc (.cells #[.bool b, .slice A n c] 28)).alloc (.cells #[.bool b', .slice A' n' c'] 28)).alloc (.cells #[.bool false, .slice none 0 0] 28)).drewN k6) (w.heap.size + 1) 28 [.bool b', .slice A' n' c']) := HY
  have HRn : Hid (Arr ((((w.alloc (.cells #[.bool b, .slice A n c] 28)).alloc (.cells #[.bool b', .slice A' n' c'] 28)).alloc (.cells #[.bool false, .slice none 0 0] 28)).drewN k6) (w.heap.size + 1 + 1) 28 [.bool false, .slice none 0 0]) := HR
  have HBn : Below w.heap.size w ((((w.alloc (.cells #[.bool b, .slice A n c] 28)).alloc (.cells #[.bool b', .slice A' n' c'] 28)).alloc (.cells #[.bool false, .slice none 0 0] 28)).drewN k6).drew := Below.drew (Below.drewN' HB k6)
  have HZn : Hid (((((w.alloc (.cells #[.bool b, .slice A n c] 28)).alloc (.cells #[.bool b', .slice A' n' c'] 28)).alloc (.cells #[.bool false, .slice none 0 0] 28)).drewN k6).drew.heap.size = w.heap.size + 3) := HZ
  clear HX HY HR HB HZ
  generalize ((((w.alloc (.cells #[.bool b, .slice A n c] 28)).alloc (.cells #[.bool b', .slice A' n' c'] 28)).alloc (.cells #[.bool false, .slice none 0 0] 28)).drewN k6) = W at *
  have hz3 : w.heap.size + 3 ≤ W.drew.heap.size := by have := HZn.out; omega
  have x0 : ∀ w', Below (w.heap.size + 2) W.drew w' → w'.cell? ⟨w.heap.size, 0, none⟩ = some (.bool b) := fun w' h => (Arr.below (w := W.drew) HXn.out h (by omega)).cell' (i := 0) rfl
  have x1 : ∀ w', Below (w.heap.size + 2) W.drew w' → w'.cell? ⟨w.heap.size, 1, none⟩ = some (.slice A n c) := fun w' h => (Arr.below (w := W.drew) HXn.out h (by omega)).cell' (i := 1) rfl
  have y0 : ∀ w', Below (w.heap.size + 2) W.drew w' → w'.cell? ⟨w.heap.size + 1, 0, none⟩ = some (.bool b') := fun w' h => (Arr.below (w := W.drew) HYn.out h (by omega)).cell' (i := 0) rfl
  have y1 : ∀ w', Below (w.heap.size + 2) W.drew w' → w'.cell? ⟨w.heap.size + 1, 1, none⟩ = some (.slice A' n' c') := fun w' h => (Arr.below (w := W.drew) HYn.out h (by omega)).cell' (i := 1) rfl
  have HRd : Hid (Arr W.drew (w.heap.size + 1 + 1) 28 [.bool false, .slice none 0 0]) := HRn
  have hS : Below (w.heap.size + 2) W.drew W.drew := Below.refl _ _
  go_region_held3 (fun w' => Below (w.heap.size + 2) W.drew w')
    (first | assumption | exact Below.setCell (Below.setCell (by assumption) (by dsimp only; omega) _) (by dsimp only; omega) _)
    (first | (go_at_call 59; go_loud (refine (rminus_any A A' n c n' c' p q _ hn hn' (hr.keep (HBn.trans (hS.mono (by omega)))) (hr'.keep (HBn.trans (hS.mono (by omega)))) hm hpq).mono ?_; rintro e w5 ⟨A5, n5, c5, rfl, hn5, hc5, hr5, hf5, hb5⟩; skip; have hS5 : Below (w.heap.size + 2) W.drew w5 := hb5.mono (by omega); have z5 := hb5.size)) | (go_at_call 46; go_loud ((have hlz : (dg (p - q)).length ≤ 4294967296 := by have := dg_len_mono (show p - q ≤ p by omega); have := hn.out; omega); refine (signed_any A5 n5 c5 (dg (p - q)) b _ (by have := hn5.out; rw [length_B8] at this; exact this) hr5 (ten_dg _) hc5 (by have := hn5.out; rw [length_B8] at this; unfold maxLen; omega)).mono ?_; rintro e w6 ⟨k, rfl, hk, hkn, hb6⟩; have hS6 : Below (w.heap.size + 2) W.drew w6 := hS5.trans (hb6.mono (by omega)); have HR6 := ((HRd.out.keep hb5).keep hb6); have r0 := HR6.cell' (i := 0) rfl; have r1 := HR6.cell' (i := 1) rfl; have f0 := HR6.frozen 0; have f1 := HR6.frozen 1)))
  all_goals
    have HV : val (dg (p - q)) = p - q := val_dg (p - q)
    rw [HV] at hk
    have hrd := rd_trim hr5 (ten_dg _)
    rw [HV] at hrd
    have HVV := Lib.hid HV
    clear HV
    go_wp2
    refine bodyPost_ret (v := .agg #[.bool (b && decide (0 < val (dg (p - q)))), .slice A5 k c5]) (by simp [results, Try.results38, go_sem, r0, r1, HVV.out]) rfl ?_
    rw [HRES.out]
    have z6 := hb6.size
    exact ri_end (by show _ = _; rw [HVV.out]) hk (by omega) (hrd.keep hb6) (fun ad e => by have := hf5 ad e; omega) ((HBn.trans (hb5.mono HBn.size)).trans (hb6.mono (by omega))) (by omega)
set_option maxHeartbeats 4000000 in
theorem radd_lt (b b' : Bool) (A A' : Option Addr) (n n' c c' p q : Nat) (w : World) (hn : Hid (n = (dg p).length)) (hn' : Hid (n' = (dg q).length)) (hr : Rd w A (B8 (dg p))) (hr' : Rd w A' (B8 (dg q)))
    (hm : n ≤ 4294967296) (hm' : n' ≤ 4294967296) (hbb : b ≠ b') (hpq : p < q) :
    Calls Try.prog 38 #[.agg #[.bool b, .slice A n c], .agg #[.bool b', .slice A' n' c']] w (RI w (b' && decide (0 < q - p), q - p)) := by
  have HSZ : Hid (∀ W, Rd W A (B8 (dg p)) → Rd W A' (B8 (dg q)) → Calls Try.prog 53 #[.slice A n c, .slice A' n' c'] W fun e w' => ∃ z : Int, e = .returned (.int .i64 z) ∧ z < 0 ∧ ∃ k, w' = W.drewN k) := fun W h h' => (rsize_any A A' n n' c c' p q W hn hn' h h' hm hm').mono (by
    rintro e w' ⟨rfl, k, rfl⟩; exact ⟨cmpN p q, rfl, by unfold cmpN; split <;> (try split) <;> omega, k, rfl⟩)
  obtain ⟨HX, HY, HR, HB, HZ⟩ := three_box w 28 28 28 [.bool b, .slice A n c] [.bool b', .slice A' n' c'] [.bool false, .slice none 0 0]
  have hbe : (b == b') = false := by cases b <;> cases b' <;> simp_all
  obtain ⟨x, hx⟩ : ∃ x : Bool × Nat, x = (b' && decide (0 < q - p), q - p) := ⟨_, rfl⟩
  rw [← hx]
  have HRES := Lib.hid hx
  clear hx
  go_enter Try.func38, Try.ntmps38
  go_upto_region 5 with (go_at_call 53; go_loud (refine (HSZ.out _ (hr.keep HB) (hr'.keep HB)).mono ?_; rintro e w6 ⟨z, rfl, hz, k6, rfl⟩))
  have HXn : Hid (Arr ((((w.alloc (.cells #[.bool b, .slice A n c] 28)).alloc (.cells #[.bool b', .slice A' n' c'] 28)).alloc (.cells #[.bool false, .slice none 0 0] 28)).drewN k6) w.heap.size 28 [.bool b, .slice A n c]) := HX
  have HYn : Hid (Arr ((((w.alloc (.cells #[.bool b, .slice A n c] 28)).alloc (.cells #[.bool b', .slice A' n' c'] 28)).alloc (.cells #[.bool false, .slice none 0 0] 28)).drewN k6) (w.heap.size + 1) 28 [.bool b', .slice A' n' c']) := HY
  have HRn : Hid (Arr ((((w.alloc (.cells #[.bool b, .slice A n c] 28)).alloc (.cells #[.bool b', .slice A' n' c'] 28)).alloc (.cells #[.bool false, .slice none 0 0] 28)).drewN k6) (w.heap.size + 1 + 1) 28 [.bool false, .slice none 0 0]) := HR
  have HBn : Below w.heap.size w ((((w.alloc (.cells #[.bool b, .slice A n c] 28)).alloc (.cells #[.bool b', .slice A' n' c'] 28)).alloc (.cells #[.bool false, .slice none 0 0] 28)).drewN k6).drew := Below.drew (Below.drewN' HB k6)
  have HZn : Hid (((((w.alloc (.cells #[.bool b, .slice A n c] 28)).alloc (.cells #[.bool b', .slice A' n' c'] 28)).alloc (.cells #[.bool false, .slice none 0 0] 28)).drewN k6).drew.heap.size = w.heap.size + 3) := HZ
  clear HX HY HR HB HZ
  generalize ((((w.alloc (.cells #[.bool b, .slice A n c] 28)).alloc (.cells #[.bool b', .slice A' n' c'] 28)).alloc (.cells #[.bool false, .slice none 0 0] 28)).drewN k6) = W at *
  have hz3 : w.heap.size + 3 ≤ W.drew.heap.size := by have := HZn.out; omega
  have x0 : ∀ w', Below (w.heap.size + 2) W.drew w' → w'.cell? ⟨w.heap.size, 0, none⟩ = some (.bool b) := fun w' h => (Arr.below (w := W.drew) HXn.out h (by omega)).cell' (i := 0) rfl
  have x1 : ∀ w', Below (w.heap.size + 2) W.drew w' → w'.cell? ⟨w.heap.size, 1, none⟩ = some (.slice A n c) := fun w' h => (Arr.below (w := W.drew) HXn.out h (by omega)).cell' (i := 1) rfl
  have y0 : ∀ w', Below (w.heap.size + 2) W.drew w' → w'.cell? ⟨w.heap.size + 1, 0, none⟩ = some (.bool b') := fun w' h => (Arr.below (w := W.drew) HYn.out h (by omega)).cell' (i := 0) rfl
  have y1 : ∀ w', Below (w.heap.size + 2) W.drew w' → w'.cell? ⟨w.heap.size + 1, 1, none⟩ = some (.slice A' n' c') := fun w' h => (Arr.below (w := W.drew) HYn.out h (by omega)).cell' (i := 1) rfl
  have HRd : Hid (Arr W.drew (w.heap.size + 1 + 1) 28 [.bool false, .slice none 0 0]) := HRn
  have hS : Below (w.heap.size + 2) W.drew W.drew := Below.refl _ _
  go_region_held3 (fun w' => Below (w.heap.size + 2) W.drew w')
    (first | assumption | exact Below.setCell (Below.setCell (by assumption) (by dsimp only; omega) _) (by dsimp only; omega) _)
    (first | (go_at_call 59; go_loud (refine (rminus_any A' A n' c' n c q p _ hn' hn (hr'.keep (HBn.trans (hS.mono (by omega)))) (hr.keep (HBn.trans (hS.mono (by omega)))) hm' (by omega)).mono ?_; rintro e w5 ⟨A5, n5, c5, rfl, hn5, hc5, hr5, hf5, hb5⟩; skip; have hS5 : Below (w.heap.size + 2) W.drew w5 := hb5.mono (by omega); have z5 := hb5.size)) | (go_at_call 46; go_loud ((have hlz : (dg (q - p)).length ≤ 4294967296 := by have := dg_len_mono (show q - p ≤ q by omega); have := hn'.out; omega); refine (signed_any A5 n5 c5 (dg (q - p)) b' _ (by have := hn5.out; rw [length_B8] at this; exact this) hr5 (ten_dg _) hc5 (by have := hn5.out; rw [length_B8] at this; unfold maxLen; omega)).mono ?_; rintro e w6 ⟨k, rfl, hk, hkn, hb6⟩; have hS6 : Below (w.heap.size + 2) W.drew w6 := hS5.trans (hb6.mono (by omega)); have HR6 := ((HRd.out.keep hb5).keep hb6); have r0 := HR6.cell' (i := 0) rfl; have r1 := HR6.cell' (i := 1) rfl; have f0 := HR6.frozen 0; have f1 := HR6.frozen 1)))
  all_goals
    have HV : val (dg (q - p)) = q - p := val_dg (q - p)
    rw [HV] at hk
    have hrd := rd_trim hr5 (ten_dg _)
    rw [HV] at hrd
    have HVV := Lib.hid HV
    clear HV
    go_wp2
    refine bodyPost_ret (v := .agg #[.bool (b' && decide (0 < val (dg (q - p)))), .slice A5 k c5]) (by simp [results, Try.results38, go_sem, r0, r1, HVV.out]) rfl ?_
    rw [HRES.out]
    have z6 := hb6.size
    exact ri_end (by show _ = _; rw [HVV.out]) hk (by omega) (hrd.keep hb6) (fun ad e => by have := hf5 ad e; omega) ((HBn.trans (hb5.mono HBn.size)).trans (hb6.mono (by omega))) (by omega)
theorem radd_any (x y : Bool × Nat) (A A' : Option Addr) (n n' c c' : Nat) (w : World) (hn : Hid (n = (dg x.2).length)) (hn' : Hid (n' = (dg y.2).length)) (hr : Rd w A (B8 (dg x.2))) (hr' : Rd w A' (B8 (dg y.2)))
    (hm : n ≤ 4294967296) (hm' : n' ≤ 4294967296) (hx : x.1 = true → 0 < x.2) (hy : y.1 = true → 0 < y.2) :
    Calls Try.prog 38 #[.agg #[.bool x.1, .slice A n c], .agg #[.bool y.1, .slice A' n' c']] w (RI w (sumN x y)) := by
  obtain ⟨b, p⟩ := x
  obtain ⟨b', q⟩ := y
  dsimp only at *
  unfold sumN
  dsimp only
  by_cases h1 : b = b'
  · rw [if_pos h1]
    have e : (b && decide (0 < p + q), p + q) = (b, p + q) := by
      cases b
      · rfl
      · have := hx rfl
        rw [decide_eq_true (show 0 < p + q by omega)]; rfl
    rw [← e]
    exact radd_same b b' A A' n n' c c' p q w hn hn' hr hr' hm hm' h1
  · rw [if_neg h1]
    by_cases h2 : p < q
    · rw [if_neg (by omega), if_pos h2]
      have e : (b' && decide (0 < q - p), q - p) = (b', q - p) := by rw [decide_eq_true (show 0 < q - p by omega), Bool.and_true]
      rw [← e]
      exact radd_lt b b' A A' n n' c c' p q w hn hn' hr hr' hm hm' h1 h2
    · have h3 := radd_gt b b' A A' n n' c c' p q w hn hn' hr hr' hm hm' h1 (by omega)
      by_cases h4 : p = q
      · rw [if_pos h4]
        have e : (b && decide (0 < p - q), p - q) = (false, 0) := by rw [h4, Nat.sub_self]; simp
        rw [← e]; exact h3
      · rw [if_neg h4, if_neg h2]
        have e : (b && decide (0 < p - q), p - q) = (b, p - q) := by rw [decide_eq_true (show 0 < p - q by omega), Bool.and_true]
        rw [← e]; exact h3
end Go.Proofs.Ytgnddobonboloaa
