/- The reference's Bytes, OfBytes. -/
import Derived.Test.YtgnddobonboloaaRAdd
import Derived.Test.YtgnddobonboloaaMag
import Derived.Test.YtgnddobonboloaaOfMag
namespace Go.Proofs.Ytgnddobonboloaa
open Go.RowKit
def lenV (v : Value) : Nat := match v with | .slice _ k _ => k | _ => 0

theorem rshort_d (A : Option Addr) (n c m : Nat) (b : Nat) (w : World) (hn : Hid (n = (dg m).length)) (hr : Rd w A (B8 (dg m))) (hm : n ≤ 4294967296) (h1 : 2 ≤ b) (h2 : b ≤ 256) :
    Calls Try.prog 54 #[.slice A n c, .int .i64 (b : Int)] w fun e w' => ∃ A' n' c' d, e = .returned (.tuple #[.slice A' n' c', .int .i64 ((d : Nat) : Int)]) ∧ Hid (d = m % b) ∧ d < b ∧ Hid (n' = (dg (m / b)).length) ∧ n' ≤ c' ∧
      Rd w' A' (B8 (dg (m / b))) ∧ From w.heap.size A' ∧ Below w.heap.size w w' := by
  refine (rshort_any A n c m b w hn hr hm (by omega) (by omega)).mono ?_
  rintro e w' ⟨A', n', c', he, h3, h4, h5, h6, h7⟩
  rw [Int.toNat_natCast] at he h3 h5
  exact ⟨A', n', c', m % b, he, rfl, Nat.mod_lt _ (by omega), h3, h4, h5, h6, h7⟩

set_option maxHeartbeats 4000000 in
theorem rbytes_any (b : Bool) (A : Option Addr) (n c m : Nat) (w : World) (hn : Hid (n = (dg m).length)) (hr : Rd w A (B8 (dg m))) (hm : n ≤ 400) :
    Calls Try.prog 23 #[.agg #[.bool b, .slice A n c]] w fun e w' => e = .returned (.string (mks (dgb 256 m).reverse)) ∧ Below w.heap.size w w' := by
  have HX : Hid (Arr (w.alloc (.cells #[.bool b, .slice A n c] 28)) w.heap.size 28 [.bool b, .slice A n c]) := Arr.new w _ _
  have hBW : Below w.heap.size w (w.alloc (.cells #[.bool b, .slice A n c] 28)) := (Below.refl _ _).alloc (Nat.le_refl _) _
  have hrW := hr.keep hBW
  have hlen := dgb_len (b := 256) (by omega) (dg_len2 (m := m) (k := 200) (by have := hn.out; omega))
  go_enter Try.func23, Try.ntmps23
  go_upto_region 1 with (fail)
  generalize (w.alloc (.cells #[.bool b, .slice A n c] 28)) = W at *
  have x1 := HX.out.cell' (i := 1) rfl
  clear hr
  go_wp2
  go_loopw [3, 4] (fun ov dv wr => ∃ (m' : Nat) (os : List Nat) (A1 : Option Addr) (n1 c1 : Nat) (Ao : Option Addr) (no co : Nat), ov = .slice Ao no co ∧ dv = .slice A1 n1 c1 ∧ Hid (no = os.length) ∧ (Ao = none → co = 0) ∧ Rd wr Ao (B8 os) ∧
      Hid ((dgb 256 m').reverse ++ os = (dgb 256 m).reverse) ∧ Hid (n1 = (dg m').length) ∧ n1 ≤ 400 ∧ Rd wr A1 (B8 (dg m')) ∧ Below w.heap.size w wr) (fun _ dv _ => lenV dv)
  case atStart => exact ⟨m, [], A, n, c, none, 0, 0, rfl, rfl, rfl, fun _ => rfl, Rd.nil, by show _ = _; simp, hn, hm, hrW, hBW⟩
  case round =>
    clear hrW hBW x1
    obtain ⟨m', os, A1, n1, c1, Ao, no, co, rfl, rfl, hno, hco, hro, heq, hn1, hn1b, hr1, hb⟩ := hrel
    have hob : os.length ≤ 1400 := by
      have h1 := congrArg List.length heq.out
      simp at h1
      omega
    by_cases h0 : m' = 0
    · have HE : Hid (os = (dgb 256 m).reverse) := by
        have h1 := heq.out
        rw [h0, dgb_zero] at h1
        show _ = _
        simpa using h1
      have hn0 : n1 = 0 := by rw [hn1.out, h0, dg_zero]; rfl
      subst hn0
      have hcv := run_str (P := Try.prog) wr 26 9 5 Try.underlying26 Try.underlying5 Try.underlying9 Ao no co _ hro hno.out
      clear h0
      go_wp2
      go_ret
      rw [← HE.out]
      exact ⟨rfl, hb⟩
    · have hn0 : 0 < n1 := dg_pos_len hn1 h0
      have HSH := Lib.hid (rshort_d A1 n1 c1 m' 256 wr hn1 hr1 (by omega) (by omega) (by omega))
      have HM0 := Lib.hid h0
      have hbs := hb.size
      clear h0
      go_wp2_with (first | (go_at_call 54; go_loud (refine HSH.out.mono ?_; rintro e w5 ⟨A5, n5, c5, d, rfl, hd, hd5, hn5, hc5, hr5, hf5, hb5⟩)) | (at_builtin; go_loud (refine wpList_apl rfl (.tmp 19) (.tmp 20) 26 rfl w.heap.size 5 _ _ Try.underlying26 Try.info5 rfl _ 1 [.int .u8 (d : Int)] rfl (own_one w5 5 (.int .u8 (d : Int)) w.heap.size (by have := hb5.size; omega)) Ao no co (B8 os) rfl ((hro.keep hb5).alloc _) (by rw [length_B8]; exact hno.out.symm) hco (B8_one _) (by have := hno.out; unfold maxLen; omega) (by have := hno.out; omega) (by have := hb5.size; simp; omega) ?_; intro v' w7 hown7 hgr7)))
      have hz5 := hb5.size
      have hbS : Below w5.heap.size w5 w7 := ((Below.refl _ _).alloc (Nat.le_refl _) _).grown hgr7 (by simp) (fun k h => by have h' : w5.heap.size = k := Option.some.inj h; omega)
      obtain ⟨Av, cv, rfl, hlv, hcv, _, hrv, hfv⟩ := own_rd hown7
      have hlt := div_dg_lt HM0.out (b := 256) (by omega)
      have h9 := hn5.out
      have h10 := hn1.out
      refine ⟨⟨m' / 256, d :: os, A5, n5, c5, Av, _, cv, rfl, rfl, ?_, ?_, hrv, ?_, hn5, by omega, hr5.keep hbS, (hb.trans (hb5.mono hbs)).trans (hbS.mono (by omega))⟩, ?_⟩
      · show _ = _; have := hno.out; simp; omega
      · rintro rfl
        obtain ⟨_, h, _⟩ := hrv 0 _ rfl
        cases h
      · show _ = _
        rw [← heq.out, dgb_pos HM0.out (by omega), hd.out]
        simp
      · show n5 < n1; omega

set_option maxHeartbeats 4000000 in
theorem rofbytes_any (l : List Nat) (neg : Bool) (w : World) (hl : By l) (hm : l.length ≤ 100000) : Calls Try.prog 24 #[.string (mks l), .bool neg] w (RI w (sigN neg (hor 256 id l))) := by
  have HR : Hid (Arr (w.alloc (.cells #[.bool false, .slice none 0 0] 28)) w.heap.size 28 [.bool false, .slice none 0 0]) := Arr.new w _ _
  have hBW : Below w.heap.size w (w.alloc (.cells #[.bool false, .slice none 0 0] 28)) := (Below.refl _ _).alloc (Nat.le_refl _) _
  have hsW : w.heap.size + 1 ≤ (w.alloc (.cells #[.bool false, .slice none 0 0] 28)).heap.size := by simp
  go_enter Try.func24, Try.ntmps24
  go_upto_region 1 with (fail)
  generalize (w.alloc (.cells #[.bool false, .slice none 0 0] 28)) = W at *
  go_wp2
  go_loopw [5, 6] (fun dv iv wr => ∃ (k : Nat) (A1 : Option Addr) (n1 c1 : Nat), k ≤ l.length ∧ iv = .int .i64 k ∧ dv = .slice A1 n1 c1 ∧ Hid (n1 = (dg (hor 256 id (l.take k))).length) ∧ n1 ≤ c1 ∧ Rd wr A1 (B8 (dg (hor 256 id (l.take k)))) ∧ From (w.heap.size + 1) A1 ∧ Below (w.heap.size + 1) W wr) (fun _ iv _ => l.length - (intOf iv).toNat)
  case atStart => exact ⟨0, none, 0, 0, Nat.zero_le _, rfl, rfl, by show _ = _; rw [show hor 256 id (l.take 0) = 0 from rfl, dg_zero]; rfl, Nat.le_refl _, by rw [show hor 256 id (l.take 0) = 0 from rfl, dg_zero]; exact Rd.nil, fun _ h => (by cases h), Below.refl _ _⟩
  case round =>
    obtain ⟨k, A1, n1, c1, hk, rfl, rfl, hn1, hc1, hr1, hf1, hb⟩ := hrel
    have hbs := hb.size
    have hnl : n1 ≤ 300000 := by
      have h1 := hor_dg_len (b := 256) (f := id) (l := l.take k) (fun c hc => hl c (List.mem_of_mem_take hc)) (by omega)
      have h2 := hn1.out
      have h3 : (l.take k).length ≤ l.length := by simp; omega
      omega
    by_cases hlt : k < l.length
    · obtain ⟨c, hc⟩ : ∃ c, l[k]? = some c := ⟨_, List.getElem?_eq_getElem hlt⟩
      have hcb := hl.get hc
      have hgk := get_mks hc hcb (by rw [size_mks]; exact hlt)
      have HST := Lib.hid (hor_step (b := 256) (f := id) hc)
      have hsc := scale_any A1 n1 c1 (hor 256 id (l.take k)) 256 (c : Int) wr hn1 hr1 (by omega) (by omega) (by omega) (by omega) (by omega)
      rw [show hor 256 id (l.take k) * (256 : Int).toNat + (c : Int).toNat = hor 256 id (l.take (k + 1)) from by rw [HST.out]; simp] at hsc
      have HSC := Lib.hid hsc
      clear hsc hc
      go_wp2_with (go_at_call 45; go_loud (refine HSC.out.mono ?_; rintro e w5 ⟨A5, n5, c5, rfl, hn5, hc5, hr5, hf5, hb5⟩))
      go_roundw
      case rel => exact ⟨k + 1, A5, n5, c5, by omega, by go_num, rfl, by have := hn5.out; rw [length_B8] at this; exact this, hc5, hr5, fun ad e => by have := hf5 ad e; omega, hb.trans (hb5.mono (by omega))⟩
      case measure => simp [intOf]; omega
    · have hlk : l.take k = l := List.take_of_length_le (by omega)
      rw [hlk] at hn1 hr1
      have HSG := Lib.hid (fun w h => signed_any A1 n1 c1 (dg (hor 256 id l)) neg w hn1 h (ten_dg _) hc1 (by unfold maxLen; omega))
      have HRw := HR.out.below hb (by omega)
      clear hlk
      go_wp2_with (go_at_call 46; go_loud (refine (HSG.out _ hr1).mono ?_; rintro e w6 ⟨kk, rfl, hkk, hkn, hb6⟩; have r0 := (HRw.keep hb6).cell' (i := 0) rfl; have r1 := (HRw.keep hb6).cell' (i := 1) rfl; have f0 := (HRw.keep hb6).frozen 0; have f1' := (HRw.keep hb6).frozen 1))
      rw [val_dg] at hkk
      refine bodyPost_ret (v := .agg #[.bool (neg && decide (0 < val (dg (hor 256 id l)))), .slice A1 kk c1]) (by simp [results, Try.results24, go_sem, r0, r1]) rfl ?_
      exact ri_end (x := sigN neg (hor 256 id l)) (by show _ = _; rw [val_dg]; rfl) hkk (by omega) (hr1.keep hb6) (fun ad e => by have := hf1 ad e; omega) ((hBW.trans (hb.mono (by omega))).trans (hb6.mono (by omega))) (Nat.le_refl _)
end Go.Proofs.Ytgnddobonboloaa
