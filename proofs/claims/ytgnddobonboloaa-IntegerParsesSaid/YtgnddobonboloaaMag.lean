/- The walk of Magnitude of integer. -/
import Derived.Test.YtgnddobonboloaaCmp
import Derived.Test.YtgnddobonboloaaShort
import Derived.Test.YtgnddobonboloaaBase2
namespace Go.Proofs.Ytgnddobonboloaa
open Go.RowKit

/-- Digits in a base, least significant first. -/
def dgb (b : Nat) (n : Nat) : List Nat := if _h : n = 0 ∨ b < 2 then [] else n % b :: dgb b (n / b)
termination_by n
decreasing_by exact Nat.div_lt_self (by omega) (by omega)
theorem dgb_zero (b : Nat) : dgb b 0 = [] := by rw [dgb]; simp
theorem dgb_pos {b n : Nat} (h : n ≠ 0) (hb : 2 ≤ b) : dgb b n = n % b :: dgb b (n / b) := by
  rw [dgb, dif_neg (by omega)]
theorem dgb_lt {b n : Nat} (hb : 2 ≤ b) : ∀ d ∈ dgb b n, d < b := by
  induction n using Nat.strongRecOn with
  | _ n ih =>
    by_cases h : n = 0
    · subst h; rw [dgb_zero]; intro d hd; cases hd
    · rw [dgb_pos h hb]
      intro d hd
      rcases List.mem_cons.1 hd with rfl | hd
      · exact Nat.mod_lt _ (by omega)
      · exact ih (n / b) (Nat.div_lt_self (by omega) (by omega)) d hd
theorem dgb_len {b n k : Nat} (hb : 2 ≤ b) (h : n < 2 ^ k) : (dgb b n).length ≤ k := by
  induction n using Nat.strongRecOn generalizing k with
  | _ n ih =>
    by_cases h0 : n = 0
    · subst h0; rw [dgb_zero]; simp
    · rw [dgb_pos h0 hb]
      cases k with
      | zero => simp at h; omega
      | succ k =>
        have h1 : n / b ≤ n / 2 := Nat.div_le_div_left hb (by omega)
        have h2 : n / 2 < 2 ^ k := by rw [Nat.pow_succ] at h; omega
        have := ih (n / b) (Nat.div_lt_self (by omega) (by omega)) (k := k) (by omega)
        simp; omega
theorem pow_aux (k : Nat) : 10 ^ (2 * k) ≤ 2 ^ (7 * k) := by
  rw [Nat.pow_mul, Nat.pow_mul]
  exact Nat.pow_le_pow_left (by decide) k
theorem dg_len2 {m k : Nat} (h : (dg m).length ≤ 2 * k) : m < 2 ^ (7 * k) := Nat.lt_of_lt_of_le (dg_len_le.1 h) (pow_aux k)
theorem div_dg_lt {m b : Nat} (hm : m ≠ 0) (hb : 10 ≤ b) : (dg (m / b)).length < (dg m).length := by
  have h1 : m / b ≤ m / 10 := Nat.div_le_div_left hb (by omega)
  have h2 := dg_len_mono h1
  rw [dg_pos hm, List.length_cons]
  omega

theorem short_d (A : Option Addr) (n c m : Nat) (b : Nat) (w : World) (hn : Hid (n = (dg m).length)) (hr : Rd w A (B8 (dg m))) (hm : n ≤ 4294967296) (h1 : 2 ≤ b) (h2 : b ≤ 256) :
    Calls Try.prog 50 #[.slice A n c, .int .i64 (b : Int)] w fun e w' => ∃ A' n' c' d, e = .returned (.tuple #[.slice A' n' c', .int .i64 ((d : Nat) : Int)]) ∧ Hid (d = m % b) ∧ d < b ∧ Hid (n' = (dg (m / b)).length) ∧ n' ≤ c' ∧
      Rd w' A' (B8 (dg (m / b))) ∧ From w.heap.size A' ∧ Below w.heap.size w w' := by
  refine (short_any A n c m b w hn hr hm (by omega) (by omega)).mono ?_
  rintro e w' ⟨A', n', c', he, h3, h4, h5, h6, h7⟩
  rw [Int.toNat_natCast] at he h3 h5
  exact ⟨A', n', c', m % b, he, rfl, Nat.mod_lt _ (by omega), h3, h4, h5, h6, h7⟩

def lenAt (w : World) (g i : Nat) : Nat := match w.cell? ⟨g, i, none⟩ with | some (.slice _ k _) => k | _ => 0
theorem lenAt_of {w : World} {g i k c : Nat} {A : Option Addr} (h : w.cell? ⟨g, i, none⟩ = some (.slice A k c)) : lenAt w g i = k := by
  unfold lenAt; rw [h]

set_option maxHeartbeats 2000000 in
theorem mag_bad (l : List Nat) (w : World) (hl : By l) (h : parseC l = none) : Calls Try.prog 19 #[.string (mks l)] w fun e w' =>
    e = .returned (.string (mks [])) ∧ Below w.heap.size w w' := by
  have H1 := Lib.hid (read_bad l w hl h)
  clear h
  go_enter Try.func19, Try.ntmps19
  go_wp2_with (go_at_call 48; go_loud (refine H1.out.mono ?_; rintro e w1 ⟨rfl, hb1⟩))
  go_ret
  exact ⟨rfl, hb1.alloc hb1.size _⟩

set_option maxHeartbeats 8000000 in
theorem mag_ok (l : List Nat) (x1 : Bool) (x2 : Nat) (w : World) (hl : By l) (h : parseC l = some (x1, x2)) : Calls Try.prog 19 #[.string (mks l)] w fun e w' =>
    e = .returned (.string (mks (dgb 256 x2).reverse)) ∧ Below w.heap.size w w' := by
  have H1 := Lib.hid (read_ok l (x1, x2) w hl h)
  clear h
  go_enter Try.func19, Try.ntmps19
  go_upto_region 4 with (go_at_call 48; go_loud (refine H1.out.mono ?_; rintro e w1 ⟨A, n, c, rfl, hn, hn4, hc, hr1, hb1⟩))
  (try dsimp only at hn hr1)
  have HX := Lib.hid (Arr.new w1 62 [.bool x1, .slice A n c])
  have hBW : Below w.heap.size w (w1.alloc (.cells #[.bool x1, .slice A n c] 62)) := hb1.alloc hb1.size _
  have hrW := hr1.alloc (.cells #[.bool x1, .slice A n c] 62)
  have hA : ∀ ad, A = some ad → ad.block ≠ w1.heap.size ∨ (dg x2).length = 0 := by
    intro ad e
    by_cases h0 : (dg x2).length = 0
    · exact .inr h0
    · left
      obtain ⟨u, hu⟩ : ∃ u, (B8 (dg x2))[0]? = some u := ⟨_, List.getElem?_eq_getElem (by rw [length_B8]; omega)⟩
      obtain ⟨ad', e', hc'⟩ := hr1 0 u hu
      rw [e] at e'
      obtain rfl := Option.some.inj e'
      have := block_lt_of_cell hc'
      rw [blk_add] at this
      omega
  have hw1 := hb1.size
  have hsW : w1.heap.size < (w1.alloc (.cells #[.bool x1, .slice A n c] 62)).heap.size := by simp
  have hlen := dgb_len (b := 256) (by omega) (dg_len2 (m := x2) (k := 200) (by have := hn.out; omega))
  clear hr1 hb1 H1
  generalize (w1.alloc (.cells #[.bool x1, .slice A n c] 62)) = W at *
  go_wp2
  go_loopw [5] (fun ov wr => ∃ (m : Nat) (os : List Nat) (A1 : Option Addr) (n1 c1 : Nat) (Ao : Option Addr) (no co : Nat), ov = .slice Ao no co ∧ Hid (no = os.length) ∧ (Ao = none → co = 0) ∧ Rd wr Ao (B8 os) ∧ (∀ ad, Ao = some ad → ad.block ≠ w1.heap.size) ∧
      Hid ((dgb 256 m).reverse ++ os = (dgb 256 x2).reverse) ∧ Hid (n1 = (dg m).length) ∧ n1 ≤ 400 ∧ Rd wr A1 (B8 (dg m)) ∧ (∀ ad, A1 = some ad → ad.block ≠ w1.heap.size ∨ (dg m).length = 0) ∧
      Hid (Arr wr w1.heap.size 62 [.bool x1, .slice A1 n1 c1]) ∧ Below w.heap.size w wr ∧ w1.heap.size < wr.heap.size) (fun _ wr => lenAt wr w1.heap.size 1)
  case atStart => exact ⟨x2, [], A, n, c, none, 0, 0, rfl, rfl, fun _ => rfl, Rd.nil, fun _ h => (by cases h), by show _ = _; simp, hn, hn4, hrW, hA, HX, hBW, hsW⟩
  case round =>
    clear hrW hA HX hBW hsW
    obtain ⟨m, os, A1, n1, c1, Ao, no, co, rfl, hno, hco, hro, hAo, heq, hn1, hn1b, hr1, hA1, hx, hb, hsz⟩ := hrel
    have q1 := hx.out.cell' (i := 1) rfl
    have f1 := hx.out.frozen 1
    have hob : os.length ≤ 1400 := by
      have h1 := congrArg List.length heq.out
      simp at h1
      omega
    by_cases h0 : m = 0
    · have HE : Hid (os = (dgb 256 x2).reverse) := by
        have h1 := heq.out
        rw [h0, dgb_zero] at h1
        show _ = _
        simpa using h1
      have hn0 : n1 = 0 := by rw [hn1.out, h0, dg_zero]; rfl
      subst hn0
      have hcv := run_str (P := Try.prog) wr 26 9 5 Try.underlying26 Try.underlying5 Try.underlying9 Ao no co _ hro hno.out
      clear h0
      go_wp2
      go_ret
      rw [← HE.out]
      exact ⟨rfl, hb⟩
    · have hn0 : 0 < n1 := dg_pos_len hn1 h0
      have HSH := Lib.hid (short_d A1 n1 c1 m 256 wr hn1 hr1 (by omega) (by omega) (by omega))
      have HM0 := Lib.hid h0
      have hbs := hb.size
      clear h0
      go_wp2_with (first | (go_at_call 50; go_loud (refine HSH.out.mono ?_; rintro e w5 ⟨A5, n5, c5, d, rfl, hd, hd5, hn5, hc5, hr5, hf5, hb5⟩; have q15 := (hx.out.keep hb5).cell' (i := 1) rfl; have f15 := (hx.out.keep hb5).frozen 1)) | (at_builtin; go_loud (refine wpList_apl rfl (.tmp 27) (.tmp 28) 26 rfl (w1.heap.size + 1) 5 _ _ Try.underlying26 Try.info5 rfl _ 1 [.int .u8 (d : Int)] rfl ?_ Ao no co (B8 os) rfl (((hro.keep hb5).setCell _ hAo).alloc _) (by rw [length_B8]; exact hno.out.symm) hco (B8_one _) (by have := hno.out; unfold maxLen; omega) (by have := hno.out; omega) (by have := hb5.size; simp; omega) ?_; (· have HO := own_one (w5.setCell ⟨w1.heap.size, 1, none⟩ (.slice A5 n5 c5)) 5 (.int .u8 (d : Int)) (w1.heap.size + 1) (by have := hb5.size; simp; omega); rw [World.size_setCell] at HO; exact HO); intro v' w7 hown7 hgr7)))
      have hz5 := hb5.size
      have hX6 := ((hx.out.keep hb5).store 1 (.slice A5 n5 c5)).alloc (.cells #[.int .u8 (d : Int)] 5)
      have hr6 : Rd (w5.setCell ⟨w1.heap.size, 1, none⟩ (.slice A5 n5 c5)) A5 (B8 (dg (m / 256))) := hr5.setCell _ (fun ad e => by have := hf5 ad e; dsimp only; omega)
      have hbS : Below (w5.setCell ⟨w1.heap.size, 1, none⟩ (.slice A5 n5 c5)).heap.size (w5.setCell ⟨w1.heap.size, 1, none⟩ (.slice A5 n5 c5)) w7 := ((Below.refl _ _).alloc (Nat.le_refl _) _).grown hgr7 (by simp) (fun k h => by have h' : w5.heap.size = k := Option.some.inj h; simp; omega)
      have hb6 : Below w.heap.size w w7 := (((hb.trans (hb5.mono hbs)).setCell (by dsimp only; omega) _).trans (hbS.mono (by simp; omega)))
      have hX7 := hX6.grown hgr7 (fun h => by have h' : w1.heap.size = w5.heap.size := Option.some.inj h; omega)
      obtain ⟨Av, cv, rfl, hlv, hcv, _, hrv, hfv⟩ := own_rd hown7
      have hz7 := hbS.size
      rw [World.size_setCell] at hz7
      have hlt := div_dg_lt HM0.out (b := 256) (by omega)
      have h9 := hn5.out
      have h10 := hn1.out
      refine ⟨⟨m / 256, d :: os, A5, n5, c5, Av, _, cv, rfl, ?_, ?_, ?_, ?_, ?_, hn5, by omega, hr6.keep hbS, ?_, hX7, hb6, by omega⟩, ?_⟩
      · show _ = _; have := hno.out; simp; omega
      · rintro rfl
        obtain ⟨_, h, _⟩ := hrv 0 _ rfl
        cases h
      · exact hrv
      · intro ad e; have := hfv ad e; omega
      · show _ = _
        rw [← heq.out, dgb_pos HM0.out (by omega), hd.out]
        simp
      · intro ad e; have := hf5 ad e; left; omega
      · rw [lenAt_of (hX7.cell' (i := 1) rfl), lenAt_of q1]; omega
end Go.Proofs.Ytgnddobonboloaa
