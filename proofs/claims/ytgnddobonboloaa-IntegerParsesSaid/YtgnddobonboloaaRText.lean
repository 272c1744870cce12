/- The reference's Text of an integer. -/
import Derived.Test.YtgnddobonboloaaROf
namespace Go.Proofs.Ytgnddobonboloaa
open Go.RowKit
theorem rtext_z (b : Bool) (A : Option Addr) (c : Nat) (w : World) : Calls Try.prog 29 #[.agg #[.bool b, .slice A 0 c]] w fun e w' => e = .returned (.string (mks [48])) ∧ Below w.heap.size w w' := by
  go_enter Try.func29, Try.ntmps29
  go_wp2
  go_ret
  exact ⟨rfl, (Below.refl _ _).alloc (Nat.le_refl _) _⟩

set_option maxHeartbeats 4000000 in
theorem rtext_p (A : Option Addr) (n c : Nat) (ds : List Nat) (w : World) (hn : Hid (n = ds.length)) (hr : Rd w A (B8 ds)) (ht : Ten ds) (h0 : 0 < n) (hm : n ≤ 4294967296) :
    Calls Try.prog 29 #[.agg #[.bool false, .slice A n c]] w fun e w' => e = .returned (.string (mks ([] ++ (asc ds).reverse))) ∧ Below w.heap.size w w' := by
  have h0' : ((n : Int) == 0) = false := by simp; omega
  have HX : Hid (Arr (w.alloc (.cells #[.bool false, .slice A n c] 28)) w.heap.size 28 [.bool false, .slice A n c]) := Arr.new w _ _
  have hBW : Below w.heap.size w (w.alloc (.cells #[.bool false, .slice A n c] 28)) := (Below.refl _ _).alloc (Nat.le_refl _) _
  have hsW : w.heap.size + 1 ≤ (w.alloc (.cells #[.bool false, .slice A n c] 28)).heap.size := by simp
  have hrW := hr.keep hBW
  go_enter Try.func29, Try.ntmps29
  go_upto_region 1 with (fail)
  generalize (w.alloc (.cells #[.bool false, .slice A n c] 28)) = W at *
  have HBW : Below (w.heap.size + 1) W W := Below.refl _ _
  have x0 := HX.out.cell' (i := 0) rfl
  have x1 := HX.out.cell' (i := 1) rfl
  go_upto_region 6 with (fail); have hown0 : W.ownsRow (w.heap.size + 1) 5 1 (.slice none 0 0) 0 (B8 []) := World.ownsRow_nil _ _ _ _
  have HBZ : Below (w.heap.size + 1) W W := Below.refl _ _
  have x1w := (HX.out.below HBZ (by omega)).cell' (i := 1) rfl
  go_wp2
  clear x1w
  go_loopw [3, 4] (fun ov iv wr => ∃ (k q : Nat) (os : List Nat), k ≤ n ∧ iv = .int .i64 ((k : Int) - 1) ∧ Hid (os ++ (asc (ds.take k)).reverse = [] ++ (asc ds).reverse) ∧ Hid (q = os.length) ∧ q + k ≤ n + 1 ∧
      wr.ownsRow (w.heap.size + 1) 5 1 ov q (B8 os) ∧ Below (w.heap.size + 1) W wr) (fun _ iv _ => (intOf iv + 1).toNat)
  case atStart => exact ⟨n, _, [], Nat.le_refl _, rfl, by show _ = _; rw [List.take_of_length_le (by have := hn.out; omega)], rfl, by show 0 + n ≤ n + 1; omega, hown0, HBZ⟩
  case round =>
    clear HBZ hown0
    obtain ⟨k, q, os, hk, rfl, heq, hq, hqk, hown, hb⟩ := hrel
    obtain ⟨A', cc, rfl, hln, hncc, hmx, hro, hf⟩ := own_rd hown
    have q1 := (HX.out.below hb (by omega)).cell' (i := 1) rfl
    by_cases hk0 : k = 0
    · subst hk0
      have he := heq.out
      rw [show (asc (ds.take 0)).reverse = [] from rfl, List.append_nil] at he
      have hcv := run_str (P := Try.prog) wr 26 9 5 Try.underlying26 Try.underlying5 Try.underlying9 A' q cc _ hro hq.out
      rw [he] at hcv
      clear he heq hln hmx hro hf
      go_wp2
      go_ret
      exact ⟨rfl, hBW.trans (hb.mono (by omega))⟩
    · obtain ⟨d, hdd⟩ : ∃ d, ds[k-1]? = some d := ⟨_, List.getElem?_eq_getElem (by have := hn.out; omega)⟩
      have hd10 := ht.get hdd
      obtain ⟨ad, rfl, hcell0⟩ := hrW.at_ (B8_get hdd)
      have hcell := (hb.cell (by have := block_lt_of_cell hcell0; have := hr.at_ (B8_get hdd); obtain ⟨ad', e', h'⟩ := this; obtain rfl := Option.some.inj e'; have := block_lt_of_cell h'; omega)).trans hcell0
      have hk1 : 0 < k := by omega
      have e1 : ((k:Int) - 1).toNat = k - 1 := by omega
      have b1 : 0 ≤ (k:Int) - 1 := by omega
      have b2 : (k:Int) - 1 < n := by omega
      have HST : Hid (os ++ [48 + d] ++ (asc (ds.take (k - 1))).reverse = [] ++ (asc ds).reverse) := by
        show _ = _
        rw [← heq.out, show k = k - 1 + 1 by omega, take_cons hdd, show k - 1 + 1 - 1 = k - 1 by omega]
        simp [asc]
      have hcast : ((48 + d : Nat) : Int) = 48 + (d : Int) := by omega
      have HC := Lib.hid hcast
      have hlo := hown.lt
      clear hcast heq hdd hcell0 hln
      go_wp2_with (at_builtin; go_loud (refine wpList_ap1 rfl (.tmp 22) (.tmp 29) 26 rfl (w.heap.size + 1) 5 _ _ Try.underlying26 Try.info5 rfl _ (q) (B8 os) rfl (hown.alloc _) ⟨wr.heap.size, 0, none⟩ _ (.int .u8 (48 + (d : Int))) rfl (cell_new _ _ _) rfl (by unfold maxLen; omega) (by omega) (by have := hb.size; simp; omega) ?_; intro v' w3 hown' hgr3))
      go_roundw
      case rel => exact ⟨k - 1, q + 1, os ++ [48 + d], by omega, i64e (by omega), HST, by show _ = _; have := hq.out; simp; omega, by omega, by rw [B8_append]; have h3 := hown'; rw [← HC.out] at h3; exact h3, (hb.alloc (by have := hb.size; omega) _).grown hgr3 (by have := hb.size; simp; omega) (fun k e => (hlo k e).1)⟩
      case measure => simp [intOf]; omega
set_option maxHeartbeats 4000000 in
theorem rtext_n (A : Option Addr) (n c : Nat) (ds : List Nat) (w : World) (hn : Hid (n = ds.length)) (hr : Rd w A (B8 ds)) (ht : Ten ds) (h0 : 0 < n) (hm : n ≤ 4294967296) :
    Calls Try.prog 29 #[.agg #[.bool true, .slice A n c]] w fun e w' => e = .returned (.string (mks ([45] ++ (asc ds).reverse))) ∧ Below w.heap.size w w' := by
  have h0' : ((n : Int) == 0) = false := by simp; omega
  have HX : Hid (Arr (w.alloc (.cells #[.bool true, .slice A n c] 28)) w.heap.size 28 [.bool true, .slice A n c]) := Arr.new w _ _
  have hBW : Below w.heap.size w (w.alloc (.cells #[.bool true, .slice A n c] 28)) := (Below.refl _ _).alloc (Nat.le_refl _) _
  have hsW : w.heap.size + 1 ≤ (w.alloc (.cells #[.bool true, .slice A n c] 28)).heap.size := by simp
  have hrW := hr.keep hBW
  go_enter Try.func29, Try.ntmps29
  go_upto_region 1 with (fail)
  generalize (w.alloc (.cells #[.bool true, .slice A n c] 28)) = W at *
  have HBW : Below (w.heap.size + 1) W W := Below.refl _ _
  have x0 := HX.out.cell' (i := 0) rfl
  have x1 := HX.out.cell' (i := 1) rfl
  go_upto_region 5 with (fail); go_upto_region 6 with (at_builtin; go_loud (refine wpList_ap1 rfl (.tmp 11) (.tmp 12) 26 rfl (w.heap.size + 1) 5 _ _ Try.underlying26 Try.info5 rfl _ (0) (B8 []) rfl ((World.ownsRow_nil W (w.heap.size + 1) 5 1).alloc _) ⟨W.heap.size, 0, none⟩ _ (.int .u8 (45 : Nat)) rfl (cell_new _ _ _) rfl (by unfold maxLen; omega) (by omega) (by have := HBW.size; simp; omega) ?_; intro v' w' hown0 hgr'))
  have HBZ : Below (w.heap.size + 1) W w' := ((Below.refl _ _).alloc (by omega) _).grown hgr' (by simp; omega) (fun k e => by cases e)
  have x1w := (HX.out.below HBZ (by omega)).cell' (i := 1) rfl
  go_wp2
  clear x1w
  go_loopw [3, 4] (fun ov iv wr => ∃ (k q : Nat) (os : List Nat), k ≤ n ∧ iv = .int .i64 ((k : Int) - 1) ∧ Hid (os ++ (asc (ds.take k)).reverse = [45] ++ (asc ds).reverse) ∧ Hid (q = os.length) ∧ q + k ≤ n + 1 ∧
      wr.ownsRow (w.heap.size + 1) 5 1 ov q (B8 os) ∧ Below (w.heap.size + 1) W wr) (fun _ iv _ => (intOf iv + 1).toNat)
  case atStart => exact ⟨n, _, [45], Nat.le_refl _, rfl, by show _ = _; rw [List.take_of_length_le (by have := hn.out; omega)], rfl, by show 1 + n ≤ n + 1; omega, hown0, HBZ⟩
  case round =>
    clear HBZ hown0
    obtain ⟨k, q, os, hk, rfl, heq, hq, hqk, hown, hb⟩ := hrel
    obtain ⟨A', cc, rfl, hln, hncc, hmx, hro, hf⟩ := own_rd hown
    have q1 := (HX.out.below hb (by omega)).cell' (i := 1) rfl
    by_cases hk0 : k = 0
    · subst hk0
      have he := heq.out
      rw [show (asc (ds.take 0)).reverse = [] from rfl, List.append_nil] at he
      have hcv := run_str (P := Try.prog) wr 26 9 5 Try.underlying26 Try.underlying5 Try.underlying9 A' q cc _ hro hq.out
      rw [he] at hcv
      clear he heq hln hmx hro hf
      go_wp2
      go_ret
      exact ⟨rfl, hBW.trans (hb.mono (by omega))⟩
    · obtain ⟨d, hdd⟩ : ∃ d, ds[k-1]? = some d := ⟨_, List.getElem?_eq_getElem (by have := hn.out; omega)⟩
      have hd10 := ht.get hdd
      obtain ⟨ad, rfl, hcell0⟩ := hrW.at_ (B8_get hdd)
      have hcell := (hb.cell (by have := block_lt_of_cell hcell0; have := hr.at_ (B8_get hdd); obtain ⟨ad', e', h'⟩ := this; obtain rfl := Option.some.inj e'; have := block_lt_of_cell h'; omega)).trans hcell0
      have hk1 : 0 < k := by omega
      have e1 : ((k:Int) - 1).toNat = k - 1 := by omega
      have b1 : 0 ≤ (k:Int) - 1 := by omega
      have b2 : (k:Int) - 1 < n := by omega
      have HST : Hid (os ++ [48 + d] ++ (asc (ds.take (k - 1))).reverse = [45] ++ (asc ds).reverse) := by
        show _ = _
        rw [← heq.out, show k = k - 1 + 1 by omega, take_cons hdd, show k - 1 + 1 - 1 = k - 1 by omega]
        simp [asc]
      have hcast : ((48 + d : Nat) : Int) = 48 + (d : Int) := by omega
      have HC := Lib.hid hcast
      have hlo := hown.lt
      clear hcast heq hdd hcell0 hln
      go_wp2_with (at_builtin; go_loud (refine wpList_ap1 rfl (.tmp 22) (.tmp 29) 26 rfl (w.heap.size + 1) 5 _ _ Try.underlying26 Try.info5 rfl _ (q) (B8 os) rfl (hown.alloc _) ⟨wr.heap.size, 0, none⟩ _ (.int .u8 (48 + (d : Int))) rfl (cell_new _ _ _) rfl (by unfold maxLen; omega) (by omega) (by have := hb.size; simp; omega) ?_; intro v' w3 hown' hgr3))
      go_roundw
      case rel => exact ⟨k - 1, q + 1, os ++ [48 + d], by omega, i64e (by omega), HST, by show _ = _; have := hq.out; simp; omega, by omega, by rw [B8_append]; have h3 := hown'; rw [← HC.out] at h3; exact h3, (hb.alloc (by have := hb.size; omega) _).grown hgr3 (by have := hb.size; simp; omega) (fun k e => (hlo k e).1)⟩
      case measure => simp [intOf]; omega
theorem rtext_any (b : Bool) (A : Option Addr) (n c m : Nat) (w : World) (hn : Hid (n = (dg m).length)) (hr : Rd w A (B8 (dg m))) (hm : n ≤ 4294967296) :
    Calls Try.prog 29 #[.agg #[.bool b, .slice A n c]] w fun e w' => e = .returned (.string (mks (ntx b m))) ∧ Below w.heap.size w w' := by
  by_cases h0 : m = 0
  · subst h0
    have : n = 0 := by rw [hn.out, dg_zero]; rfl
    subst this
    have e : ntx b 0 = [48] := by unfold ntx; rw [if_pos rfl]
    rw [e]; exact rtext_z b A c w
  · rw [ntx_pos h0]
    cases b
    · exact rtext_p A n c (dg m) w hn hr (ten_dg m) (dg_pos_len hn h0) hm
    · exact rtext_n A n c (dg m) w hn hr (ten_dg m) (dg_pos_len hn h0) hm
end Go.Proofs.Ytgnddobonboloaa
