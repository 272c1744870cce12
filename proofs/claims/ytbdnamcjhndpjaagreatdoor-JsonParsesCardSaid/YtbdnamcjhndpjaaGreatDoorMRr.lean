/- The walk of Mul of integer. -/
import Derived.Test.YtbdnamcjhndpjaaGreatDoorMB
import Derived.Test.YtbdnamcjhndpjaaGreatDoorMParse
set_option linter.unusedVariables false
set_option linter.unusedSimpArgs false
set_option linter.defProp false
set_option linter.constructorNameAsVariable false
namespace Go.Proofs.YtbdnamcjhndpjaaGreatDoor
open Go.RowKit
def IN (ds : List Nat) : List Value := ds.map fun (d : Nat) => Value.int .i64 (d : Int)
def Bdd (acc : List Nat) (i k : Nat) : Prop := ∀ j e, acc[j]? = some e → e ≤ 81 * i + (if j < i + k then 81 else 0)
theorem Bdd.step {acc : List Nat} {i k e d : Nat} (h : Bdd acc i k) (he : acc[i + k]? = some e) (hd : d ≤ 81) : Bdd (acc.set (i + k) (e + d)) i (k + 1) := by
 intro j v hj
 rw [List.getElem?_set] at hj
 by_cases hij : i + k = j
 ·subst hij
  rw [if_pos rfl] at hj
  have := h _ _ he
  rw [if_neg (by omega)] at this
  split at hj
  ·have hv := Option.some.inj hj
   rw [if_pos (by omega)]; omega
  ·cases hj
 ·rw [if_neg hij] at hj
  have := h _ _ hj
  split at this <;> split <;> omega
theorem Bdd.row {acc : List Nat} {i k : Nat} (h : Bdd acc i k) : Bdd acc (i + 1) 0 := by
 intro j v hj
 have := h j v hj
 split at this <;> split <;> omega
def mulN (x y : Bool × Nat) : Bool × Nat := (x.1 != y.1 && decide (0 < x.2 * y.2), x.2 * y.2)
end Go.Proofs.YtbdnamcjhndpjaaGreatDoor
namespace Go.Proofs.YtbdnamcjhndpjaaGreatDoor
open Go.RowKit
def fitsP (o : Option (Bool × Nat)) (bits : Int) : Bool :=
 match o with
 | none => false
 | some (neg, m) => if bits < 1 then false else if 1600 < bits then true else decide (m < 2 ^ (bits.toNat - 1)) || (neg && decide (m = 2 ^ (bits.toNat - 1)))
end Go.Proofs.YtbdnamcjhndpjaaGreatDoor
namespace Go.Proofs.YtbdnamcjhndpjaaGreatDoor
open Go.RowKit
set_option maxHeartbeats 1000000 in
theorem signed_any (A : Option Addr) (n c : Nat) (ds : List Nat) (neg : Bool) (w : World) (hn : Hid (n = ds.length)) (hr : Rd w A (B8 ds)) (hd : Ten ds) (hc : n ≤ c) (hm : n ≤ maxLen) :
  Calls Tryz.prog 87 #[.slice A n c, .bool neg] w fun e w' => ∃ k, e = .returned (.agg #[.bool (neg && decide (0 < val ds)), .slice A k c]) ∧ Hid (k = (dg (val ds)).length) ∧ k ≤ n ∧ Below w.heap.size w w' := by
 have HR : Hid (Arr (w.alloc (.cells #[.bool false, .slice none 0 0] 114)) w.heap.size 114 [.bool false, .slice none 0 0]) := Arr.new w _ _
 have HB : Below w.heap.size w (w.alloc (.cells #[.bool false, .slice none 0 0] 114)) := (Below.refl _ _).alloc (Nat.le_refl _) _
 have hrW := hr.alloc (.cells #[.bool false, .slice none 0 0] 114)
 generalize hpo : (fun (e : Ending) (w' : World) => ∃ k, e = .returned (.agg #[.bool (neg && decide (0 < val ds)), .slice A k c]) ∧ Hid (k = (dg (val ds)).length) ∧ k ≤ n ∧ Below w.heap.size w w') = Q
 have HQ := Lib.hid hpo
 clear hpo
 go_enter Tryz.func87, Tryz.ntmps87
 go_upto_region 2 with (go_at_call 110; go_loud (refine (rtrim_any _ _ _ ds _ hn hrW hd hc hm).mono ?_; rintro e w1 ⟨k, rfl, hk, hkn, _, rfl⟩))
 have hkn' : k ≤ n := by have := hn.out; omega
 generalize (w.alloc (.cells #[.bool false, .slice none 0 0] 114)) = W at *
 have r0 := HR.out.cell' (i := 0) rfl
 have r1 := HR.out.cell' (i := 1) rfl
 have f0 := HR.out.frozen 0
 have f1 := HR.out.frozen 1
 have hbE : ∀ u v, Below w.heap.size w ((W.setCell ⟨w.heap.size, 0, none⟩ u).setCell ⟨w.heap.size, 1, none⟩ v) := fun u v => (HB.setCell (Nat.le_refl _) _).setCell (Nat.le_refl _) _
 have HBE := Lib.hid hbE
 clear hbE
 cases neg
 ·go_wp2
  refine bodyPost_ret (v := .agg #[.bool false, .slice A k c]) (by simp [results, Tryz.results87, go_sem, r0, r1]) rfl ?_
  rw [← HQ.out]
  exact ⟨k, rfl, hk, hkn', HBE.out _ _⟩
 ·by_cases h0 : k = 0
  ·subst h0
   have hv : decide (0 < val ds) = false := by have := dg_length_zero.1 hk.out.symm; simp; omega
   have HV := Lib.hid hv
   clear hv
   go_wp2
   refine bodyPost_ret (v := .agg #[.bool false, .slice A 0 c]) (by simp [results, Tryz.results87, go_sem, r0, r1]) rfl ?_
   rw [← HQ.out]
   exact ⟨0, by rw [HV.out]; rfl, hk, hkn', HBE.out _ _⟩
  ·have h0' : 0 < k := by omega
   have hv : decide (0 < val ds) = true := by
    have h1 : val ds ≠ 0 := fun e => h0 (by rw [hk.out]; exact dg_length_zero.2 e)
    simp; omega
   have HV := Lib.hid hv
   clear hv h0
   go_wp2
   refine bodyPost_ret (v := .agg #[.bool true, .slice A k c]) (by simp [results, Tryz.results87, go_sem, r0, r1]) rfl ?_
   rw [← HQ.out]
   exact ⟨k, by rw [HV.out]; rfl, hk, hkn', HBE.out _ _⟩
theorem long_any (b : Bool) (A : Option Addr) (n c : Nat) (w : World) : Calls Tryz.prog 88 #[.agg #[.bool b, .slice A n c]] w fun e w' => e = .returned (.bool (decide ((400 : Int) < (n : Int)))) ∧ Below w.heap.size w w' := by
 go_enter Tryz.func88, Tryz.ntmps88
 go_wp2
 go_ret
 exact ⟨rfl, (Below.refl _ _).alloc (Nat.le_refl _) _⟩
end Go.Proofs.YtbdnamcjhndpjaaGreatDoor
namespace Go.Proofs.YtbdnamcjhndpjaaGreatDoor
open Go.RowKit
theorem ntx_pos {m : Nat} (h : m ≠ 0) (neg : Bool) : ntx neg m = (if neg then [45] else []) ++ (asc (dg m)).reverse := by unfold ntx; rw [if_neg h]
end Go.Proofs.YtbdnamcjhndpjaaGreatDoor
namespace Go.Proofs.YtbdnamcjhndpjaaGreatDoor
open Go.RowKit
def RI (w : World) (x : Bool × Nat) (e : Ending) (w' : World) : Prop :=
 ∃ A n c, e = .returned (.agg #[.bool x.1, .slice A n c]) ∧ Hid (n = (dg x.2).length) ∧ n ≤ c ∧ Rd w' A (B8 (dg x.2)) ∧ From w.heap.size A ∧ Below w.heap.size w w'
def ofS : List Nat → Bool × List Nat
 | [] => (false, [])
 | c :: r => if c = 45 then (true, (ofS r).2) else ((ofS r).1, (ofS r).2 ++ [c - 48])
def OfC (l : List Nat) : Prop := ∀ c ∈ l, c = 45 ∨ 48 ≤ c ∧ c ≤ 57
end Go.Proofs.YtbdnamcjhndpjaaGreatDoor
namespace Go.Proofs.YtbdnamcjhndpjaaGreatDoor
open Go.RowKit
theorem rtext_z (b : Bool) (A : Option Addr) (c : Nat) (w : World) : Calls Tryz.prog 60 #[.agg #[.bool b, .slice A 0 c]] w fun e w' => e = .returned (.string (mks [48])) ∧ Below w.heap.size w w' := by
 go_enter Tryz.func60, Tryz.ntmps60
 go_wp2
 go_ret
 exact ⟨rfl, (Below.refl _ _).alloc (Nat.le_refl _) _⟩
set_option maxHeartbeats 4000000 in
theorem rtext_p (A : Option Addr) (n c : Nat) (ds : List Nat) (w : World) (hn : Hid (n = ds.length)) (hr : Rd w A (B8 ds)) (ht : Ten ds) (h0 : 0 < n) (hm : n ≤ 4294967296) :
  Calls Tryz.prog 60 #[.agg #[.bool false, .slice A n c]] w fun e w' => e = .returned (.string (mks ([] ++ (asc ds).reverse))) ∧ Below w.heap.size w w' := by
 have h0' : ((n : Int) == 0) = false := by simp; omega
 have HX : Hid (Arr (w.alloc (.cells #[.bool false, .slice A n c] 114)) w.heap.size 114 [.bool false, .slice A n c]) := Arr.new w _ _
 have hBW : Below w.heap.size w (w.alloc (.cells #[.bool false, .slice A n c] 114)) := (Below.refl _ _).alloc (Nat.le_refl _) _
 have hsW : w.heap.size + 1 ≤ (w.alloc (.cells #[.bool false, .slice A n c] 114)).heap.size := by simp
 have hrW := hr.keep hBW
 go_enter Tryz.func60, Tryz.ntmps60
 go_upto_region 1 with (fail)
 generalize (w.alloc (.cells #[.bool false, .slice A n c] 114)) = W at *
 have HBW : Below (w.heap.size + 1) W W := Below.refl _ _
 have x0 := HX.out.cell' (i := 0) rfl
 have x1 := HX.out.cell' (i := 1) rfl
 go_upto_region 6 with (fail); have hown0 : W.ownsRow (w.heap.size + 1) 5 1 (.slice none 0 0) 0 (B8 []) := World.ownsRow_nil _ _ _ _
 have HBZ : Below (w.heap.size + 1) W W := Below.refl _ _
 have x1w := (HX.out.below HBZ (by omega)).cell' (i := 1) rfl
 go_wp2
 clear x1w
 go_loopw [3, 4] (fun ov iv wr => ∃ (k q : Nat) (os : List Nat), k ≤ n ∧ iv = .int .i64 ((k : Int) - 1) ∧ Hid (os ++ (asc (ds.take k)).reverse = [] ++ (asc ds).reverse) ∧ Hid (q = os.length) ∧ q + k ≤ n + 1 ∧
   wr.ownsRow (w.heap.size + 1) 5 1 ov q (B8 os) ∧ Below (w.heap.size + 1) W wr) (fun _ iv _ => (intOf iv + 1).toNat)
 case atStart => exact ⟨n, _, [], Nat.le_refl _, rfl, by show _ = _; rw [List.take_of_length_le (by have := hn.out; omega)], rfl, by show 0 + n ≤ n + 1; omega, hown0, HBZ⟩
 case round =>
  clear HBZ hown0
  obtain ⟨k, q, os, hk, rfl, heq, hq, hqk, hown, hb⟩ := hrel
  obtain ⟨A', cc, rfl, hln, hncc, hmx, hro, hf⟩ := own_rd hown
  have q1 := (HX.out.below hb (by omega)).cell' (i := 1) rfl
  by_cases hk0 : k = 0
  ·subst hk0
   have he := heq.out
   rw [show (asc (ds.take 0)).reverse = [] from rfl, List.append_nil] at he
   have hcv := run_str (P := Tryz.prog) wr 103 9 5 Tryz.underlying103 Tryz.underlying5 Tryz.underlying9 A' q cc _ hro hq.out
   rw [he] at hcv
   clear he heq hln hmx hro hf
   go_wp2
   go_ret
   exact ⟨rfl, hBW.trans (hb.mono (by omega))⟩
  ·obtain ⟨d, hdd⟩ : ∃ d, ds[k-1]? = some d := ⟨_, List.getElem?_eq_getElem (by have := hn.out; omega)⟩
   have hd10 := ht.get hdd
   obtain ⟨ad, rfl, hcell0⟩ := hrW.at_ (B8_get hdd)
   have hcell := (hb.cell (by have := block_lt_of_cell hcell0; have := hr.at_ (B8_get hdd); obtain ⟨ad', e', h'⟩ := this; obtain rfl := Option.some.inj e'; have := block_lt_of_cell h'; omega)).trans hcell0
   have hk1 : 0 < k := by omega
   have e1 : ((k:Int) - 1).toNat = k - 1 := by omega
   have b1 : 0 ≤ (k:Int) - 1 := by omega
   have b2 : (k:Int) - 1 < n := by omega
   have HST : Hid (os ++ [48 + d] ++ (asc (ds.take (k - 1))).reverse = [] ++ (asc ds).reverse) := by
    show _ = _
    rw [← heq.out, show k = k - 1 + 1 by omega, take_cons hdd, show k - 1 + 1 - 1 = k - 1 by omega]
    simp [asc]
   have hcast : ((48 + d : Nat) : Int) = 48 + (d : Int) := by omega
   have HC := Lib.hid hcast
   have hlo := hown.lt
   clear hcast heq hdd hcell0 hln
   go_wp2_with (at_builtin; go_loud (refine wpList_ap1 rfl (.tmp 22) (.tmp 29) 103 rfl (w.heap.size + 1) 5 _ _ Tryz.underlying103 Tryz.info5 rfl _ (q) (B8 os) rfl (hown.alloc _) ⟨wr.heap.size, 0, none⟩ _ (.int .u8 (48 + (d : Int))) rfl (cell_new _ _ _) rfl (by unfold maxLen; omega) (by omega) (by have := hb.size; simp; omega) ?_; intro v' w3 hown' hgr3))
   go_roundw
   case rel => exact ⟨k - 1, q + 1, os ++ [48 + d], by omega, i64e (by omega), HST, by show _ = _; have := hq.out; simp; omega, by omega, by rw [B8_append]; have h3 := hown'; rw [← HC.out] at h3; exact h3, (hb.alloc (by have := hb.size; omega) _).grown hgr3 (by have := hb.size; simp; omega) (fun k e => (hlo k e).1)⟩
   case measure => simp [intOf]; omega
set_option maxHeartbeats 4000000 in
theorem rtext_n (A : Option Addr) (n c : Nat) (ds : List Nat) (w : World) (hn : Hid (n = ds.length)) (hr : Rd w A (B8 ds)) (ht : Ten ds) (h0 : 0 < n) (hm : n ≤ 4294967296) :
  Calls Tryz.prog 60 #[.agg #[.bool true, .slice A n c]] w fun e w' => e = .returned (.string (mks ([45] ++ (asc ds).reverse))) ∧ Below w.heap.size w w' := by
 have h0' : ((n : Int) == 0) = false := by simp; omega
 have HX : Hid (Arr (w.alloc (.cells #[.bool true, .slice A n c] 114)) w.heap.size 114 [.bool true, .slice A n c]) := Arr.new w _ _
 have hBW : Below w.heap.size w (w.alloc (.cells #[.bool true, .slice A n c] 114)) := (Below.refl _ _).alloc (Nat.le_refl _) _
 have hsW : w.heap.size + 1 ≤ (w.alloc (.cells #[.bool true, .slice A n c] 114)).heap.size := by simp
 have hrW := hr.keep hBW
 go_enter Tryz.func60, Tryz.ntmps60
 go_upto_region 1 with (fail)
 generalize (w.alloc (.cells #[.bool true, .slice A n c] 114)) = W at *
 have HBW : Below (w.heap.size + 1) W W := Below.refl _ _
 have x0 := HX.out.cell' (i := 0) rfl
 have x1 := HX.out.cell' (i := 1) rfl
 go_upto_region 5 with (fail); go_upto_region 6 with (at_builtin; go_loud (refine wpList_ap1 rfl (.tmp 11) (.tmp 12) 103 rfl (w.heap.size + 1) 5 _ _ Tryz.underlying103 Tryz.info5 rfl _ (0) (B8 []) rfl ((World.ownsRow_nil W (w.heap.size + 1) 5 1).alloc _) ⟨W.heap.size, 0, none⟩ _ (.int .u8 (45 : Nat)) rfl (cell_new _ _ _) rfl (by unfold maxLen; omega) (by omega) (by have := HBW.size; simp; omega) ?_; intro v' w' hown0 hgr'))
 have HBZ : Below (w.heap.size + 1) W w' := ((Below.refl _ _).alloc (by omega) _).grown hgr' (by simp; omega) (fun k e => by cases e)
 have x1w := (HX.out.below HBZ (by omega)).cell' (i := 1) rfl
 go_wp2
 clear x1w
 go_loopw [3, 4] (fun ov iv wr => ∃ (k q : Nat) (os : List Nat), k ≤ n ∧ iv = .int .i64 ((k : Int) - 1) ∧ Hid (os ++ (asc (ds.take k)).reverse = [45] ++ (asc ds).reverse) ∧ Hid (q = os.length) ∧ q + k ≤ n + 1 ∧
   wr.ownsRow (w.heap.size + 1) 5 1 ov q (B8 os) ∧ Below (w.heap.size + 1) W wr) (fun _ iv _ => (intOf iv + 1).toNat)
 case atStart => exact ⟨n, _, [45], Nat.le_refl _, rfl, by show _ = _; rw [List.take_of_length_le (by have := hn.out; omega)], rfl, by show 1 + n ≤ n + 1; omega, hown0, HBZ⟩
 case round =>
  clear HBZ hown0
  obtain ⟨k, q, os, hk, rfl, heq, hq, hqk, hown, hb⟩ := hrel
  obtain ⟨A', cc, rfl, hln, hncc, hmx, hro, hf⟩ := own_rd hown
  have q1 := (HX.out.below hb (by omega)).cell' (i := 1) rfl
  by_cases hk0 : k = 0
  ·subst hk0
   have he := heq.out
   rw [show (asc (ds.take 0)).reverse = [] from rfl, List.append_nil] at he
   have hcv := run_str (P := Tryz.prog) wr 103 9 5 Tryz.underlying103 Tryz.underlying5 Tryz.underlying9 A' q cc _ hro hq.out
   rw [he] at hcv
   clear he heq hln hmx hro hf
   go_wp2
   go_ret
   exact ⟨rfl, hBW.trans (hb.mono (by omega))⟩
  ·obtain ⟨d, hdd⟩ : ∃ d, ds[k-1]? = some d := ⟨_, List.getElem?_eq_getElem (by have := hn.out; omega)⟩
   have hd10 := ht.get hdd
   obtain ⟨ad, rfl, hcell0⟩ := hrW.at_ (B8_get hdd)
   have hcell := (hb.cell (by have := block_lt_of_cell hcell0; have := hr.at_ (B8_get hdd); obtain ⟨ad', e', h'⟩ := this; obtain rfl := Option.some.inj e'; have := block_lt_of_cell h'; omega)).trans hcell0
   have hk1 : 0 < k := by omega
   have e1 : ((k:Int) - 1).toNat = k - 1 := by omega
   have b1 : 0 ≤ (k:Int) - 1 := by omega
   have b2 : (k:Int) - 1 < n := by omega
   have HST : Hid (os ++ [48 + d] ++ (asc (ds.take (k - 1))).reverse = [45] ++ (asc ds).reverse) := by
    show _ = _
    rw [← heq.out, show k = k - 1 + 1 by omega, take_cons hdd, show k - 1 + 1 - 1 = k - 1 by omega]
    simp [asc]
   have hcast : ((48 + d : Nat) : Int) = 48 + (d : Int) := by omega
   have HC := Lib.hid hcast
   have hlo := hown.lt
   clear hcast heq hdd hcell0 hln
   go_wp2_with (at_builtin; go_loud (refine wpList_ap1 rfl (.tmp 22) (.tmp 29) 103 rfl (w.heap.size + 1) 5 _ _ Tryz.underlying103 Tryz.info5 rfl _ (q) (B8 os) rfl (hown.alloc _) ⟨wr.heap.size, 0, none⟩ _ (.int .u8 (48 + (d : Int))) rfl (cell_new _ _ _) rfl (by unfold maxLen; omega) (by omega) (by have := hb.size; simp; omega) ?_; intro v' w3 hown' hgr3))
   go_roundw
   case rel => exact ⟨k - 1, q + 1, os ++ [48 + d], by omega, i64e (by omega), HST, by show _ = _; have := hq.out; simp; omega, by omega, by rw [B8_append]; have h3 := hown'; rw [← HC.out] at h3; exact h3, (hb.alloc (by have := hb.size; omega) _).grown hgr3 (by have := hb.size; simp; omega) (fun k e => (hlo k e).1)⟩
   case measure => simp [intOf]; omega
theorem rtext_any (b : Bool) (A : Option Addr) (n c m : Nat) (w : World) (hn : Hid (n = (dg m).length)) (hr : Rd w A (B8 (dg m))) (hm : n ≤ 4294967296) :
  Calls Tryz.prog 60 #[.agg #[.bool b, .slice A n c]] w fun e w' => e = .returned (.string (mks (ntx b m))) ∧ Below w.heap.size w w' := by
 by_cases h0 : m = 0
 ·subst h0
  have : n = 0 := by rw [hn.out, dg_zero]; rfl
  subst this
  have e : ntx b 0 = [48] := by unfold ntx; rw [if_pos rfl]
  rw [e]; exact rtext_z b A c w
 ·rw [ntx_pos h0]
  cases b
  ·exact rtext_p A n c (dg m) w hn hr (ten_dg m) (dg_pos_len hn h0) hm
  ·exact rtext_n A n c (dg m) w hn hr (ten_dg m) (dg_pos_len hn h0) hm
end Go.Proofs.YtbdnamcjhndpjaaGreatDoor
namespace Go.Proofs.YtbdnamcjhndpjaaGreatDoor
open Go.RowKit
def RetV (w : World) (N : Nat) (e : Ending) (w' : World) : Prop := ∃ zs, Ten zs ∧ val zs = N ∧ zs.length ≤ 4294967296 * 3 ∧ RetS w (B8 zs) e w'
end Go.Proofs.YtbdnamcjhndpjaaGreatDoor
namespace Go.Proofs.YtbdnamcjhndpjaaGreatDoor
open Go.RowKit
set_option maxHeartbeats 4000000 in
theorem scale_any (A : Option Addr) (n c m : Nat) (by_ more : Int) (w : World) (hn : Hid (n = (dg m).length)) (hr : Rd w A (B8 (dg m))) (hm : n ≤ 4294967296)
  (h1 : 1 ≤ by_) (h2 : by_ ≤ 256) (h3 : 0 ≤ more) (h4 : more ≤ 1000) :
  Calls Tryz.prog 86 #[.slice A n c, .int .i64 by_, .int .i64 more] w (RetS w (B8 (dg (m * by_.toNat + more.toNat)))) := by
 obtain ⟨b, rfl⟩ := Int.eq_ofNat_of_zero_le (show 0 ≤ by_ by omega)
 obtain ⟨mo, rfl⟩ := Int.eq_ofNat_of_zero_le h3
 have ht : Ten (dg m) := ten_dg m
 rw [Int.toNat_natCast, Int.toNat_natCast]
 have hvs := val_sml b (dg m) mo
 rw [val_dg] at hvs
 have HVS := Lib.hid hvs
 have hts := ten_sml b (dg m) mo
 clear hvs
 generalize dg m = ds at *
 go_enter Tryz.func86, Tryz.ntmps86
 go_wp2
 go_loopw [7, 8, 2] (fun ov iv cv wr => ∃ (k c : Nat) (dn : List Nat), k ≤ n + 4 ∧ c ≤ 1000 ∧ iv = .int .i64 k ∧ cv = .int .i64 c ∧ Hid (dn.length = k) ∧ Hid (dn ++ sml b (ds.drop k) c = sml b ds mo) ∧ Hid (n ≤ k → (dg c).length + k ≤ n + 4) ∧
   wr.ownsRow w.heap.size 5 1 ov k (B8 dn) ∧ Below w.heap.size w wr) (fun _ iv _ _ => n + 4 - (intOf iv).toNat)
 case atStart => exact ⟨0, mo, [], by omega, by omega, rfl, rfl, rfl, rfl, fun h => by have : (dg mo).length ≤ 4 := dg_len_le.2 (by omega); omega, World.ownsRow_nil _ _ _ _, Below.refl _ _⟩
 case round =>
  obtain ⟨k, q, dn, hk, hq, rfl, rfl, hdl, heq, hlen, hown, hb⟩ := hrel
  have hlo := hown.lt
  by_cases hlt : k < n
  ·obtain ⟨x, hx⟩ : ∃ x, ds[k]? = some x := ⟨_, List.getElem?_eq_getElem (by have := hn.out; omega)⟩
   have hx10 := ht.get hx
   obtain ⟨ad, rfl, hcx⟩ := hr.at_ (B8_get hx)
   have hcell := (hb.cell (block_lt_of_cell hcx)).trans hcx
   have HST : Hid (dn ++ [(q + x * b) % 10] ++ sml b (ds.drop (k + 1)) ((q + x * b) / 10) = sml b ds mo) := by
    show _ = _
    rw [← heq.out, dropc hx]; simp [sml]
   have hmul : 0 ≤ (b : Int) * (x : Int) := Int.mul_nonneg (by omega) (by omega)
   have hmul2 : (b : Int) * (x : Int) ≤ 256 * 9 := Int.mul_le_mul h2 (by omega) (by omega) (by omega)
   have hxb : x * b ≤ 9 * 256 := Nat.mul_le_mul (by omega) (by omega)
   have HC1 : Hid ((((q + x * b) % 10 : Nat) : Int) = ((q : Int) + (b : Int) * (x : Int)) % 10) := by show _ = _; rw [Nat.mul_comm]; omega
   have HC2 : Hid ((((q + x * b) / 10 : Nat) : Int) = ((q : Int) + (b : Int) * (x : Int)) / 10) := by show _ = _; rw [Nat.mul_comm]; omega
   have hq2 : (q + x * b) / 10 ≤ 1000 := by omega
   clear hx hcx heq
   go_wp2_with (at_builtin; go_loud (refine wpList_ap1 rfl (.tmp 32) (.tmp 36) 103 rfl w.heap.size 5 _ _ Tryz.underlying103 Tryz.info5 rfl _ (k) (B8 dn) rfl (hown.alloc _) ⟨wr.heap.size, 0, none⟩ _ (.int .u8 (((q : Int) + (b : Int) * (x : Int)) % 10)) rfl (cell_new _ _ _) rfl (by unfold maxLen; omega) (by omega) (by have := hb.size; simp; omega) ?_; intro v' w3 hown3 hgr3))
   go_roundw
   case rel => exact ⟨k + 1, (q + x * b) / 10, _, by omega, hq2, by go_num, i64e HC2.out.symm, by show _ = _; have := hdl.out; simp [this], HST, fun h => by have : (dg ((q + x * b) / 10)).length ≤ 3 := dg_len_le.2 (by omega); omega, by rw [B8_append]; have h3 := hown3; rw [← HC1.out] at h3; exact h3, (hb.alloc hb.size _).grown hgr3 (by have := hb.size; simp; omega) (fun k e => (hlo k e).1)⟩
   case measure => simp [intOf]; omega
  ·have hl4 := hlen.out (by omega)
   have hdr : ds.drop k = [] := List.drop_eq_nil_of_le (by have := hn.out; omega)
   have hdr2 : ds.drop (k + 1) = [] := List.drop_eq_nil_of_le (by have := hn.out; omega)
   have heq2 : Hid (dn ++ dg q = sml b ds mo) := by
    have h1 := heq.out
    rw [hdr] at h1
    exact h1
   by_cases hq0 : q = 0
   ·subst hq0
    have HD : Hid (dn = sml b ds mo) := by
     have h1 := heq2.out
     rw [dg_zero, List.append_nil] at h1
     exact h1
    obtain ⟨A', c3, rfl, hl3, hc3, _, hrd, hfr⟩ := own_rd hown
    have htd : Ten dn := by rw [HD.out]; exact hts
    clear hdr hdr2 heq heq2
    go_wp2_with (go_at_call 110; go_loud (refine (rtrim_any _ _ _ dn _ (show Hid (_ = _) from hdl.out.symm) hrd htd hc3 (by unfold maxLen; omega)).mono ?_; rintro e w' ⟨kk, rfl, hkk, hkn, hrr, rfl⟩))
    go_ret
    refine retS_eq (xs := B8 (dg (val dn))) ⟨A', kk, c3, rfl, ?_, by have := hdl.out; omega, hrr, hfr, hb⟩ (by rw [HD.out, HVS.out])
    show _ = _; rw [length_B8]; exact hkk.out
   ·have hq1 : 0 < q := by omega
    have hdg := dg_pos hq0
    have hl5 : (dg q).length = (dg (q / 10)).length + 1 := by rw [hdg]; rfl
    have HST : Hid (dn ++ [q % 10] ++ sml b (ds.drop (k + 1)) (q / 10) = sml b ds mo) := by
     show _ = _
     rw [← heq2.out, hdr2, hdg]; simp [sml]
    clear hdr hdr2 heq heq2 hdg
    have hl6 : (dg (q / 10)).length + (k + 1) ≤ n + 4 := by omega
    have HL6 := Lib.hid hl6
    have hk4 : k + 1 ≤ n + 4 := by omega
    clear hl5 hl6 hl4
    go_wp2_with (at_builtin; go_loud (refine wpList_ap1 rfl (.tmp 32) (.tmp 36) 103 rfl w.heap.size 5 _ _ Tryz.underlying103 Tryz.info5 rfl _ (k) (B8 dn) rfl (hown.alloc _) ⟨wr.heap.size, 0, none⟩ _ (.int .u8 ((q : Int) % 10)) rfl (cell_new _ _ _) rfl (by unfold maxLen; omega) (by omega) (by have := hb.size; simp; omega) ?_; intro v' w3 hown3 hgr3))
    go_roundw
    case rel => exact ⟨k + 1, q / 10, _, by omega, by omega, by go_num, i64e (by omega), by show _ = _; have := hdl.out; simp [this], HST, fun _ => HL6.out, by rw [B8_append]; exact hown3, (hb.alloc hb.size _).grown hgr3 (by have := hb.size; simp; omega) (fun k e => (hlo k e).1)⟩
    case measure => simp [intOf]; omega
end Go.Proofs.YtbdnamcjhndpjaaGreatDoor
namespace Go.Proofs.YtbdnamcjhndpjaaGreatDoor
open Go.RowKit
end Go.Proofs.YtbdnamcjhndpjaaGreatDoor
namespace Go.Proofs.YtbdnamcjhndpjaaGreatDoor
open Go.RowKit
def lenV (v : Value) : Nat := match v with | .slice _ k _ => k | _ => 0
end Go.Proofs.YtbdnamcjhndpjaaGreatDoor
namespace Go.Proofs.YtbdnamcjhndpjaaGreatDoor
theorem tE_le {x : Bool × Nat} (h : (dg x.2).length ≤ 400) : tE x = 0 := by unfold tE; rw [if_pos h]
def Ok (x : Bool × Nat) : Prop := x.1 = true → 0 < x.2
def zN (x : Bool × Nat) : Int := if x.1 then -(x.2 : Int) else (x.2 : Int)
def sg (x : Bool × Nat) : Int := if x.2 = 0 then 0 else if x.1 then -1 else 1
end Go.Proofs.YtbdnamcjhndpjaaGreatDoor
namespace Go.Proofs.YtbdnamcjhndpjaaGreatDoor
open Go.RowKit
def rfitsB (neg : Bool) (m L : Nat) : Bool := if neg then decide (m ≤ L) else decide (m < L)
end Go.Proofs.YtbdnamcjhndpjaaGreatDoor
namespace Go.Proofs.YtbdnamcjhndpjaaGreatDoor
open Go.RowKit
def hexch (d : Nat) : Nat := if d < 10 then 48 + d else 87 + d
def hexs : List Nat := [48, 49, 50, 51, 52, 53, 54, 55, 56, 57, 97, 98, 99, 100, 101, 102]
def dtx (b : Nat) (neg : Bool) (m : Nat) : List Nat := if m = 0 then [48] else (if neg then [45] else []) ++ ((dgb b m).reverse.map hexch)
end Go.Proofs.YtbdnamcjhndpjaaGreatDoor
namespace Go.Proofs.YtbdnamcjhndpjaaGreatDoor
open Go.RowKit
def Swp (l xs : List Nat) (i : Nat) : Prop := xs.length = l.length ∧ ∀ j, j < l.length → xs[j]? = if j < i ∨ l.length - 1 - j < i then l[l.length - 1 - j]? else l[j]?
theorem Swp.zero (l : List Nat) : Swp l l 0 := ⟨rfl, fun j hj => by rw [if_neg (by omega)]⟩
theorem Swp.done {l xs : List Nat} {i : Nat} (h : Swp l xs i) (hi : l.length / 2 ≤ i) : xs = l.reverse := by
 refine List.ext_getElem? fun j => ?_
 by_cases hj : j < l.length
 ·rw [h.2 j hj, List.getElem?_reverse hj]
  by_cases hc : j < i ∨ l.length - 1 - j < i
  ·rw [if_pos hc]
  ·rw [if_neg hc]
   have : l.length - 1 - j = j := by omega
   rw [this]
 ·rw [List.getElem?_eq_none (by rw [h.1]; omega), List.getElem?_eq_none (by simp; omega)]
theorem Swp.step {l xs : List Nat} {i a b : Nat} (h : Swp l xs i) (hi : i < l.length / 2) (ha : xs[l.length - 1 - i]? = some a) (hb : xs[i]? = some b) : Swp l ((xs.set i a).set (l.length - 1 - i) b) (i + 1) := by
 refine ⟨by simp [h.1], fun j hj => ?_⟩
 have h1 := h.2 i (by omega)
 have h2 := h.2 (l.length - 1 - i) (by omega)
 rw [hb, if_neg (by omega)] at h1
 rw [ha, if_neg (by omega)] at h2
 by_cases e1 : j = l.length - 1 - i
 ·subst e1
  rw [List.getElem?_set_self (by simp [h.1]; omega), if_pos (by omega), h1]
  congr 1; omega
 ·rw [List.getElem?_set_ne (by omega)]
  by_cases e2 : j = i
  ·subst e2
   rw [List.getElem?_set_self (by rw [h.1]; omega), if_pos (by omega), h2]
  ·rw [List.getElem?_set_ne (by omega), h.2 j hj]
   by_cases hc : j < i ∨ l.length - 1 - j < i
   ·rw [if_pos hc, if_pos (by omega)]
   ·rw [if_neg hc, if_neg (by omega)]
end Go.Proofs.YtbdnamcjhndpjaaGreatDoor
namespace Go.Proofs.YtbdnamcjhndpjaaGreatDoor
open Go.RowKit
end Go.Proofs.YtbdnamcjhndpjaaGreatDoor
namespace Go.Proofs.YtbdnamcjhndpjaaGreatDoor
open Go.RowKit
end Go.Proofs.YtbdnamcjhndpjaaGreatDoor
namespace Go.Proofs.YtbdnamcjhndpjaaGreatDoor
open Go.RowKit
def RI2 (w : World) (x y : Bool × Nat) (e : Ending) (w' : World) : Prop :=
 ∃ A n c A' n' c', e = .returned (.tuple #[.agg #[.bool x.1, .slice A n c], .agg #[.bool y.1, .slice A' n' c']]) ∧ Hid (n = (dg x.2).length) ∧ Hid (n' = (dg y.2).length) ∧ Rd w' A (B8 (dg x.2)) ∧ Rd w' A' (B8 (dg y.2)) ∧ Below w.heap.size w w'
end Go.Proofs.YtbdnamcjhndpjaaGreatDoor
namespace Go.Proofs.YtbdnamcjhndpjaaGreatDoor
open Go.RowKit
def Good (cs : List Nat) : Prop := cs.all isDig = true ∧ cs[0]? ≠ some 48
theorem Good.nil : Good [] := ⟨rfl, by simp⟩
theorem Good.snoc {cs : List Nat} {c : Nat} (h : Good cs) (h1 : 48 ≤ c) (h2 : c ≤ 57) (h3 : c ≠ 48 ∨ 0 < cs.length) : Good (cs ++ [c]) := by
 refine ⟨?_, ?_⟩
 ·rw [List.all_append, h.1]; simp [isDig, h1, h2]
 ·cases cs with
  | nil => simp at h3 ⊢; exact h3
  | cons d ds => have := h.2; simpa using this
theorem Good.take {cs : List Nat} (h : Good cs) (k : Nat) : Good (cs.take k) := by
 refine ⟨List.all_eq_true.2 fun c hc => List.all_eq_true.1 h.1 c (List.mem_of_mem_take hc), ?_⟩
 intro h'
 rw [List.getElem?_take] at h'
 split at h'
 ·exact h.2 h'
 ·cases h'
end Go.Proofs.YtbdnamcjhndpjaaGreatDoor
namespace Go.Proofs.YtbdnamcjhndpjaaGreatDoor
open Go.RowKit
end Go.Proofs.YtbdnamcjhndpjaaGreatDoor
namespace Go.Proofs.YtbdnamcjhndpjaaGreatDoor
open Go.RowKit
theorem boxes1 (w : World) (t : TypeId) (xs : List Value) : Hid (Arr (w.alloc (.cells xs.toArray t)) w.heap.size t xs) ∧ Below w.heap.size w (w.alloc (.cells xs.toArray t)) ∧ w.heap.size + 1 ≤ (w.alloc (.cells xs.toArray t)).heap.size :=
 ⟨Arr.new w t xs, (Below.refl _ _).alloc (Nat.le_refl _) _, by simp⟩
theorem tE_gt {x : Bool × Nat} (h : ¬ (dg x.2).length ≤ 400) : tE x = 6 := by unfold tE; rw [if_neg h]
theorem tS_gt {x : Bool × Nat} (h : ¬ (dg x.2).length ≤ 400) : tS x = [] := by unfold tS; rw [if_neg h]
end Go.Proofs.YtbdnamcjhndpjaaGreatDoor
namespace Go.Proofs.YtbdnamcjhndpjaaGreatDoor
open Go.RowKit
end Go.Proofs.YtbdnamcjhndpjaaGreatDoor
namespace Go.Proofs.YtbdnamcjhndpjaaGreatDoor
open Go.RowKit
end Go.Proofs.YtbdnamcjhndpjaaGreatDoor
