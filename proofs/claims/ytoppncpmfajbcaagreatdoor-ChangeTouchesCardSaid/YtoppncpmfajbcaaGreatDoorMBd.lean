/- The walks of canon's scalar, of, entries and acyclic, at graphs of one leaf. -/
import Derived.Test.YtoppncpmfajbcaaGreatDoorMAy
import Derived.Test.YtoppncpmfajbcaaGreatDoorMAz
import Derived.Test.YtoppncpmfajbcaaGreatDoorShelf
import Derived.Deep.QuietTactic
import Derived.BigQuiet
import Derived.Test.YtoppncpmfajbcaaGreatDoorMAn
import Derived.Maps.OwnSet
import Derived.DeepKeys4
import Derived.Test.YtoppncpmfajbcaaGreatDoorMAa
import Derived.Test.YtoppncpmfajbcaaGreatDoorMAr
import Derived.Test.YtoppncpmfajbcaaGreatDoorProg
import Derived.Deep.RegionHeld3
import Derived.IntWalk
import Derived.Deep.DrawnRows
import Derived.Test.YtoppncpmfajbcaaGreatDoorMAm
import Derived.Test.YtoppncpmfajbcaaGreatDoorMAb
import Derived.Test.YtoppncpmfajbcaaGreatDoorMBb
set_option linter.unusedVariables false
set_option linter.unusedSimpArgs false
set_option linter.defProp false
set_option linter.constructorNameAsVariable false
namespace Go.Proofs.YtoppncpmfajbcaaGreatDoor
open Go.RowKit
def sclV (s t : ByteArray) : Int := if s.toList = t.toList then 0 else Lib.compareBytes s.data.toList t.data.toList
set_option maxRecDepth 20000 in
set_option maxHeartbeats 4000000 in
theorem cscalar_any (s t : ByteArray) (w : World) : Calls Tryz.prog 99 #[.int .i64 5, .string s, .string t] w fun e w' => e = .returned (.int .i64 (sclV s t)) ∧ w' = w := by
 obtain ⟨v, hv⟩ : ∃ v, sclV s t = v := ⟨_, rfl⟩
 rw [hv]
 unfold sclV at hv
 by_cases h : s.toList = t.toList
 ·rw [if_pos h] at hv
  subst hv
  have hb : (s.toList == t.toList) = true := by simpa using h
  go_enter Tryz.func99, Tryz.ntmps99
  go_wp2_with (fail)
  go_ret
  exact ⟨rfl, rfl⟩
 ·rw [if_neg h] at hv
  have DC := Lib.hid (Tryz.strings_Compare s t)
  rw [hv] at DC
  clear hv
  have hb : (s.toList == t.toList) = false := by simpa using h
  go_enter Tryz.func99, Tryz.ntmps99
  go_wp2_with (go_at_call 125; ((with_reducible refine (DC.out _).mono ?_)); rintro e w2 ⟨rfl, rfl⟩)
  go_ret
  exact ⟨rfl, rfl⟩
structure TabR (w : World) (tb sb g c : Nat) : Prop where
 tab : Arr w tb 75 [.slice (some ⟨g, 0, none⟩) 1 c, .int .i64 0, .slice (some ⟨sb, 0, none⟩) 1 1]
 srt : Arr w sb 32 [.slice none 0 0]
theorem TabR.below {w w' : World} {B tb sb g c : Nat} (h : TabR w tb sb g c) (hb : Below B w w') (h1 : tb < B) (h2 : sb < B) : TabR w' tb sb g c := ⟨h.tab.below hb h1, h.srt.below hb h2⟩
theorem TabR.keep {w w' : World} {tb sb g c : Nat} (h : TabR w tb sb g c) (hb : Below w.heap.size w w') : TabR w' tb sb g c := ⟨h.tab.keep hb, h.srt.keep hb⟩
end Go.Proofs.YtoppncpmfajbcaaGreatDoor
namespace Go.Proofs.YtoppncpmfajbcaaGreatDoor
open Go.RowKit Go.Maps
def TextN (nodes : List GNode) (k : Nat) : Prop := k < nodes.length ∧ (ndAt nodes k).kind = 5 ∧ (ndAt nodes k).ord = false
theorem text_cells {w : World} {B g o : Nat} {nodes : List GNode} {k : Nat} (hG : GRd w B g o nodes) (hk : TextN nodes k) : w.cell? ⟨g, o + k * 5, none⟩ = some (.int .i64 5) ∧ w.cell? ⟨g, o + k * 5 + 1, none⟩ = some (.string (mks (ndAt nodes k).text)) ∧ w.cell? ⟨g, o + k * 5 + 2, none⟩ = some (.bool false) := by
 obtain ⟨K, ck, I, ci, c0, c1, c2, _⟩ := hG.of_at hk.1
 rw [hk.2.1] at c0
 rw [hk.2.2] at c2
 exact ⟨c0, c1, c2⟩
def RetQ (v : Int) (w : World) (e : Ending) (w' : World) : Prop := e = .returned (.int .i64 v) ∧ ∃ m, w' = w.drewN m
theorem drw_cell {w : World} {a : Addr} {u : Value} (n : Nat) (h : w.cell? a = some u) : (w.drewN n).cell? a = some u := h
set_option maxRecDepth 20000 in
set_option maxHeartbeats 8000000 in
theorem cdiffer_ne {B ta tb ga oa ca gb ob cb i j : Nat} {na nb : List GNode} (mv : Value) (hi : TextN na i) (hj : TextN nb j) (w : World) (hA : GRd w B ga oa na) (hB : GRd w B gb ob nb)
  (hTA : w.cell? ⟨ta, 0, none⟩ = some (.slice (some ⟨ga, oa, none⟩) na.length ca)) (hTB : w.cell? ⟨tb, 0, none⟩ = some (.slice (some ⟨gb, ob, none⟩) nb.length cb)) (hne : sclV (mks (ndAt na i).text) (mks (ndAt nb j).text) ≠ 0) :
  Calls Tryz.prog 77 #[.pointer (some ⟨ta, 0, none⟩), .int .i64 (i : Int), .pointer (some ⟨tb, 0, none⟩), .int .i64 (j : Int), mv] w (RetQ (sclV (mks (ndAt na i).text) (mks (ndAt nb j).text)) w) := by
 obtain ⟨a0, a1, a3⟩ := text_cells hA hi
 obtain ⟨b0, b1, b3⟩ := text_cells hB hj
 have t0 := hTA
 have u0 := hTB
 have i0 : (0 : Int) ≤ i := by omega
 have i1 : (i : Int) < na.length := by have := hi.1; omega
 have j0 : (0 : Int) ≤ j := by omega
 have j1 : (j : Int) < nb.length := by have := hj.1; omega
 generalize mks (ndAt na i).text = sx at *
 generalize mks (ndAt nb j).text = sy at *
 obtain ⟨r, hr⟩ : ∃ r, sclV sx sy = r := ⟨_, rfl⟩
 have DS := Lib.hid (fun w' => cscalar_any sx sy w')
 rw [hr] at DS hne ⊢
 generalize na.length = ln at *
 generalize nb.length = lm at *
 have hr1 : (r != 0) = true := by simpa using hne
 clear hr hA hB hTA hTB hi hj hne
 go_enter Tryz.func77, Tryz.ntmps77
 go_upto_region 1 with (fail)
 go_quiet (fail)
 have HD : Hid (∃ m, w.drewN nq = w.drewN m) := ⟨nq, rfl⟩
 replace a0 := drw_cell nq a0
 replace a1 := drw_cell nq a1
 replace a3 := drw_cell nq a3
 replace b0 := drw_cell nq b0
 replace b1 := drw_cell nq b1
 replace b3 := drw_cell nq b3
 replace t0 := drw_cell nq t0
 replace u0 := drw_cell nq u0
 generalize (w.drewN nq) = w1 at *
 go_upto_region 2 with (fail)
 go_quiet (fail)
 replace HD : Hid (∃ m, w1.drewN nq = w.drewN m) := by obtain ⟨m, hm⟩ := HD.out; exact ⟨m + nq, by rw [hm, World.drewN_drewN]⟩
 replace a0 := drw_cell nq a0
 replace a1 := drw_cell nq a1
 replace a3 := drw_cell nq a3
 replace b0 := drw_cell nq b0
 replace b1 := drw_cell nq b1
 replace b3 := drw_cell nq b3
 replace t0 := drw_cell nq t0
 replace u0 := drw_cell nq u0
 generalize (w1.drewN nq) = w2 at *
 go_upto_region 4 with (fail)
 go_quiet (fail)
 replace HD : Hid (∃ m, w2.drewN nq = w.drewN m) := by obtain ⟨m, hm⟩ := HD.out; exact ⟨m + nq, by rw [hm, World.drewN_drewN]⟩
 replace a0 := drw_cell nq a0
 replace a1 := drw_cell nq a1
 replace a3 := drw_cell nq a3
 replace b0 := drw_cell nq b0
 replace b1 := drw_cell nq b1
 replace b3 := drw_cell nq b3
 replace t0 := drw_cell nq t0
 replace u0 := drw_cell nq u0
 generalize (w2.drewN nq) = w3 at *
 go_upto_region 6 with (fail)
 go_quiet (fail)
 replace HD : Hid (∃ m, w3.drewN nq = w.drewN m) := by obtain ⟨m, hm⟩ := HD.out; exact ⟨m + nq, by rw [hm, World.drewN_drewN]⟩
 replace a0 := drw_cell nq a0
 replace a1 := drw_cell nq a1
 replace a3 := drw_cell nq a3
 replace b0 := drw_cell nq b0
 replace b1 := drw_cell nq b1
 replace b3 := drw_cell nq b3
 replace t0 := drw_cell nq t0
 replace u0 := drw_cell nq u0
 generalize (w3.drewN nq) = w4 at *
 go_upto_region 10 with (fail)
 go_quiet (((go_at_call 99; exact Calls.quiet_of_same (DS.out _))))
 replace HD : Hid (∃ m, w4.drewN nq = w.drewN m) := by obtain ⟨m, hm⟩ := HD.out; exact ⟨m + nq, by rw [hm, World.drewN_drewN]⟩
 replace a0 := drw_cell nq a0
 replace a1 := drw_cell nq a1
 replace a3 := drw_cell nq a3
 replace b0 := drw_cell nq b0
 replace b1 := drw_cell nq b1
 replace b3 := drw_cell nq b3
 replace t0 := drw_cell nq t0
 replace u0 := drw_cell nq u0
 generalize (w4.drewN nq) = w5 at *
 clear a0 a1 a3 b0 b1 b3 t0 u0
 go_wp2_with (fail)
 go_ret
 exact ⟨rfl, HD.out⟩
theorem look_nil (i j : Int) (w : World) : (Instr.lookup 120 (.map none) (.agg #[.int .i64 i, .int .i64 j]) true).run Tryz.prog w = .ok (.tuple #[.int .i64 0, .bool false]) w := by kernel_rfl
theorem neqm_nil (w : World) : (binOp BinOp.neq 120 (.map none) (.map none)).run Tryz.prog w = .ok (.bool false) w := by kernel_rfl
set_option maxRecDepth 20000 in
set_option maxHeartbeats 8000000 in
theorem ccompare_ne {B ta tb ga oa ca gb ob cb i j : Nat} {na nb : List GNode} (hi : TextN na i) (hj : TextN nb j) (w : World) (hA : GRd w B ga oa na) (hB : GRd w B gb ob nb)
  (hTA : w.cell? ⟨ta, 0, none⟩ = some (.slice (some ⟨ga, oa, none⟩) na.length ca)) (hTB : w.cell? ⟨tb, 0, none⟩ = some (.slice (some ⟨gb, ob, none⟩) nb.length cb)) (hne : sclV (mks (ndAt na i).text) (mks (ndAt nb j).text) ≠ 0) :
  Calls Tryz.prog 65 #[.pointer (some ⟨ta, 0, none⟩), .int .i64 (i : Int), .pointer (some ⟨tb, 0, none⟩), .int .i64 (j : Int), .map none] w (RetQ (sclV (mks (ndAt na i).text) (mks (ndAt nb j).text)) w) := by
 have D := Lib.hid (cdiffer_ne (.map none) hi hj w hA hB hTA hTB hne)
 have hl := look_nil (i : Int) (j : Int) w
 have hn := neqm_nil
 generalize sclV (mks (ndAt na i).text) (mks (ndAt nb j).text) = r at *
 clear hA hB hTA hTB hi hj hne
 go_enter Tryz.func65, Tryz.ntmps65
 go_wp2_with (go_at_call 77; ((with_reducible refine D.out.mono ?_)); rintro e w2 ⟨rfl, m, rfl⟩)
 go_ret
 exact ⟨rfl, m, rfl⟩
end Go.Proofs.YtoppncpmfajbcaaGreatDoor
namespace Go.Proofs.YtoppncpmfajbcaaGreatDoor
def swp (l : List Int) (j : Nat) : List Int := (l.set (j + 1) (l.getD j 0)).set j (l.getD (j + 1) 0)
def insJ (lt : Int → Int → Bool) : Nat → List Int → List Int
 | 0, l => l
 | j + 1, l => if lt (l.getD (j + 1) 0) (l.getD j 0) then insJ lt j (swp l j) else l
def insO (lt : Int → Int → Bool) : Nat → Nat → List Int → List Int
 | _, 0, l => l
 | i, m + 1, l => insO lt (i + 1) m (insJ lt i l)
def insS (lt : Int → Int → Bool) (l : List Int) : List Int := insO lt 1 (l.length - 1) l
theorem swp_len (l : List Int) (j : Nat) : (swp l j).length = l.length := by simp [swp]
theorem insJ_len (lt : Int → Int → Bool) (j : Nat) : ∀ l, (insJ lt j l).length = l.length := by
 induction j with
 | zero => intro l; rfl
 | succ j ih =>
  intro l
  unfold insJ
  split
  ·rw [ih, swp_len]
  ·rfl
theorem insO_len (lt : Int → Int → Bool) (m : Nat) : ∀ i l, (insO lt i m l).length = l.length := by
 induction m with
 | zero => intro i l; rfl
 | succ m ih => intro i l; unfold insO; rw [ih, insJ_len]
theorem insS_len (lt : Int → Int → Bool) (l : List Int) : (insS lt l).length = l.length := insO_len lt _ _ l
theorem swp_mem {l : List Int} {j : Nat} (h : j + 1 < l.length) {x : Int} (hx : x ∈ swp l j) : x ∈ l := by
 unfold swp at hx
 have h1 : l.getD (j + 1) 0 ∈ l := by rw [List.getD_eq_getElem?_getD, List.getElem?_eq_getElem h]; exact List.getElem_mem h
 have h2 : l.getD j 0 ∈ l := by rw [List.getD_eq_getElem?_getD, List.getElem?_eq_getElem (show j < l.length by omega)]; exact List.getElem_mem _
 rcases List.mem_or_eq_of_mem_set hx with h3 | rfl
 ·rcases List.mem_or_eq_of_mem_set h3 with h4 | rfl
  ·exact h4
  ·exact h2
 ·exact h1
theorem insJ_mem (lt : Int → Int → Bool) (j : Nat) : ∀ l, j < l.length → ∀ x ∈ insJ lt j l, x ∈ l := by
 induction j with
 | zero => intro l _ x hx; exact hx
 | succ j ih =>
  intro l hl x hx
  unfold insJ at hx
  split at hx
  ·exact swp_mem hl (ih _ (by rw [swp_len]; omega) x hx)
  ·exact hx
theorem insO_mem (lt : Int → Int → Bool) (m : Nat) : ∀ i l, i + m ≤ l.length → ∀ x ∈ insO lt i m l, x ∈ l := by
 induction m with
 | zero => intro i l _ x hx; exact hx
 | succ m ih =>
  intro i l hl x hx
  unfold insO at hx
  exact insJ_mem lt i l (by omega) x (ih (i + 1) _ (by rw [insJ_len]; omega) x hx)
theorem insS_mem (lt : Int → Int → Bool) (l : List Int) : ∀ x ∈ insS lt l, x ∈ l := fun x hx => by
 by_cases h : l.length = 0
 ·unfold insS at hx
  rw [h] at hx
  exact hx
 ·exact insO_mem lt _ _ l (by omega) x hx
theorem swp_nodup {l : List Int} {j : Nat} (h : j + 1 < l.length) (hn : l.Nodup) : (swp l j).Nodup := by
 have hp : (swp l j).Perm l := by
  unfold swp
  have e1 : l.getD j 0 = l[j] := by rw [List.getD_eq_getElem?_getD, List.getElem?_eq_getElem]; rfl
  have e2 : l.getD (j + 1) 0 = l[j + 1] := by rw [List.getD_eq_getElem?_getD, List.getElem?_eq_getElem]; rfl
  rw [e1, e2]
  rw [List.perm_iff_count]
  intro a
  rw [List.count_set (by simp; omega), List.count_set (by omega)]
  have : (l.set (j + 1) l[j])[j]'(by simp; omega) = l[j] := by rw [List.getElem_set_ne (by omega)]
  rw [this]
  by_cases ha : l[j] = a <;> by_cases hb : l[j + 1] = a <;> simp [ha, hb] <;> first | omega | (have := List.count_pos_iff.2 (ha ▸ List.getElem_mem (show j < l.length by omega)); omega) | (have := List.count_pos_iff.2 (hb ▸ List.getElem_mem h); omega)
 exact hp.nodup_iff.2 hn
end Go.Proofs.YtoppncpmfajbcaaGreatDoor
namespace Go.Proofs.YtoppncpmfajbcaaGreatDoor
open Go.RowKit
structure SortS (blk n : Nat) (g : FuncId) (x y : Nat) (cf : Int → Int → Int) (S : List Int → World → Prop) : Prop where
 len : ∀ l w, S l w → l.length = n
 cell : ∀ l w i, S l w → i < n → w.cell? ⟨blk, i, none⟩ = some (.int .i64 (l.getD i 0)) ∧ w.frozen? ⟨blk, i, none⟩ = false
 swap : ∀ l w j, S l w → j + 1 < n → S (swp l j) ((w.setCell ⟨blk, j + 1, none⟩ (.int .i64 (l.getD j 0))).setCell ⟨blk, j, none⟩ (.int .i64 (l.getD (j + 1) 0)))
 drew : ∀ l w k, S l w → S l (w.drewN k)
 cmp : ∀ l w j, S l w → j + 1 < n → Calls Tryz.prog g #[.int .i64 (l.getD (j + 1) 0), .int .i64 (l.getD j 0), .pointer (some ⟨x, 0, none⟩), .pointer (some ⟨y, 0, none⟩)] w fun e w' => e = .returned (.int .i64 (cf (l.getD (j + 1) 0) (l.getD j 0))) ∧ S l w'
set_option maxRecDepth 100000 in
set_option maxHeartbeats 4000000 in
theorem insertion_e {blk c n x y : Nat} {cf : Int → Int → Int} {S : List Int → World → Prop} (hS : SortS blk n 64 x y cf S) (hn : n ≤ 12) (l : List Int) (w : World) (h : S l w) :
  Calls Tryz.prog 89 #[.slice (some ⟨blk, 0, none⟩) n c, .int .i64 0, .int .i64 (n : Int), .func (.func 64) #[] #[.pointer (some ⟨x, 0, none⟩), .pointer (some ⟨y, 0, none⟩)]] w fun e w' => e = .returned (.tuple #[]) ∧ S (insS (fun a b => decide (cf a b < 0)) l) w' := by
 obtain ⟨R, hR⟩ : ∃ R, insS (fun a b => decide (cf a b < 0)) l = R := ⟨_, rfl⟩
 have h0 : Hid (insO (fun a b => decide (cf a b < 0)) 1 (n - 1) l = R) := by show _ = _; rw [← hR]; unfold insS; rw [hS.len l w h]
 have HS := Lib.hid hS
 have H0 := Lib.hid h
 rw [hR]
 clear hR hS h
 go_enter Tryz.func89, Tryz.ntmps89
 go_wp2_with (fail)
 go_loopw [8] (fun v wr => ∃ (i : Nat) (l1 : List Int), v = .int .i64 (i : Int) ∧ 1 ≤ i ∧ i ≤ n + 1 ∧ Hid (S l1 wr) ∧ Hid (insO (fun a b => decide (cf a b < 0)) i (n - i) l1 = R)) (fun v _ => 13 - (intOf v).toNat)
 case atStart => exact ⟨1, l, by go_num, Nat.le_refl _, by omega, H0, h0⟩
 case round =>
  clear H0 h0
  obtain ⟨i, l1, rfl, hi1, hin, h1, h2⟩ := hrel
  by_cases hlt : i < n
  ·have hlt' : (i : Int) < n := by omega
   have h3 : Hid (insO (fun a b => decide (cf a b < 0)) (i + 1) (n - (i + 1)) (insJ (fun a b => decide (cf a b < 0)) i l1) = R) := by
    show _ = _
    rw [← h2.out, show n - i = (n - (i + 1)) + 1 by omega]; rfl
   clear h2
   go_wp2_with (fail)
   go_loopw [9] (fun v wr2 => ∃ (j : Nat) (l2 : List Int), v = .int .i64 (j : Int) ∧ j ≤ i ∧ Hid (S l2 wr2) ∧ Hid (insO (fun a b => decide (cf a b < 0)) (i + 1) (n - (i + 1)) (insJ (fun a b => decide (cf a b < 0)) j l2) = R)) (fun v _ => (intOf v).toNat)
   case atStart => exact ⟨i, l1, rfl, Nat.le_refl _, h1, h3⟩
   case round =>
    clear h1 h3
    obtain ⟨j, l2, rfl, hji, h4, h5⟩ := hrel
    obtain ⟨w2, hw2⟩ : ∃ x : World, x = wr := ⟨_, rfl⟩
    subst hw2
    by_cases hj0 : j = 0
    ·have hd : decide (0 < j) = false := decide_eq_false (by omega)
     have h6 : Hid (insO (fun a b => decide (cf a b < 0)) (i + 1) (n - (i + 1)) l2 = R) := by
      show _ = _
      rw [← h5.out, hj0]; rfl
     clear h5 hj0
     go_upto_region 4 with (fail)
     go_quiet (fail)
     have h7 := Lib.hid (HS.out.drew _ _ nq h4.out)
     generalize w2.drewN nq = w3 at *
     go_wp2_with (fail)
     go_roundw
     case rel => exact ⟨i + 1, l2, i64e (by omega), by omega, by omega, h7, h6⟩
     case measure => simp [intOf]; omega
    ·obtain ⟨jp, hjp⟩ : ∃ jp, j = jp + 1 := ⟨j - 1, by omega⟩
     have hjn : jp + 1 < n := by omega
     have D := Lib.hid (HS.out.cmp l2 w2.drew jp (HS.out.drew l2 w2 1 h4.out) hjn)
     obtain ⟨c1, f1⟩ := HS.out.cell l2 w2.drew (jp + 1) (HS.out.drew l2 w2 1 h4.out) hjn
     obtain ⟨c0, f0⟩ := HS.out.cell l2 w2.drew jp (HS.out.drew l2 w2 1 h4.out) (by omega)
     go_upto_region 4 with (fail)
     obtain ⟨X, hX⟩ : ∃ X, l2.getD jp 0 = X := ⟨_, rfl⟩
     obtain ⟨Y, hY⟩ : ∃ Y, l2.getD (jp + 1) 0 = Y := ⟨_, rfl⟩
     obtain ⟨r, hr⟩ : ∃ r, cf Y X = r := ⟨_, rfl⟩
     have HX := Lib.hid hX
     have HY := Lib.hid hY
     have HR := Lib.hid hr
     rw [hX, hY, hr] at D
     rw [hX] at c0
     rw [hY] at c1
     have h8 : Hid (insJ (fun a b => decide (cf a b < 0)) j l2 = if r < 0 then insJ (fun a b => decide (cf a b < 0)) jp (swp l2 jp) else l2) := by
      show _ = _
      rw [hjp, insJ, HX.out, HY.out, ← HR.out]
      simp
     rw [← hjp] at c1 f1
     have HJP := Lib.hid hjp
     have hd : decide (0 < j) = true := decide_eq_true (by omega)
     have hp0 : (0 : Int) ≤ (jp : Int) := by omega
     have hp1 : (jp : Int) < (n : Int) := by omega
     have hq0 : (0 : Int) ≤ (j : Int) := by omega
     have hq1 : (j : Int) < (n : Int) := by omega
     have hw : IntKind.i64.wrap ((j : Int) - 1) = (jp : Int) := by rw [IntWalk.i64_in _ (by omega)]; omega
     have hjn' : j < n := by omega
     have hjpn : jp < n := by omega
     clear hX hY hr h4 hjp hj0
     go_region_held3 (fun w' => w'.cell? ⟨blk, j, none⟩ = some (.int .i64 Y) ∧ w'.cell? ⟨blk, jp, none⟩ = some (.int .i64 X)) (first | exact ⟨by assumption, by assumption⟩ | go_keep) ((go_at_call 64; ((with_reducible refine D.out.mono ?_)); rintro e w5 ⟨rfl, hS5⟩; have hS5' := Lib.hid hS5; obtain ⟨c1', f1'⟩ := HS.out.cell l2 w5 j hS5 hjn'; obtain ⟨c0', f0'⟩ := HS.out.cell l2 w5 jp hS5 hjpn; rw [HX.out] at c0'; rw [HJP.out, HY.out, ← HJP.out] at c1'))
     clear c0 c1 f0 f1 D
     by_cases hr0 : r < 0
     ·have h9 : Hid (insO (fun a b => decide (cf a b < 0)) (i + 1) (n - (i + 1)) (insJ (fun a b => decide (cf a b < 0)) jp (swp l2 jp)) = R) := by
       have h := h8.out
       rw [if_pos hr0] at h
       show _ = _
       rw [← h]; exact h5.out
      have h10 : Hid (S (swp l2 jp) ((w5.drew.setCell ⟨blk, j, none⟩ (.int .i64 X)).setCell ⟨blk, jp, none⟩ (.int .i64 Y))) := by
       have h := HS.out.swap l2 w5.drew jp (HS.out.drew l2 w5 1 hS5'.out) hjn
       rw [HX.out, HY.out, ← HJP.out] at h
       exact h
      have e0 : w5.drew.cell? ⟨blk, jp, none⟩ = some (.int .i64 X) := c0'
      have e1 : w5.drew.cell? ⟨blk, j, none⟩ = some (.int .i64 Y) := c1'
      have e2 : w5.drew.frozen? ⟨blk, jp, none⟩ = false := f0'
      have e3 : w5.drew.frozen? ⟨blk, j, none⟩ = false := f1'
      have hjne : ¬ jp = j := by have := HJP.out; omega
      have hjne2 : ¬ j = jp := by have := HJP.out; omega
      have hji2 : jp ≤ i := by have := HJP.out; omega
      clear h8 h5 hS5' e0 e1 e2 e3
      go_upto_region 6 with (fail)
      go_region
      go_wp2_with (fail)
      go_roundw
      case rel => exact ⟨jp, swp l2 jp, rfl, hji2, h10, h9⟩
      case measure => have := HJP.out; clear hw; simp [intOf]; omega
     ·have h9 : Hid (insO (fun a b => decide (cf a b < 0)) (i + 1) (n - (i + 1)) l2 = R) := by
       have h := h8.out
       rw [if_neg hr0] at h
       show _ = _
       rw [← h5.out, h]
      clear h8 h5 c0' c1' f0' f1'
      go_wp2_with (fail)
      go_roundw
      case rel => exact ⟨i + 1, l2, i64e (by omega), by omega, by omega, hS5', h9⟩
      case measure => simp [intOf]; omega
  ·go_wp2_with (fail)
   go_end0
   refine ⟨rfl, ?_⟩
   have h3 := h2.out
   rw [show n - i = 0 by omega] at h3
   rw [← h3]
   exact h1.out
end Go.Proofs.YtoppncpmfajbcaaGreatDoor
namespace Go.Proofs.YtoppncpmfajbcaaGreatDoor
open Go.RowKit
set_option maxRecDepth 20000 in
theorem bits_len (n : Nat) (hn : n ≤ 12) (w : World) : Calls Tryz.prog 76 #[.int .u64 (n : Int)] w fun e w' => e = .returned (.int .i64 (Lib.bitLen n)) ∧ w = w' := by
 have D := Lib.hid (Tryz.bits_Len64 (n : Int) w (by omega) (by omega))
 rw [Int.toNat_natCast] at D
 generalize Lib.bitLen n = b at *
 go_enter Tryz.func76, Tryz.ntmps76
 go_wp2_with (go_at_call 98; ((with_reducible refine D.out.mono ?_)); rintro e w5 ⟨rfl, rfl⟩)
 go_ret
 exact ⟨rfl, rfl⟩
set_option maxRecDepth 100000 in
set_option maxHeartbeats 4000000 in
theorem pdq_e {blk c n x y : Nat} {lim : Int} {cf : Int → Int → Int} {S : List Int → World → Prop} (hS : SortS blk n 64 x y cf S) (hn : n ≤ 12) (l : List Int) (w : World) (h : S l w) :
  Calls Tryz.prog 75 #[.slice (some ⟨blk, 0, none⟩) n c, .int .i64 0, .int .i64 (n : Int), .int .i64 lim, .func (.func 64) #[] #[.pointer (some ⟨x, 0, none⟩), .pointer (some ⟨y, 0, none⟩)]] w fun e w' => e = .returned (.tuple #[]) ∧ S (insS (fun a b => decide (cf a b < 0)) l) w' := by
 have D := Lib.hid (insertion_e (c := c) hS hn l w h)
 generalize insS (fun a b => decide (cf a b < 0)) l = R at *
 have hn' : (n : Int) ≤ 12 := by omega
 clear hS h
 go_enter Tryz.func75, Tryz.ntmps75
 go_wp2_with (fail)
 refine wp_loop_rounds 1 ?_
 rw [rounds_succ]
 go_wp2_with (go_at_call 89; ((with_reducible refine D.out.mono ?_)); rintro e w5 ⟨rfl, h5⟩)
 (try simp only [Exit.inBlock, Exit.then])
 refine bodyPost_ret (results_none rfl _ _ _) rfl ?_
 exact ⟨rfl, h5⟩
set_option maxRecDepth 100000 in
set_option maxHeartbeats 4000000 in
theorem sortf_e {blk c n x y : Nat} {cf : Int → Int → Int} {S : List Int → World → Prop} (hS : SortS blk n 64 x y cf S) (hn : n ≤ 12) (l : List Int) (w : World) (h : S l w) :
  Calls Tryz.prog 63 #[.slice (some ⟨blk, 0, none⟩) n c, .func (.func 64) #[] #[.pointer (some ⟨x, 0, none⟩), .pointer (some ⟨y, 0, none⟩)]] w fun e w' => e = .returned (.tuple #[]) ∧ S (insS (fun a b => decide (cf a b < 0)) l) w' := by
 have D := Lib.hid (fun lim => pdq_e (c := c) (lim := lim) hS hn l w h)
 generalize insS (fun a b => decide (cf a b < 0)) l = R at *
 have hn' : (n : Int) ≤ 12 := by omega
 have hlen := Lib.hid (bits_len n hn)
 clear hS h
 go_enter Tryz.func63, Tryz.ntmps63
 go_wp2_with (first | (go_at_call 76; ((with_reducible refine (hlen.out _).mono ?_)); rintro e w5 ⟨rfl, rfl⟩) | (go_at_call 75; ((with_reducible refine (D.out _).mono ?_)); rintro e w6 ⟨rfl, h6⟩))
 go_end0
 exact ⟨rfl, h6⟩
end Go.Proofs.YtoppncpmfajbcaaGreatDoor
namespace Go.Proofs.YtoppncpmfajbcaaGreatDoor
open Go.RowKit Go.Maps
open Go.WideMaps (KeyLaw)
end Go.Proofs.YtoppncpmfajbcaaGreatDoor
namespace Go.Proofs.YtoppncpmfajbcaaGreatDoor
open Go.RowKit Go.Maps
attribute [local go_sem ↓] Go.wp_at_zero Go.wp_at_succ
end Go.Proofs.YtoppncpmfajbcaaGreatDoor
namespace Go.Proofs.YtoppncpmfajbcaaGreatDoor
open Go.RowKit
def InR (N : Nat) (xs : List Int) : Prop := ∀ x ∈ xs, 0 ≤ x ∧ x < (N : Int)
end Go.Proofs.YtoppncpmfajbcaaGreatDoor
namespace Go.Proofs.YtoppncpmfajbcaaGreatDoor
open Go.RowKit
structure LeafT (nd : GNode) : Prop where
 ok : ChkOK [nd] 0
 keys : nd.keys = []
 items : nd.items = []
 kind : nd.kind = 5
 ord : nd.ord = false
def KeyM (w : World) (B ks i : Nat) (nd : GNode) : Prop := ∃ nb c, w.cell? ⟨ks, i * 2, none⟩ = some (.slice (some ⟨nb, 0, none⟩) 1 c) ∧ w.cell? ⟨ks, i * 2 + 1, none⟩ = some (.int .i64 0) ∧ w.ownsRow B 34 5 (.slice (some ⟨nb, 0, none⟩) 1 c) 1 (kleafC nd)
structure KeysW (N0 g0 B ks kb m : Nat) (wb w : World) : Prop where
 lib : LibE w
 lo : Below B wb w
 box : w.cell? ⟨kb, 0, none⟩ = some (.slice (some ⟨ks, 0, none⟩) m m)
 bl : kb < N0 ∧ kb ≠ g0 ∧ ks < N0 ∧ ks ≠ g0
 key : ∀ i, i < m → ∃ nd, LeafT nd ∧ KeyM w (g0 + 1) ks i nd ∧ (∀ nb c, w.cell? ⟨ks, i * 2, none⟩ = some (.slice (some ⟨nb, 0, none⟩) 1 c) → nb < N0)
theorem KeysW.keep {N0 g0 B ks kb m : Nat} {wb w w' : World} (h : KeysW N0 g0 B ks kb m wb w) (hB : B = wb.heap.size) (hE : LibE wb) (h1 : B ≤ N0) (h2 : B ≤ g0) (hk : KP N0 g0 w w') : KeysW N0 g0 B ks kb m wb w' where
 lib := by
  have := h.lo.trans (hk.below h1 h2)
  rw [hB] at this
  exact hE.keep this
 lo := h.lo.trans (hk.below h1 h2)
 box := hk.cell h.box h.bl.1 h.bl.2.1
 bl := h.bl
 key := fun i hi => by
  obtain ⟨nd, hl, ⟨nb, c, k0, k1, k2⟩, hn⟩ := h.key i hi
  have q0 := hk.cell k0 h.bl.2.2.1 h.bl.2.2.2
  refine ⟨nd, hl, ⟨nb, c, q0, hk.cell k1 h.bl.2.2.1 h.bl.2.2.2, hk.own k2 fun g e => ?_⟩, fun nb' c' e => ?_⟩
  ·have := Option.some.inj e
   subst this
   exact ⟨hn _ _ k0, by have h3 : g0 + 1 ≤ nb := (k2.lt nb rfl).1; show nb ≠ g0; omega⟩
  ·rw [q0] at e
   injection e with e
   injection e with e1 e2 e3
   injection e1 with e1
   injection e1 with e1
   subst e1
   exact hn _ _ k0
end Go.Proofs.YtoppncpmfajbcaaGreatDoor
