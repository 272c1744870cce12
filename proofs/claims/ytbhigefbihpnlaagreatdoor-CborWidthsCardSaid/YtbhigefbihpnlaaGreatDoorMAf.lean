/- The walks of limit, sign, digits of decimal. -/
import Derived.Test.YtbhigefbihpnlaaGreatDoorMAe
import Derived.Test.YtbhigefbihpnlaaGreatDoorMAd
import Derived.Test.YtbhigefbihpnlaaGreatDoorMAa
import Derived.Lib.MapLaws
import Derived.Lib.IndexMore
import Derived.Lib.ItoaNum
import Derived.Test.YtbhigefbihpnlaaGreatDoorShelf
import Derived.Lib.ItoaLen
import Derived.Lib.AppendIntMem
import Derived.Lib.OthersKept
import Derived.Lib.Builder
import Derived.Laws.Externs
import Derived.Lib.RuneCountTail
set_option linter.unusedVariables false
set_option linter.unusedSimpArgs false
set_option linter.defProp false
set_option linter.constructorNameAsVariable false
namespace Go.Proofs.YtbhigefbihpnlaaGreatDoor
open Go.RowKit
def limV (x : Bool × List Nat × Int) : Int := if 400 < x.2.1.length then 6 else if x.2.2 < -2000 ∨ 2000 < x.2.2 then 2 else 0
set_option maxHeartbeats 1000000 in
theorem limit_any (x : Bool × List Nat × Int) (A : Option Addr) (n c : Nat) (w : World) (hn : Hid (n = x.2.1.length)) :
  Calls Tryz.prog 117 #[.agg #[.bool x.1, .slice A n c, .int .i64 x.2.2]] w fun e w' => e = .returned (.int .i64 (limV x)) ∧ Below w.heap.size w w' := by
 have hv : limV x = if 400 < n then 6 else if x.2.2 < -2000 ∨ 2000 < x.2.2 then 2 else 0 := by unfold limV; rw [hn.out]
 rw [hv]
 have HX := Arr.new w 162 [.bool x.1, .slice A n c, .int .i64 x.2.2]
 have HBd : Below w.heap.size w (w.alloc (.cells #[.bool x.1, .slice A n c, .int .i64 x.2.2] 162)) := (Below.refl _ _).alloc (Nat.le_refl _) _
 have x0 := HX.cell' (i := 0) rfl
 have x1 := HX.cell' (i := 1) rfl
 have x2 := HX.cell' (i := 2) rfl
 clear hv
 go_enter Tryz.func117, Tryz.ntmps117
 go_upto_region 1 with (fail)
 generalize (w.alloc (.cells #[.bool x.1, .slice A n c, .int .i64 x.2.2] 162)) = W at *
 go_wp2
 all_goals
  go_ret
  refine ⟨ret_i ?_, HBd⟩
  (repeat' split) <;> omega
def signL (neg : Bool) : List Nat := if neg then [45] else []
set_option maxHeartbeats 1000000 in
theorem sign_any (x : Bool × List Nat × Int) (A : Option Addr) (n c : Nat) (w : World) :
  Calls Tryz.prog 191 #[.agg #[.bool x.1, .slice A n c, .int .i64 x.2.2]] w fun e w' => e = .returned (.string (mks (signL x.1))) ∧ Below w.heap.size w w' := by
 have HX := Arr.new w 162 [.bool x.1, .slice A n c, .int .i64 x.2.2]
 have HBd : Below w.heap.size w (w.alloc (.cells #[.bool x.1, .slice A n c, .int .i64 x.2.2] 162)) := (Below.refl _ _).alloc (Nat.le_refl _) _
 have x0 := HX.cell' (i := 0) rfl
 go_enter Tryz.func191, Tryz.ntmps191
 go_upto_region 1 with (fail)
 generalize (w.alloc (.cells #[.bool x.1, .slice A n c, .int .i64 x.2.2] 162)) = W at *
 obtain ⟨neg, d, ex⟩ := x
 cases neg
 all_goals
  go_wp2
  go_ret
  exact ⟨rfl, HBd⟩
theorem asc_set {d : List Nat} {k c : Nat} (hd : d[k]? = some c) : ((asc (d.take k) ++ List.replicate (d.length - k) 0).set k (48 + c)) = asc (d.take (k + 1)) ++ List.replicate (d.length - (k + 1)) 0 := by
 have h := List.getElem?_eq_some_iff.1 hd
 have hk := h.1
 have e1 : List.replicate (d.length - k) 0 = 0 :: List.replicate (d.length - (k + 1)) 0 := by
  rw [← List.replicate_succ]; congr 1; omega
 rw [e1, set_mid (by simp [asc]; omega), List.take_succ_eq_append_getElem h.1, h.2]
 simp [asc]
set_option maxRecDepth 8000 in
set_option maxHeartbeats 1000000 in
theorem digits_any (neg : Bool) (d : List Nat) (ex : Int) (A : Option Addr) (n c : Nat) (w : World) (hn : Hid (n = d.length)) (hr : Rd w A (B8 d)) (ht : Ten d) (hm : n ≤ 4294967296) :
  Calls Tryz.prog 192 #[.agg #[.bool neg, .slice A n c, .int .i64 ex]] w fun e w' => e = .returned (.string (mks (asc d))) ∧ Below w.heap.size w w' := by
 have HX := Lib.hid (Arr.new w 162 [.bool neg, .slice A n c, .int .i64 ex])
 have HBd : Below w.heap.size w (w.alloc (.cells #[.bool neg, .slice A n c, .int .i64 ex] 162)) := (Below.refl _ _).alloc (Nat.le_refl _) _
 go_enter Tryz.func192, Tryz.ntmps192
 go_upto_region 1 with (fail)
 have hlow : w.heap.size < (w.alloc (.cells #[.bool neg, .slice A n c, .int .i64 ex] 162)).heap.size := HX.out.lt
 generalize (w.alloc (.cells #[.bool neg, .slice A n c, .int .i64 ex] 162)) = W at *
 have x1 := HX.out.cell' (i := 1) rfl
 go_wp2_with (at_make; go_loud (refine wpList_mk rfl _ _ 23 rfl 5 _ _ Tryz.underlying23 Tryz.info5 rfl _ _ _ _ rfl rfl (n) (n) (by omega) (by omega) (by omega) (by omega) (by unfold maxLen; omega) ?_; intro g w1 hg harr hbl hsz; have x1' := (HX.out.keep hbl).cell' (i := 1) rfl))
 have hS1 : Hid (Arr w1 g 5 (B8 (asc (d.take 0) ++ List.replicate (d.length - 0) 0))) := by
  have h := harr.out
  show Arr _ _ _ _
  have e : B8 (asc (d.take 0) ++ List.replicate (d.length - 0) 0) = List.replicate n (.int .u8 0) := by simp [asc, B8, hn.out]
  rw [e]; exact h
 have hB1 : Below w.heap.size w w1 := HBd.trans (hbl.mono (by omega))
 have hwg : w.heap.size ≤ g := by have := hg.out; omega
 clear harr hsz x1 hbl
 try clear x1'
 go_loopw [13] (fun iv wr => ∃ k : Nat, k ≤ n ∧ iv = .int .i64 (k : Int) ∧ Hid (Arr wr g 5 (B8 (asc (d.take k) ++ List.replicate (d.length - k) 0))) ∧ Below w.heap.size w wr) (fun iv _ => n - (intOf iv).toNat)
 case atStart => exact ⟨0, by omega, rfl, hS1, hB1⟩
 case round =>
  clear hS1 hB1
  obtain ⟨k, hk, rfl, ha, hb⟩ := hrel
  by_cases hlt : k < n
  ·obtain ⟨x, hx⟩ : ∃ x, d[k]? = some x := ⟨_, List.getElem?_eq_getElem (by have := hn.out; omega)⟩
   have cb := ht.get hx
   obtain ⟨ad, rfl, hcell0⟩ := hr.at_ (B8_get hx)
   have hcell := (hb.cell (block_lt_of_cell hcell0)).trans hcell0
   have hget : (asc (d.take k) ++ List.replicate (d.length - k) 0)[k]? = some 0 := by
    have := hn.out
    rw [List.getElem?_append_right (by simp [asc]; omega), List.getElem?_replicate, if_pos (by simp [asc]; omega)]
   have hc2 := ha.out.cell' (B8_get hget)
   have hfr := ha.out.frozen k
   have hst := ha.out.store k (.int .u8 ((48 + x : Nat) : Int))
   rw [B8_set, asc_set hx] at hst
   have ecast : ((48 + x : Nat) : Int) = 48 + (x : Int) := by omega
   rw [ecast] at hst
   have HST := Lib.hid hst
   have hB2 := hb.setCell (p := ⟨g, k, none⟩) (by show w.heap.size ≤ g; omega) (.int .u8 (48 + (x : Int)))
   clear hst ecast hget hx hcell0
   go_wp2
   go_roundw
   case rel => exact ⟨k + 1, by omega, by go_num, HST, hB2⟩
   case measure => simp [intOf]; omega
  ·obtain rfl : k = n := by omega
   have hrd := ha.out.rd
   have hkn := hn.out
   rw [List.take_of_length_le (by omega), show d.length - k = 0 by omega, List.replicate_zero, List.append_nil] at hrd
   have hcv := run_str (P := Tryz.prog) wr 23 9 5 Tryz.underlying23 Tryz.underlying5 Tryz.underlying9 (some ⟨g, 0, none⟩) k k _ hrd (by simp [asc]; omega)
   clear hkn hrd ha
   go_wp2
   go_ret
   exact ⟨rfl, hb⟩
end Go.Proofs.YtbhigefbihpnlaaGreatDoor
namespace Go.Proofs.YtbhigefbihpnlaaGreatDoor
open Go.RowKit
def coefL (neg : Bool) (d : List Nat) : List Nat := if d = [] then [48] else signL neg ++ asc d
set_option maxRecDepth 8000 in
set_option maxHeartbeats 2000000 in
theorem coef_any (neg : Bool) (d : List Nat) (ex : Int) (A : Option Addr) (n c : Nat) (w : World) (hn : Hid (n = d.length)) (hr : Rd w A (B8 d)) (ht : Ten d) (hm : n ≤ 4294967296) :
  Calls Tryz.prog 159 #[.agg #[.bool neg, .slice A n c, .int .i64 ex]] w fun e w' => e = .returned (.string (mks (coefL neg d))) ∧ Below w.heap.size w w' := by
 generalize hcl : coefL neg d = cl
 have HCL := Lib.hid hcl
 clear hcl
 have HX := Lib.hid (Arr.new w 162 [.bool neg, .slice A n c, .int .i64 ex])
 have HBd : Below w.heap.size w (w.alloc (.cells #[.bool neg, .slice A n c, .int .i64 ex] 162)) := (Below.refl _ _).alloc (Nat.le_refl _) _
 have hrW := hr.keep HBd
 go_enter Tryz.func159, Tryz.ntmps159
 go_upto_region 1 with (fail)
 have hlow : w.heap.size < (w.alloc (.cells #[.bool neg, .slice A n c, .int .i64 ex] 162)).heap.size := HX.out.lt
 generalize (w.alloc (.cells #[.bool neg, .slice A n c, .int .i64 ex] 162)) = W at *
 have x1 := HX.out.cell' (i := 1) rfl
 by_cases hd : d = []
 ·subst hd
  have hn0 : n = 0 := by have := hn.out; simpa using this
  subst hn0
  have hc : cl = [48] := HCL.out.symm
  subst hc
  have e48 : (ByteArray.mk #[48] : ByteArray) = mks [48] := mks_lit1 48
  go_wp2
  go_ret
  exact ⟨rfl, HBd⟩
 ·have hc : cl = signL neg ++ asc d := by rw [← HCL.out]; unfold coefL; rw [if_neg hd]
  subst hc
  clear HCL
  have hn0 : ((n : Int) == 0) = false := by
   have h1 := hn.out
   have h2 : 0 < d.length := List.length_pos_iff.2 hd
   simp; omega
  go_upto_region 3 with (fail)
  obtain ⟨zz, hzz⟩ : ∃ zz, Hid (W.heap.size = zz) := ⟨_, rfl⟩
  have hz1 : w.heap.size < zz := by have := hzz.out; omega
  have hz2 : zz ≤ W.heap.size := by have := hzz.out; omega
  have RX : ∀ w', Below zz W w' → Rd w' A (B8 d) := fun w' h => hrW.keep (by rw [hzz.out]; exact h)
  have q0 : ∀ w', Below zz W w' → w'.cell? ⟨w.heap.size, 0, none⟩ = some (.bool neg) := fun w' h => (Arr.below (w := W) HX.out h (by omega)).cell' (i := 0) rfl; have qf0 : ∀ w', Below zz W w' → w'.frozen? ⟨w.heap.size, 0, none⟩ = false := fun w' h => (Arr.below (w := W) HX.out h (by omega)).frozen 0; have q1 : ∀ w', Below zz W w' → w'.cell? ⟨w.heap.size, 1, none⟩ = some (.slice A n c) := fun w' h => (Arr.below (w := W) HX.out h (by omega)).cell' (i := 1) rfl; have qf1 : ∀ w', Below zz W w' → w'.frozen? ⟨w.heap.size, 1, none⟩ = false := fun w' h => (Arr.below (w := W) HX.out h (by omega)).frozen 1; have q2 : ∀ w', Below zz W w' → w'.cell? ⟨w.heap.size, 2, none⟩ = some (.int .i64 ex) := fun w' h => (Arr.below (w := W) HX.out h (by omega)).cell' (i := 2) rfl; have qf2 : ∀ w', Below zz W w' → w'.frozen? ⟨w.heap.size, 2, none⟩ = false := fun w' h => (Arr.below (w := W) HX.out h (by omega)).frozen 2
  have E1 : Hid (∀ w, Calls Tryz.prog 191 #[.agg #[.bool neg, .slice A n c, .int .i64 ex]] w fun e w' => e = .returned (.string (mks (signL neg))) ∧ Below w.heap.size w w') := fun w => sign_any (neg, d, ex) A n c w
  have E2 : Hid (∀ w, Below zz W w → Calls Tryz.prog 192 #[.agg #[.bool neg, .slice A n c, .int .i64 ex]] w fun e w' => e = .returned (.string (mks (asc d))) ∧ Below w.heap.size w w') := fun w h => digits_any neg d ex A n c w hn (RX w h) ht hm
  have HS : Below zz W W := Below.refl _ _
  have HSd : Below zz W W.drew := Below.drew HS
  have hz3 : zz ≤ W.drew.heap.size := hz2
  have hl1 : (signL neg).length ≤ 1 := by cases neg <;> decide
  have hl2 : (asc d).length ≤ 4294967296 := by have := hn.out; simp [asc]; omega
  have hl3 : ¬ 9223372036854775807 < (signL neg).length + (asc d).length := by omega
  clear RX hr hrW x1
  go_region_held3 (fun w' => Below zz W w') (assumption) (first | (go_at_call 191; ((with_reducible refine (E1.out _).mono ?_)); (all_goals try (fail)); rintro e w5 ⟨rfl, hb5⟩; have z5 := hb5.size; (try simp at z5); have hS5_0 : Below zz W w5 := Below.trans (by first | assumption | exact Below.alloc (by assumption) (by first | omega | (simp; omega)) _ | exact Below.allocDrew (by assumption) (by first | omega | (simp; omega)) _) (hb5.mono (by first | omega | (simp; omega)))) | (go_at_call 192; ((with_reducible refine (E2.out _ (by assumption)).mono ?_)); (all_goals try (fail)); rintro e w6 ⟨rfl, hb6⟩; have z6 := hb6.size; (try simp at z6); have hS6_0 : Below zz W w6 := Below.trans (by first | assumption | exact Below.alloc (by assumption) (by first | omega | (simp; omega)) _ | exact Below.allocDrew (by assumption) (by first | omega | (simp; omega)) _) (hb6.mono (by first | omega | (simp; omega)))))
  all_goals
   go_wp2
   go_ret
   refine ⟨rfl, HBd.trans ?_⟩
   have hdw : W.drew.heap.size = W.heap.size := rfl
   have hW : Below w.heap.size W W.drew := Below.drew (Below.refl _ _)
   first
    | exact (hW.trans (hb5.mono (by omega))).trans (hb6.mono (by omega))
    | exact (hW.trans (hb6.mono (by omega))).trans (hb5.mono (by omega))
end Go.Proofs.YtbhigefbihpnlaaGreatDoor
namespace Go.Proofs.YtbhigefbihpnlaaGreatDoor
open Go.RowKit
def expV (s : List Nat) : Option Int :=
  match s with
  | [] => some 0
  | c :: t => if c = 101 ∨ c = 69 then
      (if (if hasP [45] t ∨ hasP [43] t then t.drop 1 else t) = [] ∨ runL (if hasP [45] t ∨ hasP [43] t then t.drop 1 else t) ≠ (if hasP [45] t ∨ hasP [43] t then t.drop 1 else t).length then none
       else some (if hasP [45] t then -((smallV (if hasP [45] t ∨ hasP [43] t then t.drop 1 else t) 0 : Nat) : Int) else ((smallV (if hasP [45] t ∨ hasP [43] t then t.drop 1 else t) 0 : Nat) : Int)))
    else none
def fracV (s : List Nat) : Option (List Nat × Nat × List Nat) :=
  if hasP [46] s then (if runL (s.drop 1) = 0 then none else some (dec ((s.drop 1).take (runL (s.drop 1))), runL (s.drop 1), s.drop (runL (s.drop 1) + 1))) else some ([], 0, s)
def bodyV (neg : Bool) (b : List Nat) : Option (Bool × List Nat × Int) :=
  if runL b = 0 ∨ (1 < runL b ∧ b[0]? = some 48) then none else
    match fracV (b.drop (runL b)) with
    | none => none
    | some (d', m, r) => match expV r with
      | none => none
      | some k => some (normV neg (dec (b.take (runL b)) ++ d') (-(m : Int) + k))
def numeralV (s : List Nat) : Option (Bool × List Nat × Int) := bodyV (hasP [45] s) (if hasP [45] s then s.drop 1 else s)
theorem AllD.by_ {l : List Nat} (h : AllD l) : By l := fun c hc => by have := h c hc; omega
end Go.Proofs.YtbhigefbihpnlaaGreatDoor
namespace Go.Proofs.YtbhigefbihpnlaaGreatDoor
open Go.RowKit
end Go.Proofs.YtbhigefbihpnlaaGreatDoor
namespace Go.Proofs.YtbhigefbihpnlaaGreatDoor
open Go.RowKit
end Go.Proofs.YtbhigefbihpnlaaGreatDoor
namespace Go.Proofs.YtbhigefbihpnlaaGreatDoor
open Go.RowKit
end Go.Proofs.YtbhigefbihpnlaaGreatDoor
namespace Go.Proofs.YtbhigefbihpnlaaGreatDoor
open Go.RowKit
theorem mks_u8 (l : List UInt8) : (⟨l.toArray⟩ : ByteArray) = mks (l.map UInt8.toNat) := by
 unfold mks
 rw [List.map_map]
 have : (UInt8.ofNat ∘ UInt8.toNat) = id := by funext x; simp
 rw [this, List.map_id]
theorem By.u8 (l : List UInt8) : By (l.map UInt8.toNat) := by
 intro c hc
 obtain ⟨x, _, rfl⟩ := List.mem_map.1 hc
 exact x.toNat_lt
def u8s (l : List Nat) : List UInt8 := l.map UInt8.ofNat
def decL (l : List Nat) : Nat × Nat := Lib.decodeL (u8s l)
def itoaL (n : Int) : List Nat := (Lib.itoa n).map UInt8.toNat
def textV (x : Bool × List Nat × Int) : List Nat := coefL x.1 x.2.1 ++ [101] ++ itoaL x.2.2
def resV (x : Bool × List Nat × Int) : List Nat × Int := if limV x = 0 then (textV x, 0) else ([], limV x)
def parseDV (s : List Nat) : List Nat × Int := match numeralV s with | none => ([], 3) | some x => resV x
structure JTok where
 kind : Nat
 from_ : Nat
 to_ : Nat
 text : List Nat
structure JNote where
 from_ : Nat
 to_ : Nat
 text : List Nat
def litTrue : List Nat := [116, 114, 117, 101]
def litFalse : List Nat := [102, 97, 108, 115, 101]
def litNull : List Nat := [110, 117, 108, 108]
def idxB (c : Nat) : List Nat → Option Nat
 | [] => none
 | x :: l => if x = c then some 0 else (idxB c l).map (· + 1)
structure Scanned where
 toks : List JTok
 notes : List JNote
 at_ : Nat
 err : Nat
def checkG : Nat → Nat → List Nat → Option Nat
 | 0, _, _ => none
 | f + 1, at_, l => if l = [] then none else if decL l = (65533, 1) then some at_ else checkG f (at_ + (decL l).2) (l.drop (decL l).2)
def checkV (s : List Nat) : Option Nat := checkG s.length 0 s
end Go.Proofs.YtbhigefbihpnlaaGreatDoor
namespace Go.Proofs.YtbhigefbihpnlaaGreatDoor
open Go.RowKit
def Pow10 (w : World) : Prop := Lib.TabIs Tryz.prog w "internal/strconv.uint64pow10" .u64 Lib.pow10Tab
theorem Pow10.keep {w w' : World} (h : Pow10 w) (hb : Below w.heap.size w w') : Pow10 w' := Lib.tabBelow_of_tabIs h w' hb
theorem itoa_any (n : Int) (h0 : -9223372036854775808 ≤ n) (h1 : n ≤ 9223372036854775807) (w : World) (ht : Pow10 w) :
  Calls Tryz.prog 160 #[.int .i64 n] w fun e w' => e = .returned (.string (mks (itoaL n))) ∧ Below w.heap.size w w' := by
 refine (Tryz.strconv_Itoa n h0 h1 w ht).mono ?_
 rintro e w' ⟨rfl, k, os, rfl⟩
 exact ⟨by rw [mks_u8]; rfl, Lib.below_grow _ w (Nat.le_refl _) k os⟩
theorem itoaL_len (n : Int) (h0 : -9223372036854775808 ≤ n) (h1 : n ≤ 9223372036854775807) : (itoaL n).length ≤ 21 := by
 unfold itoaL; rw [List.length_map]; exact Lib.itoa_length_le n h0 h1
theorem coefL_len (neg : Bool) (d : List Nat) : (coefL neg d).length ≤ d.length + 1 := by
 unfold coefL signL
 split
 ·simp
 ·split <;> simp [asc] <;> omega
set_option maxRecDepth 8000 in
set_option maxHeartbeats 2000000 in
theorem dtext_any (neg : Bool) (d : List Nat) (ex : Int) (A : Option Addr) (n c : Nat) (w : World) (hn : Hid (n = d.length)) (hr : Rd w A (B8 d)) (ht : Ten d) (hm : n ≤ 4294967296)
  (h0 : -9223372036854775808 ≤ ex) (h1 : ex ≤ 9223372036854775807) (hp : Pow10 w) :
  Calls Tryz.prog 118 #[.agg #[.bool neg, .slice A n c, .int .i64 ex]] w fun e w' => e = .returned (.string (mks (textV (neg, d, ex)))) ∧ Below w.heap.size w w' := by
 have hT : textV (neg, d, ex) = coefL neg d ++ [101] ++ itoaL ex := rfl
 rw [hT]
 have hl1 := coefL_len neg d
 have hl2 := itoaL_len ex h0 h1
 generalize hcl : coefL neg d = cl at *
 generalize hil : itoaL ex = il at *
 have HCL := Lib.hid hcl
 have HIL := Lib.hid hil
 clear hcl hil hT
 have HX := Lib.hid (Arr.new w 162 [.bool neg, .slice A n c, .int .i64 ex])
 have HBd : Below w.heap.size w (w.alloc (.cells #[.bool neg, .slice A n c, .int .i64 ex] 162)) := (Below.refl _ _).alloc (Nat.le_refl _) _
 have hrW := hr.keep HBd
 have hpW := hp.keep HBd
 go_enter Tryz.func118, Tryz.ntmps118
 go_upto_region 1 with (fail)
 have hlow : w.heap.size < (w.alloc (.cells #[.bool neg, .slice A n c, .int .i64 ex] 162)).heap.size := HX.out.lt
 generalize (w.alloc (.cells #[.bool neg, .slice A n c, .int .i64 ex] 162)) = W at *
 obtain ⟨zz, hzz⟩ : ∃ zz, Hid (W.heap.size = zz) := ⟨_, rfl⟩
 have hz1 : w.heap.size < zz := by have := hzz.out; omega
 have hz2 : zz ≤ W.heap.size := by have := hzz.out; omega
 have RX : ∀ w', Below zz W w' → Rd w' A (B8 d) := fun w' h => hrW.keep (by rw [hzz.out]; exact h)
 have RP : ∀ w', Below zz W w' → Pow10 w' := fun w' h => hpW.keep (by rw [hzz.out]; exact h)
 have q0 : ∀ w', Below zz W w' → w'.cell? ⟨w.heap.size, 0, none⟩ = some (.bool neg) := fun w' h => (Arr.below (w := W) HX.out h (by omega)).cell' (i := 0) rfl; have qf0 : ∀ w', Below zz W w' → w'.frozen? ⟨w.heap.size, 0, none⟩ = false := fun w' h => (Arr.below (w := W) HX.out h (by omega)).frozen 0; have q1 : ∀ w', Below zz W w' → w'.cell? ⟨w.heap.size, 1, none⟩ = some (.slice A n c) := fun w' h => (Arr.below (w := W) HX.out h (by omega)).cell' (i := 1) rfl; have qf1 : ∀ w', Below zz W w' → w'.frozen? ⟨w.heap.size, 1, none⟩ = false := fun w' h => (Arr.below (w := W) HX.out h (by omega)).frozen 1; have q2 : ∀ w', Below zz W w' → w'.cell? ⟨w.heap.size, 2, none⟩ = some (.int .i64 ex) := fun w' h => (Arr.below (w := W) HX.out h (by omega)).cell' (i := 2) rfl; have qf2 : ∀ w', Below zz W w' → w'.frozen? ⟨w.heap.size, 2, none⟩ = false := fun w' h => (Arr.below (w := W) HX.out h (by omega)).frozen 2
 have E1 : Hid (∀ w, Below zz W w → Calls Tryz.prog 159 #[.agg #[.bool neg, .slice A n c, .int .i64 ex]] w fun e w' => e = .returned (.string (mks cl)) ∧ Below w.heap.size w w') := fun w h => by rw [← HCL.out]; exact coef_any neg d ex A n c w hn (RX w h) ht hm
 have E2 : Hid (∀ w, Below zz W w → Calls Tryz.prog 160 #[.int .i64 ex] w fun e w' => e = .returned (.string (mks il)) ∧ Below w.heap.size w w') := fun w h => by rw [← HIL.out]; exact itoa_any ex h0 h1 w (RP w h)
 have HS : Below zz W W := Below.refl _ _
 have HSd : Below zz W W.drew := Below.drew HS
 have hz3 : zz ≤ W.drew.heap.size := hz2
 have hdn : d.length ≤ 4294967296 := by have := hn.out; omega
 have e101 : (ByteArray.mk #[101] : ByteArray) = mks [101] := mks_lit1 101
 have hl3 : ¬ 9223372036854775807 < cl.length + 1 := by omega
 have hl4 : ¬ 9223372036854775807 < cl.length + 1 + il.length := by omega
 have hl5 : (([101] : List Nat)).length = 1 := rfl
 clear RX RP hr hrW hp hpW
 go_region_held3 (fun w' => Below zz W w') (assumption) (first | (go_at_call 159; ((with_reducible refine (E1.out _ (by assumption)).mono ?_)); (all_goals try (fail)); rintro e w5 ⟨rfl, hb5⟩; have z5 := hb5.size; (try simp at z5); have hS5_0 : Below zz W w5 := Below.trans (by first | assumption | exact Below.alloc (by assumption) (by first | omega | (simp; omega)) _ | exact Below.allocDrew (by assumption) (by first | omega | (simp; omega)) _) (hb5.mono (by first | omega | (simp; omega)))) | (go_at_call 160; ((with_reducible refine (E2.out _ (by assumption)).mono ?_)); (all_goals try (fail)); rintro e w6 ⟨rfl, hb6⟩; have z6 := hb6.size; (try simp at z6); have hS6_0 : Below zz W w6 := Below.trans (by first | assumption | exact Below.alloc (by assumption) (by first | omega | (simp; omega)) _ | exact Below.allocDrew (by assumption) (by first | omega | (simp; omega)) _) (hb6.mono (by first | omega | (simp; omega)))))
 all_goals
  go_wp2
  go_ret
  refine ⟨by simp, HBd.trans ?_⟩
  have hdw : W.drew.heap.size = W.heap.size := rfl
  have hW : Below w.heap.size W W.drew := Below.drew (Below.refl _ _)
  first
   | exact (hW.trans (hb5.mono (by omega))).trans (hb6.mono (by omega))
   | exact (hW.trans (hb6.mono (by omega))).trans (hb5.mono (by omega))
end Go.Proofs.YtbhigefbihpnlaaGreatDoor
namespace Go.Proofs.YtbhigefbihpnlaaGreatDoor
open Go.RowKit
theorem lead_sub (l : List Nat) : ∀ x ∈ lead 0 l, x ∈ l := by
 induction l with
 | nil => intro x h; exact h
 | cons c l ih =>
  intro x h
  by_cases hc : c = 0
  ·subst hc; rw [lead_eq] at h; exact List.mem_cons_of_mem _ (ih x h)
  ·rw [lead_ne hc] at h; exact h
theorem ten_decD {l : List Nat} (h : AllD l) : Ten (dec l) := by
 intro x hx
 obtain ⟨c, hc, rfl⟩ := List.mem_map.1 hx
 have := h c hc
 omega
def NumB (m : Nat) (x : Bool × List Nat × Int) : Prop := Ten x.2.1 ∧ x.2.1.length ≤ m ∧ -1099511627776 - m ≤ x.2.2 ∧ x.2.2 ≤ 1099511627776 + m
theorem normV_ok {neg : Bool} {d : List Nat} {ex : Int} (h : Ten d) (m : Nat) (h1 : -1099511627776 - m ≤ ex) (h2 : ex + d.length ≤ 1099511627776 + m) (h3 : d.length ≤ m) : NumB m (normV neg d ex) := by
 have hl := lead_le 0 d
 unfold normV NumB
 split
 ·exact ⟨Ten.nil, by simp, by simp only; omega, by simp only; omega⟩
 ·refine ⟨fun x hx => h x (lead_sub d x (List.mem_of_mem_take hx)), ?_, ?_, ?_⟩
  ·simp only [List.length_take]; omega
  ·simp only; omega
  ·simp only; omega
theorem NumB.mono {m n : Nat} {x : Bool × List Nat × Int} (h : NumB m x) (hm : m ≤ n) : NumB n x := ⟨h.1, by have := h.2.1; omega, by have := h.2.2.1; omega, by have := h.2.2.2; omega⟩
end Go.Proofs.YtbhigefbihpnlaaGreatDoor
namespace Go.Proofs.YtbhigefbihpnlaaGreatDoor
open Go.RowKit
theorem data_mks (l : List Nat) : (mks l).data.toList = u8s l := by simp [mks, u8s]
structure LibOK (w : World) : Prop where
 pow : Pow10 w
 max : ∃ m, w.cell? ⟨5, 0, none⟩ = some (.int .i64 m)
 tabs : Lib.Utf8Tabs 2 3 w
theorem LibOK.keep {w w' : World} (h : LibOK w) (hb : Below w.heap.size w w') : LibOK w' := by
 obtain ⟨m, hm⟩ := h.max
 exact ⟨h.pow.keep hb, ⟨m, (hb.cell (block_lt_of_cell hm)).trans hm⟩, Utf8Tabs_below h.tabs hb⟩
def ixBV (c : Nat) (l : List Nat) : Int := match idxB c l with | some n => (n : Int) | none => -1
theorem u8_beq {a b : Nat} (ha : a < 256) (hb : b < 256) : (UInt8.ofNat a == UInt8.ofNat b) = decide (a = b) := by
 by_cases h : a = b
 ·subst h; simp
 ·rw [decide_eq_false h, beq_eq_false_iff_ne]
  exact fun e => h (ofNat_inj ha hb e)
theorem ixB_eq {l : List Nat} (hl : By l) {c : Nat} (hc : c < 256) : Lib.indexByte (u8s l) (UInt8.ofNat c) = ixBV c l := by
 induction l with
 | nil => rfl
 | cons x l ih =>
  have h := ih hl.tail
  unfold u8s at h ⊢
  rw [List.map_cons, Lib.indexByte, u8_beq hl.head hc, h]
  unfold ixBV
  rw [idxB]
  by_cases hx : x = c
  ·simp [hx]
  ·simp only [hx, decide_false, Bool.false_eq_true, if_false]
   cases idxB c l with
   | none => rfl
   | some n =>
    have : ((n : Int) == -1) = false := by rw [beq_eq_false_iff_ne]; omega
    simp [this]
end Go.Proofs.YtbhigefbihpnlaaGreatDoor
namespace Go.Proofs.YtbhigefbihpnlaaGreatDoor
open Go.RowKit
end Go.Proofs.YtbhigefbihpnlaaGreatDoor
namespace Go.Proofs.YtbhigefbihpnlaaGreatDoor
open Go.RowKit
abbrev BldF (B b : Nat) (bs : List Value) (w : World) : Prop := Lib.IsBuilderF 190 5 B b bs w
abbrev BldU (B b : Nat) (bs : List Value) (w : World) : Prop := Lib.BuilderAtF 190 5 B b (.pointer (some ⟨b, 0, none⟩)) bs w
abbrev Others (b : Nat) (w w' : World) : Prop := Lib.OthersKept 5 (some b) w w'
theorem Tryz.szBuilder : (Tryz.prog.info? 190).map (·.size) = some 2 := by kernel_rfl
theorem Tryz.liesBuilder : liesAt Tryz.prog Tryz.prog.depth 190 (2 / Tryz.prog.cellsOf 190) 0 190 1 = true := by kernel_rfl
set_option maxRecDepth 100000 in
set_option maxHeartbeats 1000000 in
theorem copyCheck_fresh (b : Nat) (w : World) (h0 : w.cell? ⟨b, 0, none⟩ = some (.pointer none)) (hsh : w.shape? b = some (190, 2)) (hfz : w.frozen? ⟨b, 0, none⟩ = false) :
  Calls Tryz.prog 143 #[.pointer (some ⟨b, 0, none⟩)] w fun e w' => e = .returned (.tuple #[]) ∧ w' = w.setCell ⟨b, 0, none⟩ (.pointer (some ⟨b, 0, none⟩)) := by
 obtain ⟨j, hj, hjs⟩ := Option.map_eq_some_iff.1 Tryz.szBuilder
 go_enter Tryz.func143, Tryz.ntmps143
 go_wp2
 rw [Lib.run_to_unsafe w ⟨b, 0, none⟩ Tryz.underlying188 Tryz.underlying63 hj (by rw [hjs]; decide) hsh (Nat.zero_lt_succ 1)]
 simp only [Result.andThen]
 rw [Oper.upon_value]
 go_wp2
 rw [run_callFunc_extern Tryz.func177 (by kernel_rfl) (by kernel_rfl) (by kernel_rfl) (e := Extern.AbiNoEscape.same) (by kernel_rfl)]
 rw [Lib.run_noEscape]
 simp only [Result.andThen]
 rw [Oper.upon_value]
 go_wp2
 rw [Lib.run_from_unsafe w ⟨b, 0, none⟩ Tryz.underlying63 Tryz.underlying188 hj hsh Tryz.liesBuilder]
 simp only [Result.andThen]
 rw [Oper.upon_value]
 go_wp2
 go_end0
 exact ⟨rfl, rfl⟩
set_option maxRecDepth 100000 in
set_option maxHeartbeats 1000000 in
theorem copyCheck_used (b : Nat) (w : World) (h0 : w.cell? ⟨b, 0, none⟩ = some (.pointer (some ⟨b, 0, none⟩))) :
  Calls Tryz.prog 143 #[.pointer (some ⟨b, 0, none⟩)] w fun e w' => e = .returned (.tuple #[]) ∧ w = w' := by
 obtain ⟨j, hj, _⟩ := Option.map_eq_some_iff.1 Tryz.szBuilder
 go_enter Tryz.func143, Tryz.ntmps143
 go_wp2
 rw [Lib.run_neq_ptr_same w _ Tryz.underlying188 hj]
 go_wp2
 go_end0
 exact ⟨rfl, rfl⟩
theorem copyCheck_any (B b : Nat) (bs : List Value) (w : World) (h : BldF B b bs w) :
  Calls Tryz.prog 143 #[.pointer (some ⟨b, 0, none⟩)] w fun e w' => e = .returned (.tuple #[]) ∧ BldU B b bs w' ∧ Below B w w' ∧ Others b w w' := by
 rcases h with h | h
 ·refine (copyCheck_fresh b w h.cell0 h.shape h.frozen0).mono ?_
  rintro e w' ⟨rfl, rfl⟩
  exact ⟨rfl, h.used _, (Below.refl B w).setCell (p := ⟨b, 0, none⟩) h.1 _, (Lib.OthersKept.refl _ _ w).setCell ⟨b, 0, none⟩ rfl _⟩
 ·refine (copyCheck_used b w h.cell0).mono ?_
  rintro e w' ⟨rfl, rfl⟩
  exact ⟨rfl, h, Below.refl B _, Lib.OthersKept.refl _ _ _⟩
end Go.Proofs.YtbhigefbihpnlaaGreatDoor
namespace Go.Proofs.YtbhigefbihpnlaaGreatDoor
open Go.RowKit
theorem decode_drop (l : List Nat) (pos : Nat) : Utf8.decode (mks l) pos = decL (l.drop pos) := by
 have h1 := Lib.tail_decode (mks l) pos 0
 rw [Nat.add_zero] at h1
 rw [← h1, size_mks, extract_mks, List.take_length]
 rfl
theorem decL_bd (l : List Nat) : (decL l).1 ≤ 1114111 ∧ 1 ≤ (decL l).2 := by
 unfold decL Lib.decodeL
 exact ⟨Lib.rune_le _ _, Lib.width_pos _ _⟩
section
variable {f : Nat} {l : List Nat} {p nx : Nat} {acc : List Nat}
end
end Go.Proofs.YtbhigefbihpnlaaGreatDoor
