/- The walk of coef of decimal. -/
import Derived.Test.YtoppncpmfajbcaaGreatDoorMAh
import Derived.Test.YtoppncpmfajbcaaGreatDoorMAa
import Derived.Test.YtoppncpmfajbcaaGreatDoorMAe
import Derived.Lib.MapLaws
import Derived.Lib.IndexMore
import Derived.Lib.ItoaNum
import Derived.Test.YtoppncpmfajbcaaGreatDoorShelf
import Derived.Lib.ItoaLen
import Derived.Lib.AppendIntMem
import Derived.Lib.OthersKept
import Derived.Lib.Builder
import Derived.Laws.Externs
import Derived.Lib.RuneCountTail
set_option linter.unusedVariables false
set_option linter.unusedSimpArgs false
set_option linter.defProp false
set_option linter.constructorNameAsVariable false
namespace Go.Proofs.YtoppncpmfajbcaaGreatDoor
open Go.RowKit
def coefL (neg : Bool) (d : List Nat) : List Nat := if d = [] then [48] else signL neg ++ asc d
set_option maxRecDepth 8000 in
set_option maxHeartbeats 2000000 in
theorem coef_any (neg : Bool) (d : List Nat) (ex : Int) (A : Option Addr) (n c : Nat) (w : World) (hn : Hid (n = d.length)) (hr : Rd w A (B8 d)) (ht : Ten d) (hm : n ≤ 4294967296) :
  Calls Tryz.prog 160 #[.agg #[.bool neg, .slice A n c, .int .i64 ex]] w fun e w' => e = .returned (.string (mks (coefL neg d))) ∧ Below w.heap.size w w' := by
 generalize hcl : coefL neg d = cl
 have HCL := Lib.hid hcl
 clear hcl
 have HX := Lib.hid (Arr.new w 149 [.bool neg, .slice A n c, .int .i64 ex])
 have HBd : Below w.heap.size w (w.alloc (.cells #[.bool neg, .slice A n c, .int .i64 ex] 149)) := (Below.refl _ _).alloc (Nat.le_refl _) _
 have hrW := hr.keep HBd
 go_enter Tryz.func160, Tryz.ntmps160
 go_upto_region 1 with (fail)
 have hlow : w.heap.size < (w.alloc (.cells #[.bool neg, .slice A n c, .int .i64 ex] 149)).heap.size := HX.out.lt
 generalize (w.alloc (.cells #[.bool neg, .slice A n c, .int .i64 ex] 149)) = W at *
 have x1 := HX.out.cell' (i := 1) rfl
 by_cases hd : d = []
 ·subst hd
  have hn0 : n = 0 := by have := hn.out; simpa using this
  subst hn0
  have hc : cl = [48] := HCL.out.symm
  subst hc
  have e48 : (ByteArray.mk #[48] : ByteArray) = mks [48] := mks_lit1 48
  go_wp2
  go_ret
  exact ⟨rfl, HBd⟩
 ·have hc : cl = signL neg ++ asc d := by rw [← HCL.out]; unfold coefL; rw [if_neg hd]
  subst hc
  clear HCL
  have hn0 : ((n : Int) == 0) = false := by
   have h1 := hn.out
   have h2 : 0 < d.length := List.length_pos_iff.2 hd
   simp; omega
  go_upto_region 3 with (fail)
  obtain ⟨zz, hzz⟩ : ∃ zz, Hid (W.heap.size = zz) := ⟨_, rfl⟩
  have hz1 : w.heap.size < zz := by have := hzz.out; omega
  have hz2 : zz ≤ W.heap.size := by have := hzz.out; omega
  have RX : ∀ w', Below zz W w' → Rd w' A (B8 d) := fun w' h => hrW.keep (by rw [hzz.out]; exact h)
  have q0 : ∀ w', Below zz W w' → w'.cell? ⟨w.heap.size, 0, none⟩ = some (.bool neg) := fun w' h => (Arr.below (w := W) HX.out h (by omega)).cell' (i := 0) rfl; have qf0 : ∀ w', Below zz W w' → w'.frozen? ⟨w.heap.size, 0, none⟩ = false := fun w' h => (Arr.below (w := W) HX.out h (by omega)).frozen 0; have q1 : ∀ w', Below zz W w' → w'.cell? ⟨w.heap.size, 1, none⟩ = some (.slice A n c) := fun w' h => (Arr.below (w := W) HX.out h (by omega)).cell' (i := 1) rfl; have qf1 : ∀ w', Below zz W w' → w'.frozen? ⟨w.heap.size, 1, none⟩ = false := fun w' h => (Arr.below (w := W) HX.out h (by omega)).frozen 1; have q2 : ∀ w', Below zz W w' → w'.cell? ⟨w.heap.size, 2, none⟩ = some (.int .i64 ex) := fun w' h => (Arr.below (w := W) HX.out h (by omega)).cell' (i := 2) rfl; have qf2 : ∀ w', Below zz W w' → w'.frozen? ⟨w.heap.size, 2, none⟩ = false := fun w' h => (Arr.below (w := W) HX.out h (by omega)).frozen 2
  have E1 : Hid (∀ w, Calls Tryz.prog 192 #[.agg #[.bool neg, .slice A n c, .int .i64 ex]] w fun e w' => e = .returned (.string (mks (signL neg))) ∧ Below w.heap.size w w') := fun w => sign_any (neg, d, ex) A n c w
  have E2 : Hid (∀ w, Below zz W w → Calls Tryz.prog 193 #[.agg #[.bool neg, .slice A n c, .int .i64 ex]] w fun e w' => e = .returned (.string (mks (asc d))) ∧ Below w.heap.size w w') := fun w h => digits_any neg d ex A n c w hn (RX w h) ht hm
  have HS : Below zz W W := Below.refl _ _
  have HSd : Below zz W W.drew := Below.drew HS
  have hz3 : zz ≤ W.drew.heap.size := hz2
  have hl1 : (signL neg).length ≤ 1 := by cases neg <;> decide
  have hl2 : (asc d).length ≤ 4294967296 := by have := hn.out; simp [asc]; omega
  have hl3 : ¬ 9223372036854775807 < (signL neg).length + (asc d).length := by omega
  clear RX hr hrW x1
  go_region_held3 (fun w' => Below zz W w') (assumption) (first | (go_at_call 192; ((with_reducible refine (E1.out _).mono ?_)); (all_goals try (fail)); rintro e w5 ⟨rfl, hb5⟩; have z5 := hb5.size; (try simp at z5); have hS5_0 : Below zz W w5 := Below.trans (by first | assumption | exact Below.alloc (by assumption) (by first | omega | (simp; omega)) _ | exact Below.allocDrew (by assumption) (by first | omega | (simp; omega)) _) (hb5.mono (by first | omega | (simp; omega)))) | (go_at_call 193; ((with_reducible refine (E2.out _ (by assumption)).mono ?_)); (all_goals try (fail)); rintro e w6 ⟨rfl, hb6⟩; have z6 := hb6.size; (try simp at z6); have hS6_0 : Below zz W w6 := Below.trans (by first | assumption | exact Below.alloc (by assumption) (by first | omega | (simp; omega)) _ | exact Below.allocDrew (by assumption) (by first | omega | (simp; omega)) _) (hb6.mono (by first | omega | (simp; omega)))))
  all_goals
   go_wp2
   go_ret
   refine ⟨rfl, HBd.trans ?_⟩
   have hdw : W.drew.heap.size = W.heap.size := rfl
   have hW : Below w.heap.size W W.drew := Below.drew (Below.refl _ _)
   first
    | exact (hW.trans (hb5.mono (by omega))).trans (hb6.mono (by omega))
    | exact (hW.trans (hb6.mono (by omega))).trans (hb5.mono (by omega))
end Go.Proofs.YtoppncpmfajbcaaGreatDoor
namespace Go.Proofs.YtoppncpmfajbcaaGreatDoor
open Go.RowKit
def expV (s : List Nat) : Option Int :=
  match s with
  | [] => some 0
  | c :: t => if c = 101 ∨ c = 69 then
      (if (if hasP [45] t ∨ hasP [43] t then t.drop 1 else t) = [] ∨ runL (if hasP [45] t ∨ hasP [43] t then t.drop 1 else t) ≠ (if hasP [45] t ∨ hasP [43] t then t.drop 1 else t).length then none
       else some (if hasP [45] t then -((smallV (if hasP [45] t ∨ hasP [43] t then t.drop 1 else t) 0 : Nat) : Int) else ((smallV (if hasP [45] t ∨ hasP [43] t then t.drop 1 else t) 0 : Nat) : Int)))
    else none
def fracV (s : List Nat) : Option (List Nat × Nat × List Nat) :=
  if hasP [46] s then (if runL (s.drop 1) = 0 then none else some (dec ((s.drop 1).take (runL (s.drop 1))), runL (s.drop 1), s.drop (runL (s.drop 1) + 1))) else some ([], 0, s)
def bodyV (neg : Bool) (b : List Nat) : Option (Bool × List Nat × Int) :=
  if runL b = 0 ∨ (1 < runL b ∧ b[0]? = some 48) then none else
    match fracV (b.drop (runL b)) with
    | none => none
    | some (d', m, r) => match expV r with
      | none => none
      | some k => some (normV neg (dec (b.take (runL b)) ++ d') (-(m : Int) + k))
def numeralV (s : List Nat) : Option (Bool × List Nat × Int) := bodyV (hasP [45] s) (if hasP [45] s then s.drop 1 else s)
theorem AllD.by_ {l : List Nat} (h : AllD l) : By l := fun c hc => by have := h c hc; omega
end Go.Proofs.YtoppncpmfajbcaaGreatDoor
namespace Go.Proofs.YtoppncpmfajbcaaGreatDoor
open Go.RowKit
end Go.Proofs.YtoppncpmfajbcaaGreatDoor
namespace Go.Proofs.YtoppncpmfajbcaaGreatDoor
open Go.RowKit
end Go.Proofs.YtoppncpmfajbcaaGreatDoor
namespace Go.Proofs.YtoppncpmfajbcaaGreatDoor
open Go.RowKit
end Go.Proofs.YtoppncpmfajbcaaGreatDoor
namespace Go.Proofs.YtoppncpmfajbcaaGreatDoor
open Go.RowKit
theorem mks_u8 (l : List UInt8) : (⟨l.toArray⟩ : ByteArray) = mks (l.map UInt8.toNat) := by
 unfold mks
 rw [List.map_map]
 have : (UInt8.ofNat ∘ UInt8.toNat) = id := by funext x; simp
 rw [this, List.map_id]
theorem By.u8 (l : List UInt8) : By (l.map UInt8.toNat) := by
 intro c hc
 obtain ⟨x, _, rfl⟩ := List.mem_map.1 hc
 exact x.toNat_lt
def u8s (l : List Nat) : List UInt8 := l.map UInt8.ofNat
def decL (l : List Nat) : Nat × Nat := Lib.decodeL (u8s l)
def itoaL (n : Int) : List Nat := (Lib.itoa n).map UInt8.toNat
def textV (x : Bool × List Nat × Int) : List Nat := coefL x.1 x.2.1 ++ [101] ++ itoaL x.2.2
def resV (x : Bool × List Nat × Int) : List Nat × Int := if limV x = 0 then (textV x, 0) else ([], limV x)
def parseDV (s : List Nat) : List Nat × Int := match numeralV s with | none => ([], 3) | some x => resV x
structure JTok where
 kind : Nat
 from_ : Nat
 to_ : Nat
 text : List Nat
structure JNote where
 from_ : Nat
 to_ : Nat
 text : List Nat
def litTrue : List Nat := [116, 114, 117, 101]
def litFalse : List Nat := [102, 97, 108, 115, 101]
def litNull : List Nat := [110, 117, 108, 108]
def idxB (c : Nat) : List Nat → Option Nat
 | [] => none
 | x :: l => if x = c then some 0 else (idxB c l).map (· + 1)
structure Scanned where
 toks : List JTok
 notes : List JNote
 at_ : Nat
 err : Nat
def checkG : Nat → Nat → List Nat → Option Nat
 | 0, _, _ => none
 | f + 1, at_, l => if l = [] then none else if decL l = (65533, 1) then some at_ else checkG f (at_ + (decL l).2) (l.drop (decL l).2)
def checkV (s : List Nat) : Option Nat := checkG s.length 0 s
end Go.Proofs.YtoppncpmfajbcaaGreatDoor
namespace Go.Proofs.YtoppncpmfajbcaaGreatDoor
open Go.RowKit
def Pow10 (w : World) : Prop := Lib.TabIs Tryz.prog w "internal/strconv.uint64pow10" .u64 Lib.pow10Tab
theorem Pow10.keep {w w' : World} (h : Pow10 w) (hb : Below w.heap.size w w') : Pow10 w' := Lib.tabBelow_of_tabIs h w' hb
theorem itoa_any (n : Int) (h0 : -9223372036854775808 ≤ n) (h1 : n ≤ 9223372036854775807) (w : World) (ht : Pow10 w) :
  Calls Tryz.prog 161 #[.int .i64 n] w fun e w' => e = .returned (.string (mks (itoaL n))) ∧ Below w.heap.size w w' := by
 refine (Tryz.strconv_Itoa n h0 h1 w ht).mono ?_
 rintro e w' ⟨rfl, k, os, rfl⟩
 exact ⟨by rw [mks_u8]; rfl, Lib.below_grow _ w (Nat.le_refl _) k os⟩
theorem itoaL_len (n : Int) (h0 : -9223372036854775808 ≤ n) (h1 : n ≤ 9223372036854775807) : (itoaL n).length ≤ 21 := by
 unfold itoaL; rw [List.length_map]; exact Lib.itoa_length_le n h0 h1
theorem coefL_len (neg : Bool) (d : List Nat) : (coefL neg d).length ≤ d.length + 1 := by
 unfold coefL signL
 split
 ·simp
 ·split <;> simp [asc] <;> omega
set_option maxRecDepth 8000 in
set_option maxHeartbeats 2000000 in
theorem dtext_any (neg : Bool) (d : List Nat) (ex : Int) (A : Option Addr) (n c : Nat) (w : World) (hn : Hid (n = d.length)) (hr : Rd w A (B8 d)) (ht : Ten d) (hm : n ≤ 4294967296)
  (h0 : -9223372036854775808 ≤ ex) (h1 : ex ≤ 9223372036854775807) (hp : Pow10 w) :
  Calls Tryz.prog 133 #[.agg #[.bool neg, .slice A n c, .int .i64 ex]] w fun e w' => e = .returned (.string (mks (textV (neg, d, ex)))) ∧ Below w.heap.size w w' := by
 have hT : textV (neg, d, ex) = coefL neg d ++ [101] ++ itoaL ex := rfl
 rw [hT]
 have hl1 := coefL_len neg d
 have hl2 := itoaL_len ex h0 h1
 generalize hcl : coefL neg d = cl at *
 generalize hil : itoaL ex = il at *
 have HCL := Lib.hid hcl
 have HIL := Lib.hid hil
 clear hcl hil hT
 have HX := Lib.hid (Arr.new w 149 [.bool neg, .slice A n c, .int .i64 ex])
 have HBd : Below w.heap.size w (w.alloc (.cells #[.bool neg, .slice A n c, .int .i64 ex] 149)) := (Below.refl _ _).alloc (Nat.le_refl _) _
 have hrW := hr.keep HBd
 have hpW := hp.keep HBd
 go_enter Tryz.func133, Tryz.ntmps133
 go_upto_region 1 with (fail)
 have hlow : w.heap.size < (w.alloc (.cells #[.bool neg, .slice A n c, .int .i64 ex] 149)).heap.size := HX.out.lt
 generalize (w.alloc (.cells #[.bool neg, .slice A n c, .int .i64 ex] 149)) = W at *
 obtain ⟨zz, hzz⟩ : ∃ zz, Hid (W.heap.size = zz) := ⟨_, rfl⟩
 have hz1 : w.heap.size < zz := by have := hzz.out; omega
 have hz2 : zz ≤ W.heap.size := by have := hzz.out; omega
 have RX : ∀ w', Below zz W w' → Rd w' A (B8 d) := fun w' h => hrW.keep (by rw [hzz.out]; exact h)
 have RP : ∀ w', Below zz W w' → Pow10 w' := fun w' h => hpW.keep (by rw [hzz.out]; exact h)
 have q0 : ∀ w', Below zz W w' → w'.cell? ⟨w.heap.size, 0, none⟩ = some (.bool neg) := fun w' h => (Arr.below (w := W) HX.out h (by omega)).cell' (i := 0) rfl; have qf0 : ∀ w', Below zz W w' → w'.frozen? ⟨w.heap.size, 0, none⟩ = false := fun w' h => (Arr.below (w := W) HX.out h (by omega)).frozen 0; have q1 : ∀ w', Below zz W w' → w'.cell? ⟨w.heap.size, 1, none⟩ = some (.slice A n c) := fun w' h => (Arr.below (w := W) HX.out h (by omega)).cell' (i := 1) rfl; have qf1 : ∀ w', Below zz W w' → w'.frozen? ⟨w.heap.size, 1, none⟩ = false := fun w' h => (Arr.below (w := W) HX.out h (by omega)).frozen 1; have q2 : ∀ w', Below zz W w' → w'.cell? ⟨w.heap.size, 2, none⟩ = some (.int .i64 ex) := fun w' h => (Arr.below (w := W) HX.out h (by omega)).cell' (i := 2) rfl; have qf2 : ∀ w', Below zz W w' → w'.frozen? ⟨w.heap.size, 2, none⟩ = false := fun w' h => (Arr.below (w := W) HX.out h (by omega)).frozen 2
 have E1 : Hid (∀ w, Below zz W w → Calls Tryz.prog 160 #[.agg #[.bool neg, .slice A n c, .int .i64 ex]] w fun e w' => e = .returned (.string (mks cl)) ∧ Below w.heap.size w w') := fun w h => by rw [← HCL.out]; exact coef_any neg d ex A n c w hn (RX w h) ht hm
 have E2 : Hid (∀ w, Below zz W w → Calls Tryz.prog 161 #[.int .i64 ex] w fun e w' => e = .returned (.string (mks il)) ∧ Below w.heap.size w w') := fun w h => by rw [← HIL.out]; exact itoa_any ex h0 h1 w (RP w h)
 have HS : Below zz W W := Below.refl _ _
 have HSd : Below zz W W.drew := Below.drew HS
 have hz3 : zz ≤ W.drew.heap.size := hz2
 have hdn : d.length ≤ 4294967296 := by have := hn.out; omega
 have e101 : (ByteArray.mk #[101] : ByteArray) = mks [101] := mks_lit1 101
 have hl3 : ¬ 9223372036854775807 < cl.length + 1 := by omega
 have hl4 : ¬ 9223372036854775807 < cl.length + 1 + il.length := by omega
 have hl5 : (([101] : List Nat)).length = 1 := rfl
 clear RX RP hr hrW hp hpW
 go_region_held3 (fun w' => Below zz W w') (assumption) (first | (go_at_call 160; ((with_reducible refine (E1.out _ (by assumption)).mono ?_)); (all_goals try (fail)); rintro e w5 ⟨rfl, hb5⟩; have z5 := hb5.size; (try simp at z5); have hS5_0 : Below zz W w5 := Below.trans (by first | assumption | exact Below.alloc (by assumption) (by first | omega | (simp; omega)) _ | exact Below.allocDrew (by assumption) (by first | omega | (simp; omega)) _) (hb5.mono (by first | omega | (simp; omega)))) | (go_at_call 161; ((with_reducible refine (E2.out _ (by assumption)).mono ?_)); (all_goals try (fail)); rintro e w6 ⟨rfl, hb6⟩; have z6 := hb6.size; (try simp at z6); have hS6_0 : Below zz W w6 := Below.trans (by first | assumption | exact Below.alloc (by assumption) (by first | omega | (simp; omega)) _ | exact Below.allocDrew (by assumption) (by first | omega | (simp; omega)) _) (hb6.mono (by first | omega | (simp; omega)))))
 all_goals
  go_wp2
  go_ret
  refine ⟨by simp, HBd.trans ?_⟩
  have hdw : W.drew.heap.size = W.heap.size := rfl
  have hW : Below w.heap.size W W.drew := Below.drew (Below.refl _ _)
  first
   | exact (hW.trans (hb5.mono (by omega))).trans (hb6.mono (by omega))
   | exact (hW.trans (hb6.mono (by omega))).trans (hb5.mono (by omega))
end Go.Proofs.YtoppncpmfajbcaaGreatDoor
namespace Go.Proofs.YtoppncpmfajbcaaGreatDoor
open Go.RowKit
theorem lead_sub (l : List Nat) : ∀ x ∈ lead 0 l, x ∈ l := by
 induction l with
 | nil => intro x h; exact h
 | cons c l ih =>
  intro x h
  by_cases hc : c = 0
  ·subst hc; rw [lead_eq] at h; exact List.mem_cons_of_mem _ (ih x h)
  ·rw [lead_ne hc] at h; exact h
theorem ten_decD {l : List Nat} (h : AllD l) : Ten (dec l) := by
 intro x hx
 obtain ⟨c, hc, rfl⟩ := List.mem_map.1 hx
 have := h c hc
 omega
def NumB (m : Nat) (x : Bool × List Nat × Int) : Prop := Ten x.2.1 ∧ x.2.1.length ≤ m ∧ -1099511627776 - m ≤ x.2.2 ∧ x.2.2 ≤ 1099511627776 + m
theorem normV_ok {neg : Bool} {d : List Nat} {ex : Int} (h : Ten d) (m : Nat) (h1 : -1099511627776 - m ≤ ex) (h2 : ex + d.length ≤ 1099511627776 + m) (h3 : d.length ≤ m) : NumB m (normV neg d ex) := by
 have hl := lead_le 0 d
 unfold normV NumB
 split
 ·exact ⟨Ten.nil, by simp, by simp only; omega, by simp only; omega⟩
 ·refine ⟨fun x hx => h x (lead_sub d x (List.mem_of_mem_take hx)), ?_, ?_, ?_⟩
  ·simp only [List.length_take]; omega
  ·simp only; omega
  ·simp only; omega
theorem NumB.mono {m n : Nat} {x : Bool × List Nat × Int} (h : NumB m x) (hm : m ≤ n) : NumB n x := ⟨h.1, by have := h.2.1; omega, by have := h.2.2.1; omega, by have := h.2.2.2; omega⟩
end Go.Proofs.YtoppncpmfajbcaaGreatDoor
namespace Go.Proofs.YtoppncpmfajbcaaGreatDoor
open Go.RowKit
theorem data_mks (l : List Nat) : (mks l).data.toList = u8s l := by simp [mks, u8s]
structure LibOK (w : World) : Prop where
 pow : Pow10 w
 max : ∃ m, w.cell? ⟨3, 0, none⟩ = some (.int .i64 m)
 tabs : Lib.Utf8Tabs 1 2 w
theorem LibOK.keep {w w' : World} (h : LibOK w) (hb : Below w.heap.size w w') : LibOK w' := by
 obtain ⟨m, hm⟩ := h.max
 exact ⟨h.pow.keep hb, ⟨m, (hb.cell (block_lt_of_cell hm)).trans hm⟩, Utf8Tabs_below h.tabs hb⟩
def ixBV (c : Nat) (l : List Nat) : Int := match idxB c l with | some n => (n : Int) | none => -1
theorem u8_beq {a b : Nat} (ha : a < 256) (hb : b < 256) : (UInt8.ofNat a == UInt8.ofNat b) = decide (a = b) := by
 by_cases h : a = b
 ·subst h; simp
 ·rw [decide_eq_false h, beq_eq_false_iff_ne]
  exact fun e => h (ofNat_inj ha hb e)
theorem ixB_eq {l : List Nat} (hl : By l) {c : Nat} (hc : c < 256) : Lib.indexByte (u8s l) (UInt8.ofNat c) = ixBV c l := by
 induction l with
 | nil => rfl
 | cons x l ih =>
  have h := ih hl.tail
  unfold u8s at h ⊢
  rw [List.map_cons, Lib.indexByte, u8_beq hl.head hc, h]
  unfold ixBV
  rw [idxB]
  by_cases hx : x = c
  ·simp [hx]
  ·simp only [hx, decide_false, Bool.false_eq_true, if_false]
   cases idxB c l with
   | none => rfl
   | some n =>
    have : ((n : Int) == -1) = false := by rw [beq_eq_false_iff_ne]; omega
    simp [this]
end Go.Proofs.YtoppncpmfajbcaaGreatDoor
namespace Go.Proofs.YtoppncpmfajbcaaGreatDoor
open Go.RowKit
end Go.Proofs.YtoppncpmfajbcaaGreatDoor
namespace Go.Proofs.YtoppncpmfajbcaaGreatDoor
open Go.RowKit
abbrev BldF (B b : Nat) (bs : List Value) (w : World) : Prop := Lib.IsBuilderF 59 5 B b bs w
abbrev BldU (B b : Nat) (bs : List Value) (w : World) : Prop := Lib.BuilderAtF 59 5 B b (.pointer (some ⟨b, 0, none⟩)) bs w
abbrev Others (b : Nat) (w w' : World) : Prop := Lib.OthersKept 5 (some b) w w'
theorem Tryz.szBuilder : (Tryz.prog.info? 59).map (·.size) = some 2 := by kernel_rfl
theorem Tryz.liesBuilder : liesAt Tryz.prog Tryz.prog.depth 59 (2 / Tryz.prog.cellsOf 59) 0 59 1 = true := by kernel_rfl
set_option maxRecDepth 100000 in
set_option maxHeartbeats 1000000 in
theorem copyCheck_fresh (b : Nat) (w : World) (h0 : w.cell? ⟨b, 0, none⟩ = some (.pointer none)) (hsh : w.shape? b = some (59, 2)) (hfz : w.frozen? ⟨b, 0, none⟩ = false) :
  Calls Tryz.prog 62 #[.pointer (some ⟨b, 0, none⟩)] w fun e w' => e = .returned (.tuple #[]) ∧ w' = w.setCell ⟨b, 0, none⟩ (.pointer (some ⟨b, 0, none⟩)) := by
 obtain ⟨j, hj, hjs⟩ := Option.map_eq_some_iff.1 Tryz.szBuilder
 go_enter Tryz.func62, Tryz.ntmps62
 go_wp2
 rw [Lib.run_to_unsafe w ⟨b, 0, none⟩ Tryz.underlying56 Tryz.underlying116 hj (by rw [hjs]; decide) hsh (Nat.zero_lt_succ 1)]
 simp only [Result.andThen]
 rw [Oper.upon_value]
 go_wp2
 rw [run_callFunc_extern Tryz.func74 (by kernel_rfl) (by kernel_rfl) (by kernel_rfl) (e := Extern.AbiNoEscape.same) (by kernel_rfl)]
 rw [Lib.run_noEscape]
 simp only [Result.andThen]
 rw [Oper.upon_value]
 go_wp2
 rw [Lib.run_from_unsafe w ⟨b, 0, none⟩ Tryz.underlying116 Tryz.underlying56 hj hsh Tryz.liesBuilder]
 simp only [Result.andThen]
 rw [Oper.upon_value]
 go_wp2
 go_end0
 exact ⟨rfl, rfl⟩
set_option maxRecDepth 100000 in
set_option maxHeartbeats 1000000 in
theorem copyCheck_used (b : Nat) (w : World) (h0 : w.cell? ⟨b, 0, none⟩ = some (.pointer (some ⟨b, 0, none⟩))) :
  Calls Tryz.prog 62 #[.pointer (some ⟨b, 0, none⟩)] w fun e w' => e = .returned (.tuple #[]) ∧ w = w' := by
 obtain ⟨j, hj, _⟩ := Option.map_eq_some_iff.1 Tryz.szBuilder
 go_enter Tryz.func62, Tryz.ntmps62
 go_wp2
 rw [Lib.run_neq_ptr_same w _ Tryz.underlying56 hj]
 go_wp2
 go_end0
 exact ⟨rfl, rfl⟩
theorem copyCheck_any (B b : Nat) (bs : List Value) (w : World) (h : BldF B b bs w) :
  Calls Tryz.prog 62 #[.pointer (some ⟨b, 0, none⟩)] w fun e w' => e = .returned (.tuple #[]) ∧ BldU B b bs w' ∧ Below B w w' ∧ Others b w w' := by
 rcases h with h | h
 ·refine (copyCheck_fresh b w h.cell0 h.shape h.frozen0).mono ?_
  rintro e w' ⟨rfl, rfl⟩
  exact ⟨rfl, h.used _, (Below.refl B w).setCell (p := ⟨b, 0, none⟩) h.1 _, (Lib.OthersKept.refl _ _ w).setCell ⟨b, 0, none⟩ rfl _⟩
 ·refine (copyCheck_used b w h.cell0).mono ?_
  rintro e w' ⟨rfl, rfl⟩
  exact ⟨rfl, h, Below.refl B _, Lib.OthersKept.refl _ _ _⟩
end Go.Proofs.YtoppncpmfajbcaaGreatDoor
namespace Go.Proofs.YtoppncpmfajbcaaGreatDoor
open Go.RowKit
theorem decode_drop (l : List Nat) (pos : Nat) : Utf8.decode (mks l) pos = decL (l.drop pos) := by
 have h1 := Lib.tail_decode (mks l) pos 0
 rw [Nat.add_zero] at h1
 rw [← h1, size_mks, extract_mks, List.take_length]
 rfl
theorem decL_bd (l : List Nat) : (decL l).1 ≤ 1114111 ∧ 1 ≤ (decL l).2 := by
 unfold decL Lib.decodeL
 exact ⟨Lib.rune_le _ _, Lib.width_pos _ _⟩
section
variable {f : Nat} {l : List Nat} {p nx : Nat} {acc : List Nat}
end
end Go.Proofs.YtoppncpmfajbcaaGreatDoor
