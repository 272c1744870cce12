/- The walks of integer.Valid, of graph's scalar (the kinds that JSON has) and form. -/
import Derived.Test.YtoppncpmfajbcaaGreatDoorMAm
import Derived.Test.YtoppncpmfajbcaaGreatDoorMAh
import Derived.Test.YtoppncpmfajbcaaGreatDoorMAj
import Derived.Test.YtoppncpmfajbcaaGreatDoorMAk
set_option linter.unusedVariables false
set_option linter.unusedSimpArgs false
set_option linter.defProp false
set_option linter.constructorNameAsVariable false
namespace Go.Proofs.YtoppncpmfajbcaaGreatDoor
open Go.RowKit
def ScalC (kind : Int) (text : List Nat) (b : Bool) : Prop := ∀ w, LibE w → Calls Tryz.prog 69 #[.int .i64 kind, .string (mks text)] w fun e w' => e = .returned (.bool b) ∧ Below w.heap.size w w'
theorem by_true : By litTrue := by intro c hc; simp [litTrue] at hc; omega
theorem by_false : By litFalse := by intro c hc; simp [litFalse] at hc; omega
set_option maxRecDepth 20000 in
theorem scal_null (text : List Nat) : ScalC 0 text text.isEmpty := fun w _ => by
 go_enter Tryz.func69, Tryz.ntmps69
 go_wp2_with (fail)
 go_ret
 exact ⟨rfl, Below.refl _ _⟩
theorem toList_is {a b : List Nat} (ha : By a) (hb : By b) : (mks a).toList = u8s b ↔ a = b := by
 have h := eq_mks ha hb
 rw [toList_mks b] at h
 constructor
 ·intro e
  rw [show (mks a).toList = b.map UInt8.ofNat from e] at h
  simpa using h
 ·intro e
  subst e
  exact toList_mks a
set_option maxRecDepth 20000 in
theorem scal_bool (text : List Nat) (ht : By text) : ScalC 1 text (decide (text = litTrue ∨ text = litFalse)) := fun w _ => by
 have h1 : (mks text).toList = [116, 114, 117, 101] ↔ text = litTrue := toList_is ht by_true
 have h2 : (mks text).toList = [102, 97, 108, 115, 101] ↔ text = litFalse := toList_is ht by_false
 by_cases e1 : text = litTrue
 ·have k1 : ((mks text).toList = [116, 114, 117, 101]) := h1.2 e1
  rw [show decide (text = litTrue ∨ text = litFalse) = true from decide_eq_true (.inl e1)]
  clear e1 h2 h1
  go_enter Tryz.func69, Tryz.ntmps69
  go_wp2_with (fail)
  go_ret
  exact ⟨rfl, Below.refl _ _⟩
 ·have k1 : ((mks text).toList == [116, 114, 117, 101]) = false := by rw [beq_eq_false_iff_ne]; exact fun h => e1 (h1.1 h)
  have k3 : ¬ ((mks text).toList = [116, 114, 117, 101]) := fun h => e1 (h1.1 h)
  have e2 : decide (text = litTrue ∨ text = litFalse) = decide (text = litFalse) := by simp [e1]
  have k2 : ((mks text).toList == [102, 97, 108, 115, 101]) = decide (text = litFalse) := by
   rw [Bool.eq_iff_iff, beq_iff_eq, decide_eq_true_iff]; exact h2
  rw [e2]
  clear e1 e2 h1 h2
  generalize decide (text = litFalse) = b at *
  go_enter Tryz.func69, Tryz.ntmps69
  go_wp2_with (fail)
  go_ret
  exact ⟨rfl, Below.refl _ _⟩
set_option maxRecDepth 20000 in
theorem scal_text (text : List Nat) (hl : text.length < 4294967296) : ScalC 5 text (decide (ckErr (checkV text) = 0)) := fun w hw => by
 have D := Lib.hid (check_any text hl w hw.lib)
 unfold CheckR at D
 generalize ckErr (checkV text) = er at *
 generalize ckAt (checkV text) = ea at *
 go_enter Tryz.func69, Tryz.ntmps69
 go_wp2_with (go_at_call 82; ((with_reducible refine D.out.mono ?_)); rintro e w1 ⟨rfl, hb⟩)
 go_ret
 exact ⟨rfl, hb⟩
set_option maxRecDepth 20000 in
theorem scal_int (text : List Nat) (ht : By text) : ScalC 2 text (parseC text).isSome := fun w _ => by
 have D := Lib.hid (valid_any text w ht)
 generalize (parseC text).isSome = b at *
 go_enter Tryz.func69, Tryz.ntmps69
 go_wp2_with (go_at_call 79; ((with_reducible refine D.out.mono ?_)); rintro e w1 ⟨rfl, hb⟩)
 go_ret
 exact ⟨rfl, hb⟩
set_option maxRecDepth 20000 in
theorem scal_dec (text : List Nat) (ht : By text) (hl : text.length < 4294967295) : ScalC 3 text (validD text) := fun w hw => by
 have D := Lib.hid (dvalid_any text ht hl w hw)
 generalize validD text = b at *
 go_enter Tryz.func69, Tryz.ntmps69
 go_wp2_with (go_at_call 80; ((with_reducible refine D.out.mono ?_)); rintro e w1 ⟨rfl, hb⟩)
 go_ret
 exact ⟨rfl, hb⟩
def formV (nd : GNode) (b : Bool) : Bool :=
 if nd.kind = 9 then nd.text.isEmpty && !nd.ord && decide (nd.keys.length = 0)
 else if nd.kind = 10 then nd.text.isEmpty && decide (nd.keys.length = nd.items.length)
 else !nd.ord && decide (nd.keys.length = 0) && decide (nd.items.length = 0) && b
set_option maxRecDepth 20000 in
set_option maxHeartbeats 2000000 in
theorem form_any (nd : GNode) (hl : nd.keys.length ≤ 65536) (hl2 : nd.items.length ≤ 65536) (h11 : nd.kind ≠ 11) (b : Bool) (hb : nd.kind ≠ 9 → nd.kind ≠ 10 → ScalC nd.kind nd.text b) (K I : Option Addr) (ck ci : Nat) (w : World) (hw : LibE w) :
  Calls Tryz.prog 44 #[.agg #[.int .i64 nd.kind, .string (mks nd.text), .bool nd.ord, .slice K nd.keys.length ck, .slice I nd.items.length ci]] w fun e w' => e = .returned (.bool (formV nd b)) ∧ Below w.heap.size w w' := by
 have h1 : Hid (Arr (w.alloc (.cells #[.int .i64 nd.kind, .string (mks nd.text), .bool nd.ord, .slice K nd.keys.length ck, .slice I nd.items.length ci] 34)) w.heap.size 34 [.int .i64 nd.kind, .string (mks nd.text), .bool nd.ord, .slice K nd.keys.length ck, .slice I nd.items.length ci]) := Arr.new w _ _
 have hB1 : Hid (Below w.heap.size w (w.alloc (.cells #[.int .i64 nd.kind, .string (mks nd.text), .bool nd.ord, .slice K nd.keys.length ck, .slice I nd.items.length ci] 34))) := (Below.refl _ _).alloc (Nat.le_refl _) _
 unfold formV
 generalize nd.keys.length = nk at *
 generalize nd.items.length = ni at *
 generalize nd.kind = kd at *
 generalize nd.text = tx at *
 generalize nd.ord = od at *
 generalize hFV : (if kd = 9 then tx.isEmpty && !od && decide (nk = 0) else if kd = 10 then tx.isEmpty && decide (nk = ni) else !od && decide (nk = 0) && decide (ni = 0) && b) = FV
 have HFV := Lib.hid hFV
 clear hFV
 go_enter Tryz.func44, Tryz.ntmps44
 go_upto_region 1 with (fail)
 generalize (w.alloc (.cells #[.int .i64 kd, .string (mks tx), .bool od, .slice K nk ck, .slice I ni ci] 34)) = W at *
 have x0 := h1.out.cell' (i := 0) rfl
 have x1 := h1.out.cell' (i := 1) rfl
 have x2 := h1.out.cell' (i := 2) rfl
 have x3 := h1.out.cell' (i := 3) rfl
 have x4 := h1.out.cell' (i := 4) rfl
 have hFV := HFV.out
 clear HFV
 have hte : tx.isEmpty = true ∨ tx.isEmpty = false := by cases tx.isEmpty <;> simp
 have kz : ((nk : Int) == 0) = decide (nk = 0) := by rw [Bool.eq_iff_iff, beq_iff_eq, decide_eq_true_iff]; omega
 have iz : ((ni : Int) == 0) = decide (ni = 0) := by rw [Bool.eq_iff_iff, beq_iff_eq, decide_eq_true_iff]; omega
 have kiz : ((nk : Int) == (ni : Int)) = decide (nk = ni) := by rw [Bool.eq_iff_iff, beq_iff_eq, decide_eq_true_iff]; omega
 generalize decide (nk = 0) = bk at *
 generalize decide (ni = 0) = bi at *
 generalize decide (nk = ni) = bki at *
 by_cases e9 : kd = 9
 ·subst e9
  rw [if_pos rfl] at hFV
  rcases hte with ht | ht
  ·have hv : FV = (!od && bk) := by rw [← hFV, ht]; rfl
   subst hv
   clear hFV
   cases od
   all_goals
    go_wp2_with (fail)
    go_ret
    exact ⟨rfl, hB1.out⟩
  ·have hv : FV = false := by rw [← hFV, ht]; rfl
   subst hv
   clear hFV
   go_wp2_with (fail)
   go_ret
   exact ⟨rfl, hB1.out⟩
 ·by_cases e10 : kd = 10
  ·subst e10
   rw [if_neg (by omega), if_pos rfl] at hFV
   rcases hte with ht | ht
   ·have hv : FV = bki := by rw [← hFV, ht]; rfl
    subst hv
    clear hFV
    go_wp2_with (fail)
    go_ret
    exact ⟨rfl, hB1.out⟩
   ·have hv : FV = false := by rw [← hFV, ht]; rfl
    subst hv
    clear hFV
    go_wp2_with (fail)
    go_ret
    exact ⟨rfl, hB1.out⟩
  ·rw [if_neg e9, if_neg e10] at hFV
   have D := Lib.hid (hb e9 e10 W (hw.keep hB1.out))
   subst hFV
   cases od
   ·cases bk
    ·go_wp2_with (fail)
     go_ret
     exact ⟨rfl, hB1.out⟩
    ·cases bi
     ·go_wp2_with (fail)
      go_ret
      exact ⟨rfl, hB1.out⟩
     ·go_wp2_with (go_at_call 69; ((with_reducible refine D.out.mono ?_)); rintro e w1 ⟨rfl, hb1⟩)
      go_ret
      exact ⟨rfl, hB1.out.trans (hb1.mono hB1.out.size)⟩
   ·go_wp2_with (fail)
    go_ret
    exact ⟨rfl, hB1.out⟩
end Go.Proofs.YtoppncpmfajbcaaGreatDoor
