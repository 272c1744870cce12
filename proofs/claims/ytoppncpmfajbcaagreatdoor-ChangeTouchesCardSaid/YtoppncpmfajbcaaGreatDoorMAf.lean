/- The walks of the small functions of decimal: run, small, bytes; strings.HasPrefix. -/
import Derived.Test.YtoppncpmfajbcaaGreatDoorMAa
import Derived.Test.YtoppncpmfajbcaaGreatDoorMAe
import Derived.Test.YtoppncpmfajbcaaGreatDoorProg
set_option linter.unusedVariables false
set_option linter.unusedSimpArgs false
set_option linter.defProp false
set_option linter.constructorNameAsVariable false
namespace Go.Proofs.YtoppncpmfajbcaaGreatDoor
open Go.RowKit
def runL : List Nat → Nat
 | [] => 0
 | c :: l => if 48 ≤ c ∧ c ≤ 57 then runL l + 1 else 0
def AllD (l : List Nat) : Prop := ∀ c ∈ l, 48 ≤ c ∧ c ≤ 57
theorem AllD.get {a : List Nat} (h : AllD a) {k d : Nat} (hk : a[k]? = some d) : 48 ≤ d ∧ d ≤ 57 := h d (List.mem_of_getElem? hk)
theorem drop_cons {l : List Nat} {k c : Nat} (h : l[k]? = some c) : l.drop k = c :: l.drop (k + 1) := by
 have h2 := List.getElem?_eq_some_iff.1 h
 rw [List.drop_eq_getElem_cons h2.1, h2.2]
def smallV : List Nat → Nat → Nat
 | [], n => n
 | c :: l, n => smallV l (if 1099511627776 < 10 * n + (c - 48) then 1099511627776 else 10 * n + (c - 48))
def hasP (p s : List Nat) : Bool := decide (s.take p.length = p)
theorem dec_set {b : List Nat} {k c : Nat} (hd : b[k]? = some c) : ((dec (b.take k) ++ List.replicate (b.length - k) 0).set k (c - 48)) = dec (b.take (k + 1)) ++ List.replicate (b.length - (k + 1)) 0 := by
 have h := List.getElem?_eq_some_iff.1 hd
 have hk := h.1
 have e1 : List.replicate (b.length - k) 0 = 0 :: List.replicate (b.length - (k + 1)) 0 := by
  rw [← List.replicate_succ]; congr 1; have := h.1; omega
 rw [e1, set_mid (by simp [dec]; omega), List.take_succ_eq_append_getElem h.1, h.2]
 simp [dec]
set_option maxHeartbeats 1000000 in
theorem bytes_any (b : List Nat) (hs : AllD b) (w : World) (hl : b.length < 4294967296) : Calls Tryz.prog 131 #[.string (mks b)] w fun e w' =>
  ∃ g, e = .returned (.slice (some ⟨g, 0, none⟩) b.length b.length) ∧ Hid (g = w.heap.size) ∧ Hid (Arr w' g 5 (B8 (dec b))) ∧ Below w.heap.size w w' := by
 go_enter Tryz.func131, Tryz.ntmps131
 go_wp2_with (at_make; go_loud (refine wpList_mk rfl _ _ 57 rfl 5 _ _ Tryz.underlying57 Tryz.info5 rfl _ _ _ _ rfl rfl (b.length) (b.length) (by omega) (by omega) (by omega) (by omega) (by unfold maxLen; omega) ?_; intro g w1 hg harr hbl hsz))
 have hS1 : Hid (Arr w1 g 5 (B8 (dec (b.take 0) ++ List.replicate (b.length - 0) 0))) := by
  have h := harr.out
  show Arr _ _ _ _
  have e : B8 (dec (b.take 0) ++ List.replicate (b.length - 0) 0) = List.replicate b.length (.int .u8 0) := by simp [dec, B8]
  rw [e]; exact h
 clear harr hsz
 go_loopw [10] (fun iv wr => ∃ k : Nat, k ≤ b.length ∧ iv = .int .i64 (k : Int) ∧ Hid (Arr wr g 5 (B8 (dec (b.take k) ++ List.replicate (b.length - k) 0))) ∧ Below w.heap.size w wr) (fun iv _ => b.length - (intOf iv).toNat)
 case atStart => exact ⟨0, by omega, rfl, hS1, hbl⟩
 case round =>
  clear hS1 hbl
  obtain ⟨k, hk, rfl, ha, hb⟩ := hrel
  by_cases hlt : k < b.length
  ·obtain ⟨c, hc⟩ : ∃ c, b[k]? = some c := ⟨_, List.getElem?_eq_getElem hlt⟩
   have cb := hs.get hc
   have gc := get_mks hc (by omega) (by rw [size_mks]; omega)
   have hget : (dec (b.take k) ++ List.replicate (b.length - k) 0)[k]? = some 0 := by
    rw [List.getElem?_append_right (by simp [dec]; omega), List.getElem?_replicate, if_pos (by simp [dec]; omega)]
   have hc2 := ha.out.cell' (B8_get hget)
   have hfr := ha.out.frozen k
   have hst := ha.out.store k (.int .u8 ((c - 48 : Nat) : Int))
   rw [B8_set, dec_set hc] at hst
   have ecast : ((c - 48 : Nat) : Int) = (c : Int) - 48 := by omega
   rw [ecast] at hst
   have HST := Lib.hid hst
   have hB2 := hb.setCell (p := ⟨g, k, none⟩) (by have := hg.out; show w.heap.size ≤ g; omega) (.int .u8 ((c : Int) - 48))
   clear hst ecast hget hc
   go_wp2
   go_roundw
   case rel => exact ⟨k + 1, by omega, by go_num, HST, hB2⟩
   case measure => simp [intOf]; omega
  ·obtain rfl : k = b.length := by omega
   have hst := ha.out
   rw [List.take_length, Nat.sub_self, List.replicate_zero, List.append_nil] at hst
   have HST := Lib.hid hst
   clear hst ha
   go_wp2
   go_ret
   exact ⟨g, rfl, hg, HST, hb⟩
end Go.Proofs.YtoppncpmfajbcaaGreatDoor
namespace Go.Proofs.YtoppncpmfajbcaaGreatDoor
open Go.RowKit
def knownB (b : Int) : Bool := decide (b = 2 ∨ b = 8 ∨ b = 10 ∨ b = 16)
def digV (c : Nat) : Nat := if 48 ≤ c ∧ c ≤ 57 then c - 48 else if 97 ≤ c ∧ c ≤ 102 then c - 97 + 10 else if 65 ≤ c ∧ c ≤ 70 then c - 65 + 10 else 99
end Go.Proofs.YtoppncpmfajbcaaGreatDoor
namespace Go.Proofs.YtoppncpmfajbcaaGreatDoor
open Go.RowKit
end Go.Proofs.YtoppncpmfajbcaaGreatDoor
namespace Go.Proofs.YtoppncpmfajbcaaGreatDoor
open Go.RowKit
end Go.Proofs.YtoppncpmfajbcaaGreatDoor
namespace Go.Proofs.YtoppncpmfajbcaaGreatDoor
open Go.RowKit
end Go.Proofs.YtoppncpmfajbcaaGreatDoor
namespace Go.Proofs.YtoppncpmfajbcaaGreatDoor
open Go.RowKit
end Go.Proofs.YtoppncpmfajbcaaGreatDoor
namespace Go.Proofs.YtoppncpmfajbcaaGreatDoor
open Go.RowKit
end Go.Proofs.YtoppncpmfajbcaaGreatDoor
