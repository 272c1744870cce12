/- The walks of text, result and Parse of decimal. -/
import Derived.Test.YtbhigefbihpnlaaGreatDoorShelf
import Derived.Test.YtbhigefbihpnlaaGreatDoorMAf
import Derived.Lib.ItoaLen
import Derived.Lib.AppendIntMem
import Derived.Test.YtbhigefbihpnlaaGreatDoorMAd
import Derived.Lib.OthersKept
import Derived.Lib.Builder
import Derived.Laws.Externs
import Derived.Lib.RuneCountTail
import Derived.Deep.MidRow
set_option linter.unusedVariables false
set_option linter.unusedSimpArgs false
set_option linter.defProp false
set_option linter.constructorNameAsVariable false
namespace Go.Proofs.YtbhigefbihpnlaaGreatDoor
open Go.RowKit
def Pow10 (w : World) : Prop := Lib.TabIs Tryz.prog w "internal/strconv.uint64pow10" .u64 Lib.pow10Tab
theorem Pow10.keep {w w' : World} (h : Pow10 w) (hb : Below w.heap.size w w') : Pow10 w' := Lib.tabBelow_of_tabIs h w' hb
theorem itoa_any (n : Int) (h0 : -9223372036854775808 ≤ n) (h1 : n ≤ 9223372036854775807) (w : World) (ht : Pow10 w) :
  Calls Tryz.prog 160 #[.int .i64 n] w fun e w' => e = .returned (.string (mks (itoaL n))) ∧ Below w.heap.size w w' := by
 refine (Tryz.strconv_Itoa n h0 h1 w ht).mono ?_
 rintro e w' ⟨rfl, k, os, rfl⟩
 exact ⟨by rw [mks_u8]; rfl, Lib.below_grow _ w (Nat.le_refl _) k os⟩
theorem itoaL_len (n : Int) (h0 : -9223372036854775808 ≤ n) (h1 : n ≤ 9223372036854775807) : (itoaL n).length ≤ 21 := by
 unfold itoaL; rw [List.length_map]; exact Lib.itoa_length_le n h0 h1
theorem coefL_len (neg : Bool) (d : List Nat) : (coefL neg d).length ≤ d.length + 1 := by
 unfold coefL signL
 split
 ·simp
 ·split <;> simp [asc] <;> omega
set_option maxRecDepth 8000 in
set_option maxHeartbeats 2000000 in
theorem dtext_any (neg : Bool) (d : List Nat) (ex : Int) (A : Option Addr) (n c : Nat) (w : World) (hn : Hid (n = d.length)) (hr : Rd w A (B8 d)) (ht : Ten d) (hm : n ≤ 4294967296)
  (h0 : -9223372036854775808 ≤ ex) (h1 : ex ≤ 9223372036854775807) (hp : Pow10 w) :
  Calls Tryz.prog 118 #[.agg #[.bool neg, .slice A n c, .int .i64 ex]] w fun e w' => e = .returned (.string (mks (textV (neg, d, ex)))) ∧ Below w.heap.size w w' := by
 have hT : textV (neg, d, ex) = coefL neg d ++ [101] ++ itoaL ex := rfl
 rw [hT]
 have hl1 := coefL_len neg d
 have hl2 := itoaL_len ex h0 h1
 generalize hcl : coefL neg d = cl at *
 generalize hil : itoaL ex = il at *
 have HCL := Lib.hid hcl
 have HIL := Lib.hid hil
 clear hcl hil hT
 have HX := Lib.hid (Arr.new w 162 [.bool neg, .slice A n c, .int .i64 ex])
 have HBd : Below w.heap.size w (w.alloc (.cells #[.bool neg, .slice A n c, .int .i64 ex] 162)) := (Below.refl _ _).alloc (Nat.le_refl _) _
 have hrW := hr.keep HBd
 have hpW := hp.keep HBd
 go_enter Tryz.func118, Tryz.ntmps118
 go_upto_region 1 with (fail)
 have hlow : w.heap.size < (w.alloc (.cells #[.bool neg, .slice A n c, .int .i64 ex] 162)).heap.size := HX.out.lt
 generalize (w.alloc (.cells #[.bool neg, .slice A n c, .int .i64 ex] 162)) = W at *
 obtain ⟨zz, hzz⟩ : ∃ zz, Hid (W.heap.size = zz) := ⟨_, rfl⟩
 have hz1 : w.heap.size < zz := by have := hzz.out; omega
 have hz2 : zz ≤ W.heap.size := by have := hzz.out; omega
 have RX : ∀ w', Below zz W w' → Rd w' A (B8 d) := fun w' h => hrW.keep (by rw [hzz.out]; exact h)
 have RP : ∀ w', Below zz W w' → Pow10 w' := fun w' h => hpW.keep (by rw [hzz.out]; exact h)
 have q0 : ∀ w', Below zz W w' → w'.cell? ⟨w.heap.size, 0, none⟩ = some (.bool neg) := fun w' h => (Arr.below (w := W) HX.out h (by omega)).cell' (i := 0) rfl; have qf0 : ∀ w', Below zz W w' → w'.frozen? ⟨w.heap.size, 0, none⟩ = false := fun w' h => (Arr.below (w := W) HX.out h (by omega)).frozen 0; have q1 : ∀ w', Below zz W w' → w'.cell? ⟨w.heap.size, 1, none⟩ = some (.slice A n c) := fun w' h => (Arr.below (w := W) HX.out h (by omega)).cell' (i := 1) rfl; have qf1 : ∀ w', Below zz W w' → w'.frozen? ⟨w.heap.size, 1, none⟩ = false := fun w' h => (Arr.below (w := W) HX.out h (by omega)).frozen 1; have q2 : ∀ w', Below zz W w' → w'.cell? ⟨w.heap.size, 2, none⟩ = some (.int .i64 ex) := fun w' h => (Arr.below (w := W) HX.out h (by omega)).cell' (i := 2) rfl; have qf2 : ∀ w', Below zz W w' → w'.frozen? ⟨w.heap.size, 2, none⟩ = false := fun w' h => (Arr.below (w := W) HX.out h (by omega)).frozen 2
 have E1 : Hid (∀ w, Below zz W w → Calls Tryz.prog 159 #[.agg #[.bool neg, .slice A n c, .int .i64 ex]] w fun e w' => e = .returned (.string (mks cl)) ∧ Below w.heap.size w w') := fun w h => by rw [← HCL.out]; exact coef_any neg d ex A n c w hn (RX w h) ht hm
 have E2 : Hid (∀ w, Below zz W w → Calls Tryz.prog 160 #[.int .i64 ex] w fun e w' => e = .returned (.string (mks il)) ∧ Below w.heap.size w w') := fun w h => by rw [← HIL.out]; exact itoa_any ex h0 h1 w (RP w h)
 have HS : Below zz W W := Below.refl _ _
 have HSd : Below zz W W.drew := Below.drew HS
 have hz3 : zz ≤ W.drew.heap.size := hz2
 have hdn : d.length ≤ 4294967296 := by have := hn.out; omega
 have e101 : (ByteArray.mk #[101] : ByteArray) = mks [101] := mks_lit1 101
 have hl3 : ¬ 9223372036854775807 < cl.length + 1 := by omega
 have hl4 : ¬ 9223372036854775807 < cl.length + 1 + il.length := by omega
 have hl5 : (([101] : List Nat)).length = 1 := rfl
 clear RX RP hr hrW hp hpW
 go_region_held3 (fun w' => Below zz W w') (assumption) (first | (go_at_call 159; ((with_reducible refine (E1.out _ (by assumption)).mono ?_)); (all_goals try (fail)); rintro e w5 ⟨rfl, hb5⟩; have z5 := hb5.size; (try simp at z5); have hS5_0 : Below zz W w5 := Below.trans (by first | assumption | exact Below.alloc (by assumption) (by first | omega | (simp; omega)) _ | exact Below.allocDrew (by assumption) (by first | omega | (simp; omega)) _) (hb5.mono (by first | omega | (simp; omega)))) | (go_at_call 160; ((with_reducible refine (E2.out _ (by assumption)).mono ?_)); (all_goals try (fail)); rintro e w6 ⟨rfl, hb6⟩; have z6 := hb6.size; (try simp at z6); have hS6_0 : Below zz W w6 := Below.trans (by first | assumption | exact Below.alloc (by assumption) (by first | omega | (simp; omega)) _ | exact Below.allocDrew (by assumption) (by first | omega | (simp; omega)) _) (hb6.mono (by first | omega | (simp; omega)))))
 all_goals
  go_wp2
  go_ret
  refine ⟨by simp, HBd.trans ?_⟩
  have hdw : W.drew.heap.size = W.heap.size := rfl
  have hW : Below w.heap.size W W.drew := Below.drew (Below.refl _ _)
  first
   | exact (hW.trans (hb5.mono (by omega))).trans (hb6.mono (by omega))
   | exact (hW.trans (hb6.mono (by omega))).trans (hb5.mono (by omega))
end Go.Proofs.YtbhigefbihpnlaaGreatDoor
namespace Go.Proofs.YtbhigefbihpnlaaGreatDoor
open Go.RowKit
theorem lead_sub (l : List Nat) : ∀ x ∈ lead 0 l, x ∈ l := by
 induction l with
 | nil => intro x h; exact h
 | cons c l ih =>
  intro x h
  by_cases hc : c = 0
  ·subst hc; rw [lead_eq] at h; exact List.mem_cons_of_mem _ (ih x h)
  ·rw [lead_ne hc] at h; exact h
theorem ten_decD {l : List Nat} (h : AllD l) : Ten (dec l) := by
 intro x hx
 obtain ⟨c, hc, rfl⟩ := List.mem_map.1 hx
 have := h c hc
 omega
def NumB (m : Nat) (x : Bool × List Nat × Int) : Prop := Ten x.2.1 ∧ x.2.1.length ≤ m ∧ -1099511627776 - m ≤ x.2.2 ∧ x.2.2 ≤ 1099511627776 + m
theorem normV_ok {neg : Bool} {d : List Nat} {ex : Int} (h : Ten d) (m : Nat) (h1 : -1099511627776 - m ≤ ex) (h2 : ex + d.length ≤ 1099511627776 + m) (h3 : d.length ≤ m) : NumB m (normV neg d ex) := by
 have hl := lead_le 0 d
 unfold normV NumB
 split
 ·exact ⟨Ten.nil, by simp, by simp only; omega, by simp only; omega⟩
 ·refine ⟨fun x hx => h x (lead_sub d x (List.mem_of_mem_take hx)), ?_, ?_, ?_⟩
  ·simp only [List.length_take]; omega
  ·simp only; omega
  ·simp only; omega
theorem NumB.mono {m n : Nat} {x : Bool × List Nat × Int} (h : NumB m x) (hm : m ≤ n) : NumB n x := ⟨h.1, by have := h.2.1; omega, by have := h.2.2.1; omega, by have := h.2.2.2; omega⟩
end Go.Proofs.YtbhigefbihpnlaaGreatDoor
namespace Go.Proofs.YtbhigefbihpnlaaGreatDoor
open Go.RowKit
theorem data_mks (l : List Nat) : (mks l).data.toList = u8s l := by simp [mks, u8s]
structure LibOK (w : World) : Prop where
 pow : Pow10 w
 max : ∃ m, w.cell? ⟨5, 0, none⟩ = some (.int .i64 m)
 tabs : Lib.Utf8Tabs 2 3 w
theorem LibOK.keep {w w' : World} (h : LibOK w) (hb : Below w.heap.size w w') : LibOK w' := by
 obtain ⟨m, hm⟩ := h.max
 exact ⟨h.pow.keep hb, ⟨m, (hb.cell (block_lt_of_cell hm)).trans hm⟩, Utf8Tabs_below h.tabs hb⟩
def ixBV (c : Nat) (l : List Nat) : Int := match idxB c l with | some n => (n : Int) | none => -1
theorem u8_beq {a b : Nat} (ha : a < 256) (hb : b < 256) : (UInt8.ofNat a == UInt8.ofNat b) = decide (a = b) := by
 by_cases h : a = b
 ·subst h; simp
 ·rw [decide_eq_false h, beq_eq_false_iff_ne]
  exact fun e => h (ofNat_inj ha hb e)
theorem ixB_eq {l : List Nat} (hl : By l) {c : Nat} (hc : c < 256) : Lib.indexByte (u8s l) (UInt8.ofNat c) = ixBV c l := by
 induction l with
 | nil => rfl
 | cons x l ih =>
  have h := ih hl.tail
  unfold u8s at h ⊢
  rw [List.map_cons, Lib.indexByte, u8_beq hl.head hc, h]
  unfold ixBV
  rw [idxB]
  by_cases hx : x = c
  ·simp [hx]
  ·simp only [hx, decide_false, Bool.false_eq_true, if_false]
   cases idxB c l with
   | none => rfl
   | some n =>
    have : ((n : Int) == -1) = false := by rw [beq_eq_false_iff_ne]; omega
    simp [this]
end Go.Proofs.YtbhigefbihpnlaaGreatDoor
namespace Go.Proofs.YtbhigefbihpnlaaGreatDoor
open Go.RowKit
end Go.Proofs.YtbhigefbihpnlaaGreatDoor
namespace Go.Proofs.YtbhigefbihpnlaaGreatDoor
open Go.RowKit
abbrev BldF (B b : Nat) (bs : List Value) (w : World) : Prop := Lib.IsBuilderF 190 5 B b bs w
abbrev BldU (B b : Nat) (bs : List Value) (w : World) : Prop := Lib.BuilderAtF 190 5 B b (.pointer (some ⟨b, 0, none⟩)) bs w
abbrev Others (b : Nat) (w w' : World) : Prop := Lib.OthersKept 5 (some b) w w'
theorem Tryz.szBuilder : (Tryz.prog.info? 190).map (·.size) = some 2 := by kernel_rfl
theorem Tryz.liesBuilder : liesAt Tryz.prog Tryz.prog.depth 190 (2 / Tryz.prog.cellsOf 190) 0 190 1 = true := by kernel_rfl
set_option maxRecDepth 100000 in
set_option maxHeartbeats 1000000 in
theorem copyCheck_fresh (b : Nat) (w : World) (h0 : w.cell? ⟨b, 0, none⟩ = some (.pointer none)) (hsh : w.shape? b = some (190, 2)) (hfz : w.frozen? ⟨b, 0, none⟩ = false) :
  Calls Tryz.prog 143 #[.pointer (some ⟨b, 0, none⟩)] w fun e w' => e = .returned (.tuple #[]) ∧ w' = w.setCell ⟨b, 0, none⟩ (.pointer (some ⟨b, 0, none⟩)) := by
 obtain ⟨j, hj, hjs⟩ := Option.map_eq_some_iff.1 Tryz.szBuilder
 go_enter Tryz.func143, Tryz.ntmps143
 go_wp2
 rw [Lib.run_to_unsafe w ⟨b, 0, none⟩ Tryz.underlying188 Tryz.underlying63 hj (by rw [hjs]; decide) hsh (Nat.zero_lt_succ 1)]
 simp only [Result.andThen]
 rw [Oper.upon_value]
 go_wp2
 rw [run_callFunc_extern Tryz.func177 (by kernel_rfl) (by kernel_rfl) (by kernel_rfl) (e := Extern.AbiNoEscape.same) (by kernel_rfl)]
 rw [Lib.run_noEscape]
 simp only [Result.andThen]
 rw [Oper.upon_value]
 go_wp2
 rw [Lib.run_from_unsafe w ⟨b, 0, none⟩ Tryz.underlying63 Tryz.underlying188 hj hsh Tryz.liesBuilder]
 simp only [Result.andThen]
 rw [Oper.upon_value]
 go_wp2
 go_end0
 exact ⟨rfl, rfl⟩
set_option maxRecDepth 100000 in
set_option maxHeartbeats 1000000 in
theorem copyCheck_used (b : Nat) (w : World) (h0 : w.cell? ⟨b, 0, none⟩ = some (.pointer (some ⟨b, 0, none⟩))) :
  Calls Tryz.prog 143 #[.pointer (some ⟨b, 0, none⟩)] w fun e w' => e = .returned (.tuple #[]) ∧ w = w' := by
 obtain ⟨j, hj, _⟩ := Option.map_eq_some_iff.1 Tryz.szBuilder
 go_enter Tryz.func143, Tryz.ntmps143
 go_wp2
 rw [Lib.run_neq_ptr_same w _ Tryz.underlying188 hj]
 go_wp2
 go_end0
 exact ⟨rfl, rfl⟩
theorem copyCheck_any (B b : Nat) (bs : List Value) (w : World) (h : BldF B b bs w) :
  Calls Tryz.prog 143 #[.pointer (some ⟨b, 0, none⟩)] w fun e w' => e = .returned (.tuple #[]) ∧ BldU B b bs w' ∧ Below B w w' ∧ Others b w w' := by
 rcases h with h | h
 ·refine (copyCheck_fresh b w h.cell0 h.shape h.frozen0).mono ?_
  rintro e w' ⟨rfl, rfl⟩
  exact ⟨rfl, h.used _, (Below.refl B w).setCell (p := ⟨b, 0, none⟩) h.1 _, (Lib.OthersKept.refl _ _ w).setCell ⟨b, 0, none⟩ rfl _⟩
 ·refine (copyCheck_used b w h.cell0).mono ?_
  rintro e w' ⟨rfl, rfl⟩
  exact ⟨rfl, h, Below.refl B _, Lib.OthersKept.refl _ _ _⟩
end Go.Proofs.YtbhigefbihpnlaaGreatDoor
namespace Go.Proofs.YtbhigefbihpnlaaGreatDoor
open Go.RowKit
theorem decode_drop (l : List Nat) (pos : Nat) : Utf8.decode (mks l) pos = decL (l.drop pos) := by
 have h1 := Lib.tail_decode (mks l) pos 0
 rw [Nat.add_zero] at h1
 rw [← h1, size_mks, extract_mks, List.take_length]
 rfl
theorem decL_bd (l : List Nat) : (decL l).1 ≤ 1114111 ∧ 1 ≤ (decL l).2 := by
 unfold decL Lib.decodeL
 exact ⟨Lib.rune_le _ _, Lib.width_pos _ _⟩
section
variable {f : Nat} {l : List Nat} {p nx : Nat} {acc : List Nat}
end
end Go.Proofs.YtbhigefbihpnlaaGreatDoor
namespace Go.Proofs.YtbhigefbihpnlaaGreatDoor
open Go.RowKit
theorem decodeGo_mks (l : List Nat) (h : l ≠ []) : Lib.decodeGo (mks l) = decL l := by
 unfold Lib.decodeGo
 rw [if_neg (by rw [size_mks]; exact fun h' => h (List.eq_nil_of_length_eq_zero h'))]
 have := decode_drop l 0
 simpa using this
theorem decRune_h (l : List Nat) (h : l ≠ []) {r k : Nat} (hd : decL l = (r, k)) : Hid (∀ w, LibOK w → Calls Tryz.prog 81 #[.string (mks l)] w fun e w' => e = .returned (.tuple #[.int .i32 (r : Int), .int .i64 (k : Int)]) ∧ Below w.heap.size w w') := fun w hw => by
 have := Tryz.utf8_DecodeRuneInString (mks l) w hw.tabs
 rw [decodeGo_mks l h, hd] at this
 exact this
def ckAt (o : Option Nat) : Int := match o with | some k => (k : Int) | none => -1
def ckErr (o : Option Nat) : Int := match o with | some _ => 11 | none => 0
def CheckR (w : World) (o : Option Nat) (e : Ending) (w' : World) : Prop := e = .returned (.tuple #[.int .i64 (ckAt o), .int .i64 (ckErr o)]) ∧ Below w.heap.size w w'
theorem check_cases {f : Nat} {l : List Nat} {p r k : Nat} {v : Option Nat} (hne : l ≠ []) (hd : decL l = (r, k)) (h : checkG (f + 1) p l = v) :
  (r = 65533 ∧ k = 1 ∧ v = some p) ∨ (r = 65533 ∧ k ≠ 1 ∧ checkG f (p + k) (l.drop k) = v) ∨ (r ≠ 65533 ∧ checkG f (p + k) (l.drop k) = v) := by
 rw [checkG, if_neg hne, hd] at h
 by_cases hr : r = 65533
 ·by_cases hk : k = 1
  ·subst hr; subst hk; simp at h; exact .inl ⟨rfl, rfl, h.symm⟩
  ·rw [if_neg (by intro e; exact hk (congrArg Prod.snd e))] at h; exact .inr (.inl ⟨hr, hk, h⟩)
 ·rw [if_neg (by intro e; exact hr (congrArg Prod.fst e))] at h; exact .inr (.inr ⟨hr, h⟩)
set_option maxRecDepth 8000 in
set_option maxHeartbeats 2000000 in
theorem check_any (l : List Nat) (hlen : l.length < 4294967296) (w : World) (hw : LibOK w) : Calls Tryz.prog 59 #[.string (mks l)] w (CheckR w (checkV l)) := by
 generalize hv : checkV l = v
 have HV : Hid (checkG l.length 0 (l.drop 0) = v) := hv
 have HW := Lib.hid hw
 clear hv hw
 go_enter Tryz.func59, Tryz.ntmps59
 go_wp2
 go_loopw [] (fun wr => ∃ pos fuel, wr.heap[w.heap.size]? = some (.stringIter (mks l) pos) ∧ Below w.heap.size w wr ∧ Hid (checkG fuel pos (l.drop pos) = v) ∧ l.length ≤ pos + fuel ∧ pos ≤ l.length) (fun wr => l.length - wr.iterPos w.heap.size)
 case atStart =>
  refine ⟨0, l.length, ?_, (Below.refl _ w).alloc (Nat.le_refl _) _, HV, by omega, by omega⟩
  have := World.iter_heap w (mks l) 0
  simpa using this
 case round =>
  obtain ⟨pos, fuel, hit, hbw, hq, hfu, hpl⟩ := hrel
  have hsz : w.heap.size < wr.heap.size := (Array.getElem?_eq_some_iff.1 hit).1
  by_cases hp : pos < l.length
  ·have hne : l.drop pos ≠ [] := by intro h; have := congrArg List.length h; simp at this; omega
   have hnx0 : ∀ ty, (Instr.next (.pointer (some ⟨w.heap.size, 0, none⟩)) true ty).run Tryz.prog wr = _ := fun ty => Lib.run_next_any_at wr w.heap.size (mks l) pos ty hit (by rw [size_mks]; exact hp)
   rw [decode_drop] at hnx0
   obtain ⟨f, rfl⟩ : ∃ f, fuel = f + 1 := ⟨fuel - 1, by omega⟩
   have hd := decL_bd (l.drop pos)
   have hkl : (decL (l.drop pos)).2 ≤ (l.drop pos).length := by
    have := Lib.decodeL_le (u8s (l.drop pos)) (by intro h; exact hne (List.map_eq_nil_iff.1 h))
    rw [show (u8s (l.drop pos)).length = (l.drop pos).length by unfold u8s; rw [List.length_map]] at this
    exact this
   rw [List.length_drop] at hkl
   obtain ⟨⟨r, k⟩, hdd⟩ : ∃ x, decL (l.drop pos) = x := ⟨_, rfl⟩
   have DD := decRune_h (l.drop pos) hne hdd
   have hcases := check_cases hne hdd hq.out
   rw [hdd] at hnx0 hd hkl
   rw [List.drop_drop] at hcases
   clear hq hdd hne
   simp only at hd hkl hcases hnx0
   have hit2 := Lib.iterAt_heap wr w.heap.size (mks l) pos (pos + k) hit
   have hbw2 := Lib.below_iterAt hbw (k := w.heap.size) (by omega) (mks l) (pos + k)
   have hsz2 : w.heap.size < (wr.iterAt w.heap.size (mks l) (pos + k)).heap.size := by rw [Lib.iterAt_size]; exact hsz
   have HIT2 := Lib.hid hit2
   clear hit2 hbw
   have hok := HW.out.keep hbw2
   have hp' : (pos : Int) ≤ l.length := by omega
   rcases hcases with ⟨rfl, rfl, hq⟩ | ⟨rfl, h1, hq⟩ | ⟨hr, hq⟩
   ·subst hq
    go_wp2_with (go_at_call 81; ((with_reducible refine (DD.out _ hok).mono ?_)); rintro e w5 ⟨rfl, hb5⟩)
    go_ret2
    exact ⟨rfl, hbw2.trans (hb5.mono (by omega))⟩
   ·have h1' : ((k : Int) == 1) = false := by simp; omega
    have HQ := Lib.hid hq
    clear hq h1
    go_wp2_with (go_at_call 81; ((with_reducible refine (DD.out _ hok).mono ?_)); rintro e w5 ⟨rfl, hb5⟩)
    have hit5 := (hb5.block _ hsz2).trans HIT2.out
    go_roundw
    case rel => exact ⟨pos + k, f, hit5, hbw2.trans (hb5.mono (by omega)), HQ, by omega, by omega⟩
    case measure =>
     simp only [World.iterPos, hit5, hit]
     omega
   ·have hr' : ((r : Int) == 65533) = false := by simp; omega
    have HQ := Lib.hid hq
    clear hq hr
    go_wp2
    go_roundw
    case rel => exact ⟨pos + k, f, HIT2.out, hbw2, HQ, by omega, by omega⟩
    case measure =>
     simp only [World.iterPos, HIT2.out, hit]
     omega
  ·have hnx0 : ∀ ty, (Instr.next (.pointer (some ⟨w.heap.size, 0, none⟩)) true ty).run Tryz.prog wr = _ := fun ty => Lib.run_next_end_at wr w.heap.size (mks l) pos ty hit (by rw [size_mks]; exact hp)
   have hd : l.drop pos = [] := List.drop_eq_nil_of_le (by omega)
   have hce : checkG fuel pos [] = none := by cases fuel <;> simp [checkG]
   rw [hd, hce] at hq
   clear hd hce
   go_wp2
   go_ret2
   have h := hq.out
   subst h
   exact ⟨rfl, hbw⟩
end Go.Proofs.YtbhigefbihpnlaaGreatDoor
namespace Go.Proofs.YtbhigefbihpnlaaGreatDoor
open Go.RowKit
theorem three (p q r : Prop) : ((p ∨ q ∨ r) ∧ (p ∨ (¬ p ∧ q) ∨ (¬ p ∧ ¬ q ∧ r))) ∨ (¬ (p ∨ q ∨ r) ∧ (¬ p ∧ ¬ q ∧ ¬ r)) := by
 by_cases hp : p <;> by_cases hq : q <;> by_cases hr : r <;> simp [hp, hq, hr]
end Go.Proofs.YtbhigefbihpnlaaGreatDoor
namespace Go.Proofs.YtbhigefbihpnlaaGreatDoor
open Go.RowKit
end Go.Proofs.YtbhigefbihpnlaaGreatDoor
namespace Go.Proofs.YtbhigefbihpnlaaGreatDoor
open Go.RowKit
theorem cells_new (w : World) (t : TypeId) (us : List Value) : ∀ j u, us[j]? = some u → (w.alloc (.cells us.toArray t)).cell? ((⟨w.heap.size, 0, none⟩ : Addr).add j) = some u := by
 intro j u h
 obtain ⟨ad, e, hc⟩ := (Arr.new w t us).rd j u h
 obtain rfl := Option.some.inj e
 exact hc
section
variable {P : Program} {w : World} {ops : Array Oper} {rest : List Oper} {o : Oper} {a : Act} {Q : Exit → Act → World → Prop}
theorem wpList_apS (hg : o.guard = none) (s x : Operand) (t : TypeId) (ho : o.op = .call { callee := .builtin .append, args := #[s, x], argTypes := #[t, t] }) (base : Nat) (e : TypeId) (z : Value) (k bytes : Nat)
  (ht : P.underlying t = some (.slice e)) (h2 : (P.info? e).map (fun i => (i.zero, i.size, i.bytes)) = some (some z, k, bytes)) (hz : z.cells.size = k) (hk : 0 < k)
  (v : Value) (n : Nat) (xs : List Value) (hs : a.eval s = v) (hown : w.ownsRow base e k v n xs) (ad : Addr) (c : Nat) (us : List Value) (hus : us.length = k) (hx : a.eval x = .slice (some ad) 1 c)
  (hc : ∀ j u, us[j]? = some u → w.cell? (ad.add j) = some u) (h1 : us.all (·.oneCell') = true) (hm : n + 1 ≤ maxLen) (hb : (n + 1) * bytes ≤ 140737488355328) (hbase : base ≤ w.heap.size)
  (hK : ∀ v' w', w'.ownsRow base e k v' (n + 1) (xs ++ us) → w.grownBy w' v.ownBlock → (v'.ownBlock = v.ownBlock ∨ v'.ownBlock = some w.heap.size) → wpList P ops Q rest (a.put o.dst v') w') : wpList P ops Q (o :: rest) a w := by
 obtain ⟨i, hi, hz1, hz2, hz3⟩ := info_parts h2
 exact wpList_append_own_at w hg s x t ho base e i z k bytes ht hi hz1 hz2 hz3 hz hk v n xs hs hown ad 1 c us hx (by omega) hc (fun u hu => (List.all_eq_true.1 h1) u hu) hm hb hbase (fun v' w' h3 h4 _ h5 => hK v' w' h3 h4 h5)
end
section
variable {P : Program} {w : World} {ops : Array Oper} {o : Oper} {a : Act} {K : Act → World → Prop} {Q : Exit → Act → World → Prop} {E : Prop}
theorem step_apS (hg : o.guard = none) (s x : Operand) (t : TypeId) (ho : o.op = .call { callee := .builtin .append, args := #[s, x], argTypes := #[t, t] }) (base : Nat) (e : TypeId) (z : Value) (k bytes : Nat)
  (ht : P.underlying t = some (.slice e)) (h2 : (P.info? e).map (fun i => (i.zero, i.size, i.bytes)) = some (some z, k, bytes)) (hz : z.cells.size = k) (hk : 0 < k)
  (v : Value) (n : Nat) (xs : List Value) (hs : a.eval s = v) (hown : w.ownsRow base e k v n xs) (ad : Addr) (c : Nat) (us : List Value) (hus : us.length = k) (hx : a.eval x = .slice (some ad) 1 c)
  (hc : ∀ j u, us[j]? = some u → w.cell? (ad.add j) = some u) (h1 : us.all (·.oneCell') = true) (hm : n + 1 ≤ maxLen) (hb : (n + 1) * bytes ≤ 140737488355328) (hbase : base ≤ w.heap.size)
  (hK : ∀ v' w', w'.ownsRow base e k v' (n + 1) (xs ++ us) → w.grownBy w' v.ownBlock → (v'.ownBlock = v.ownBlock ∨ v'.ownBlock = some w.heap.size) → K (a.put o.dst v') w') :
  if Region.wanted o (yielded ops a.tmps) = true then Oper.wp P o a w K Q else E := by
 have hw : Region.wanted o (yielded ops a.tmps) = true := by simp [Region.wanted, hg]
 rw [if_pos hw]
 obtain ⟨i, hi, hz1, hz2, hz3⟩ := info_parts h2
 obtain ⟨v', w', hr, h3, h4, _, h5⟩ := run_append_own_at (P := P) w base t o.type e i z k bytes ht hi hz1 hz2 hz3 hz hk v n xs hown ad 1 c us (by omega) hc (fun u hu => (List.all_eq_true.1 h1) u hu) hm hb hbase
 unfold Oper.wp execOp
 simp only [ho, resolve, invoke, builtin, Sem.run_bind, Sem.run_pure, Result.andThen_ok, List.map_toArray, List.map_cons, List.map_nil, hs, hx, hr]
 exact hK _ _ h3 h4 h5
end
theorem own_ne {w : World} {b b' : Nat} {e e' : TypeId} {k k' : Nat} {v v' : Value} {n n' : Nat} {xs xs' : List Value} (h : w.ownsRow b e k v n xs) (h' : w.ownsRow b' e' k' v' n' xs') (hne : e ≠ e') :
  v.ownBlock = none ∨ v.ownBlock ≠ v'.ownBlock := by
 rcases h.2 with ⟨rfl, _⟩ | ⟨g, cap, cur, rfl, _, hg, _⟩
 ·exact .inl rfl
 ·rcases h'.2 with ⟨rfl, _⟩ | ⟨g', cap', cur', rfl, _, hg', _⟩
  ·exact .inr (by simp [Value.ownBlock])
  ·refine .inr ?_
   simp only [Value.ownBlock, ne_eq, Option.some.injEq]
   rintro rfl
   rw [hg] at hg'
   injection hg' with h1
   injection h1 with _ h2
   exact hne h2
theorem own_kind {w : World} {b : Nat} {e : TypeId} {k : Nat} {v : Value} {n : Nat} {xs : List Value} (h : w.ownsRow b e k v n xs) {g : Nat} (hg : v.ownBlock = some g) : ∃ C fz, w.heap[g]? = some (.cells C e fz) := by
 rcases h.2 with ⟨rfl, _⟩ | ⟨g', cap, cur, rfl, _, hgg, _⟩
 ·simp [Value.ownBlock] at hg
 ·simp only [Value.ownBlock, Option.some.injEq] at hg
  subst hg
  exact ⟨cur, _, hgg⟩
theorem cells_kind {w : World} {g : Nat} {C C' : Array Value} {t t' : TypeId} {fz fz' : Nat × Nat} (h : w.heap[g]? = some (.cells C t fz)) (h' : w.heap[g]? = some (.cells C' t' fz')) : t = t' := by
 rw [h] at h'
 injection h' with e1
 injection e1
theorem own_slice {w : World} {b : Nat} {e : TypeId} {k : Nat} {v : Value} {n : Nat} {xs : List Value} (h : w.ownsRow b e k v n xs) : ∃ A c, v = .slice A n c ∧ n ≤ c ∧ c ≤ maxLen := by
 rcases h.2 with ⟨rfl, rfl⟩ | ⟨g, cap, cur, rfl, _, _, h1, h2, _⟩
 ·exact ⟨none, 0, rfl, Nat.le_refl _, by decide⟩
 ·exact ⟨_, cap, rfl, h1, h2⟩
theorem own_same {w w' : World} {b : Nat} {e : TypeId} {k : Nat} {v : Value} {n : Nat} {xs : List Value} (h : w.ownsRow b e k v n xs) (hs : ∀ g, v.ownBlock = some g → w'.heap[g]? = w.heap[g]?) : w'.ownsRow b e k v n xs := by
 refine ⟨h.1, ?_⟩
 rcases h.2 with hn | ⟨g, cap, cur, rfl, hb, hg, rest⟩
 ·exact .inl hn
 ·exact .inr ⟨g, cap, cur, rfl, hb, by rw [hs g rfl]; exact hg, rest⟩
theorem own_below {w w' : World} {b : Nat} {e : TypeId} {k : Nat} {v : Value} {n : Nat} {xs : List Value} (h : w.ownsRow b e k v n xs) (hb : Below w.heap.size w w') : w'.ownsRow b e k v n xs := by
 refine h.kept (row := none) ⟨hb.os, hb.tape, hb.output, hb.size, fun k hk _ => hb.block k hk⟩ ?_
 cases v.ownBlock with
 | none => exact .inl rfl
 | some g => exact .inr (by simp)
theorem own_arr {w : World} {b : Nat} {e : TypeId} {k : Nat} {v : Value} {n : Nat} {xs : List Value} {g : Nat} {t : TypeId} {us : List Value} (h : w.ownsRow b e k v n xs) (ha : Arr w g t us) (hne : e ≠ t) : v.ownBlock ≠ some g := by
 intro hg
 rcases h.2 with ⟨rfl, _⟩ | ⟨g', cap, cur, rfl, _, hgg, _⟩
 ·simp [Value.ownBlock] at hg
 ·simp only [Value.ownBlock, Option.some.injEq] at hg
  subst hg
  unfold Arr at ha
  rw [hgg] at ha
  injection ha with h1
  injection h1 with _ h2
  exact hne h2
theorem own_far {w : World} {b : Nat} {e : TypeId} {k : Nat} {v : Value} {n : Nat} {xs : List Value} (h : w.ownsRow b e k v n xs) {p : Addr} (hp : v.ownBlock ≠ some p.block) (u : Value) : (w.setCell p u).ownsRow b e k v n xs := by
 refine h.kept (row := some p.block) ⟨rfl, rfl, rfl, by simp [World.setCell], fun k _ hk => Below.heap_setCell w p u k (by rintro rfl; exact hk rfl)⟩ (.inr hp)
end Go.Proofs.YtbhigefbihpnlaaGreatDoor
namespace Go.Proofs.YtbhigefbihpnlaaGreatDoor
open Go.RowKit
end Go.Proofs.YtbhigefbihpnlaaGreatDoor
namespace Go.Proofs.YtbhigefbihpnlaaGreatDoor
open Go.RowKit
section
variable {f k : Nat} {l : List Nat} {ts : List JTok} {ns : List JNote} {v : Scanned}
end
end Go.Proofs.YtbhigefbihpnlaaGreatDoor
namespace Go.Proofs.YtbhigefbihpnlaaGreatDoor
open Go.RowKit
structure GNode where
 kind : Int
 text : List Nat
 ord : Bool
 keys : List Int
 items : List Int
end Go.Proofs.YtbhigefbihpnlaaGreatDoor
