/- canon.of and canon.normal, for any graph; the block of zero nodes. -/
import Derived.Test.YtbhigefbihpnlaaGreatDoorMBu
import Derived.Test.YtbhigefbihpnlaaGreatDoorMBt
import Derived.Test.YtbhigefbihpnlaaGreatDoorMBo
import Derived.Laws.ResultCell
import Derived.Laws.Rows
import Derived.Test.YtbhigefbihpnlaaGreatDoorMAv
import Derived.Test.YtbhigefbihpnlaaGreatDoorMBs
import Derived.Test.YtbhigefbihpnlaaGreatDoorMBp
set_option linter.unusedVariables false
set_option linter.unusedSimpArgs false
set_option linter.defProp false
set_option linter.constructorNameAsVariable false
namespace Go.Proofs.YtbhigefbihpnlaaGreatDoor
open Go.RowKit
section
variable {P : Program} {w : World} {ops : Array Oper} {rest : List Oper} {o : Oper} {a : Act} {Q : Exit → Act → World → Prop}
end
theorem take_five {l : List Value} {p : Nat} {a b c d e : Value} (h0 : l[p]? = some a) (h1 : l[p + 1]? = some b) (h2 : l[p + 2]? = some c) (h3 : l[p + 3]? = some d) (h4 : l[p + 4]? = some e) : (l.drop p).take 5 = [a, b, c, d, e] := by
 apply List.ext_getElem?
 intro i
 rw [List.getElem?_take]
 split
 ·rw [List.getElem?_drop]
  match i with
  | 0 => simpa using h0
  | 1 => simpa using h1
  | 2 => simpa using h2
  | 3 => simpa using h3
  | 4 => simpa using h4
 ·rw [List.getElem?_eq_none (by simp; omega)]
def zNd : Value := .agg #[.int .i64 0, .string ⟨#[]⟩, .bool false, .slice none 0 0, .slice none 0 0]
theorem made_get {n i j : Nat} (hi : i < n) (hj : j < 5) : (madeCells zNd.cells (n * 5)).toList[i * 5 + j]? = some (zNd.cells[j]!) := by
 have hs : zNd.cells.size = 5 := by kernel_rfl
 unfold madeCells
 rw [hs]
 simp [List.getElem?_eq_getElem, show i * 5 + j < n * 5 by omega, show (i * 5 + j) % 5 = j by omega]
theorem NodesRd.zero (w : World) (F : Nat → Prop) (n : Nat) : NodesRd w F (madeCells zNd.cells (n * 5)).toList (List.replicate n nd0) := by
 refine ⟨by simp [madeCells], fun i nd hi => ?_⟩
 have hin : i < n := by have := (List.getElem?_eq_some_iff.1 hi).1; simpa using this
 have hnd : nd = nd0 := by
  obtain ⟨h, e⟩ := List.getElem?_eq_some_iff.1 hi
  rw [← e]; simp
 subst hnd
 have hc := take_five (l := (madeCells zNd.cells (n * 5)).toList) (p := i * 5) (made_get (j := 0) hin (by omega)) (made_get (j := 1) hin (by omega)) (made_get (j := 2) hin (by omega)) (made_get (j := 3) hin (by omega)) (made_get (j := 4) hin (by omega))
 rw [hc]
 refine ⟨none, 0, 0, none, 0, 0, rfl, ⟨rfl, fun j u hj => by simp [I64, nd0] at hj, fun ad e => nomatch e⟩, ⟨rfl, fun j u hj => by simp [I64, nd0] at hj, fun ad e => nomatch e⟩⟩
end Go.Proofs.YtbhigefbihpnlaaGreatDoor
namespace Go.Proofs.YtbhigefbihpnlaaGreatDoor
open Go.RowKit
end Go.Proofs.YtbhigefbihpnlaaGreatDoor
namespace Go.Proofs.YtbhigefbihpnlaaGreatDoor
open Go.RowKit
end Go.Proofs.YtbhigefbihpnlaaGreatDoor
namespace Go.Proofs.YtbhigefbihpnlaaGreatDoor
open Go.RowKit
/-! ### A list of nulls -/
theorem nodesB_at (k : Nat) {i : Nat} {nd : GNode} (h : (nodesB k)[i]? = some nd) : (i = 0 ∧ nd = ⟨9, [], false, [], (List.range k).map fun (j : Nat) => ((j + 1 : Nat) : Int)⟩) ∨ (0 < i ∧ i ≤ k ∧ nd = nullN) := by
 unfold nodesB at h
 cases i with
 | zero => left; rw [List.getElem?_cons_zero] at h; exact ⟨rfl, (Option.some.inj h).symm⟩
 | succ i =>
  right
  rw [List.getElem?_cons_succ, List.getElem?_replicate] at h
  split at h
  ·exact ⟨by omega, by omega, (Option.some.inj h).symm⟩
  ·cases h
theorem nodesB_JG (k : Nat) : JG (nodesB k) := fun i nd h => by
 have hl := len_nodesB k
 rcases nodesB_at k h with ⟨rfl, rfl⟩ | ⟨h1, h2, rfl⟩
 ·refine ⟨.inr (.inr (.inr (.inr (.inr (.inl rfl))))), By.nil, by simp, fun h => absurd rfl h, fun y hy => ?_, fun y hy => by cases hy⟩
  have hy : y ∈ (List.range k).map fun (j : Nat) => ((j + 1 : Nat) : Int) := by simpa [refs] using hy
  obtain ⟨j, hj, rfl⟩ := List.mem_map.1 hy
  have := List.mem_range.1 hj
  rw [hl]
  omega
 ·exact ⟨.inl rfl, By.nil, by simp [nullN], fun _ _ => ⟨rfl, rfl⟩, fun y hy => by simp [refs, nullN] at hy, fun y hy => by simp [nullN] at hy⟩
theorem nodesB_ck {k : Nat} (h : k ≤ 4095) : ChkOK (nodesB k) 0 := by
 have hl := len_nodesB k
 refine (nodesB_JG k).chk (by omega) (by omega) (fun nd hnd => ?_)
 obtain ⟨i, hi⟩ := List.getElem?_of_mem hnd
 rcases nodesB_at k hi with ⟨rfl, rfl⟩ | ⟨h1, h2, rfl⟩
 ·simp; omega
 ·simp [nullN]
theorem maxL_one {H : Int → Int} (xs : List Int) (h : ∀ x ∈ xs, H x = 1) (m : Int) (hm : m ≤ 1) : maxL H xs m = if xs = [] then m else 1 := by
 unfold maxL
 induction xs generalizing m with
 | nil => rfl
 | cons x xs ih =>
  rw [List.foldl_cons, h x (by simp), ih (fun y hy => h y (by simp [hy])) _ (by omega)]
  simp
  omega
theorem nodesB_deep {k : Nat} (h : k ≤ 4095) : chkV (nodesB k) 0 ≠ 5 := by
 have hl := len_nodesB k
 have hJ := nodesB_JG k
 have hr : InN (nodesB k).length 0 := ⟨by omega, by omega⟩
 have h0 : ndAt (nodesB k) 0 = ⟨9, [], false, [], (List.range k).map fun (j : Nat) => ((j + 1 : Nat) : Int)⟩ := rfl
 have hre : ∀ i, i < (nodesB k).length → Reach (nodesB k) (0 : Int).toNat i := fun i hi => by
  by_cases e : i = 0
  ·subst e; exact .refl
  ·have := Reach.step (nodes := nodesB k) (a := 0) (b := 0) (x := ((i - 1 + 1 : Nat) : Int)) .refl (by omega) (by
    rw [h0]
    show _ ∈ [] ++ (List.range k).map fun (j : Nat) => ((j + 1 : Nat) : Int)
    rw [List.nil_append]
    exact List.mem_map.2 ⟨i - 1, List.mem_range.2 (by omega), rfl⟩)
   rw [Int.toNat_natCast, show i - 1 + 1 = i by omega] at this
   exact this
 have hH : ∀ x, InN (nodesB k).length x → (fun x : Int => if x = 0 then (if k = 0 then 1 else 2) else (1 : Int)) x = 1 + maxL (fun x : Int => if x = 0 then (if k = 0 then 1 else 2) else (1 : Int)) (refs (ndAt (nodesB k) x.toNat)) 0 := fun x hx => by
  obtain ⟨i, rfl⟩ : ∃ i : Nat, x = (i : Int) := ⟨x.toNat, by have := hx.1; omega⟩
  have hi : i < (nodesB k).length := by have := hx.2; omega
  rw [Int.toNat_natCast]
  rcases nodesB_at k (ndAt_get hi) with ⟨rfl, e⟩ | ⟨h1, h2, e⟩
  ·rw [e]
   show (if ((0 : Nat) : Int) = 0 then (if k = 0 then 1 else 2) else (1 : Int)) = 1 + maxL _ ([] ++ (List.range k).map fun (j : Nat) => ((j + 1 : Nat) : Int)) 0
   rw [List.nil_append, maxL_one _ (fun y hy => by
    obtain ⟨j, _, rfl⟩ := List.mem_map.1 hy
    show (if ((j + 1 : Nat) : Int) = 0 then _ else (1 : Int)) = 1
    rw [if_neg (by omega)]) 0 (by decide)]
   by_cases hk : k = 0
   ·subst hk; rfl
   ·have hne : ¬ ((List.range k).map fun (j : Nat) => ((j + 1 : Nat) : Int)) = [] := by intro e; have := congrArg List.length e; simp at this; exact hk this
    rw [if_neg hne]
    simp [hk]
  ·rw [e]
   show (if ((i : Nat) : Int) = 0 then (if k = 0 then 1 else 2) else (1 : Int)) = 1 + maxL _ [] 0
   rw [if_neg (by omega)]
   rfl
 have hd := depthV_dag hJ.idx hJ.ranks hr (by show _ - _ ≤ _; omega) hre hH
 have hdd : depD (nodesB k) 0 ≤ 1 := by
  unfold depD
  rw [hd]
  show (if (0 : Int) = 0 then (if k = 0 then (1 : Int) else 2) else 1) - 1 ≤ 1
  rw [if_pos rfl]
  split <;> decide
 unfold chkV
 repeat' split
 all_goals first | decide | omega
/-! ### The list of the widths -/
section
variable {m : Nat} {t : List Nat}
end
end Go.Proofs.YtbhigefbihpnlaaGreatDoor
namespace Go.Proofs.YtbhigefbihpnlaaGreatDoor
open Go.RowKit
def aN1 : List GNode := [⟨10, [], false, [1], [2]⟩, ⟨5, [97], false, [], []⟩, ⟨9, [], false, [], [3, 4]⟩, ⟨2, [49], false, [], []⟩, ⟨0, [], false, [], []⟩]
def aS1 : List JSpan := [⟨0, -1, 0, 0, 6, 0, 0, false, true⟩, ⟨2, 0, 0, 3, 6, 1, 3, false, true⟩, ⟨3, 1, 0, 4, 5, 0, 0, false, true⟩, ⟨4, 1, 1, 5, 6, 0, 0, false, true⟩]
def aN2 : List GNode := [⟨9, [], false, [], [0]⟩]
def aS2 : List JSpan := [⟨0, -1, 0, 0, 6, 0, 0, false, false⟩, ⟨0, 0, 0, 3, 6, 0, 0, true, true⟩]
theorem aN1_ck : ChkOK aN1 0 := ck_ok (by kernel_rfl) (by kernel_rfl) (by kernel_rfl)
theorem aN2_ck : ChkOK aN2 0 := ck_ok (by kernel_rfl) (by kernel_rfl) (by kernel_rfl)
theorem aN1_z : chkV aN1 0 = 0 := by kernel_rfl
theorem aN2_z : chkV aN2 0 = 0 := by kernel_rfl
theorem cparse_ok {f : Nat} {s : List Nat} {N : List GNode} {S : List JSpan} (hs : By s) (hl : s.length ≤ 65536) (hr : sourceC f s = .ok (N, S)) (hck : ChkOK N 0) (h5 : chkV N 0 ≠ 5) (hS : 0 < S.length) (w : World) (hw : LibF w) :
  Calls Tryz.prog 5 #[.string (mks s)] w fun e w' => ∃ gn cn gv cv, e = .returned (.tuple #[.agg #[.int .i64 6, .string (mks s), .slice (some ⟨gn, 0, none⟩) N.length cn, .int .i64 0, .slice (some ⟨gv, 0, none⟩) S.length cv, .slice none 0 0], .int .i64 0, .int .i64 0]) ∧
   Below w.heap.size w w' ∧ w.heap.size ≤ gn ∧ GRd w' w'.heap.size gn 0 N ∧ gv < w'.heap.size ∧ (∀ i u, (spansC S)[i]? = some u → w'.cell? ⟨gv, i, none⟩ = some u) := by
 refine (cparse_cb f s hs hl (by rw [hr]; intro h; cases h) (fun N' S' h => by rw [hr] at h; cases h; exact hck) w hw).mono fun e w' h => ?_
 rw [hr] at h
 obtain ⟨hb, _, h2⟩ := h
 obtain ⟨gn, cn, vs, he, h3, h4, h6⟩ := h2 h5
 obtain ⟨gv, cv, hv, _, _⟩ := own_some h6 hS
 subst hv
 exact ⟨gn, cn, gv, cv, he, hb, h3, h4, (h6.lt gv rfl).2, fun i u hu => (own_cell1 h6 hu).1⟩
theorem cparse_err {f : Nat} {s : List Nat} {a c : Nat} (hs : By s) (hl : s.length ≤ 65536) (hr : sourceC f s = .err a c) (w : World) (hw : LibF w) :
  Calls Tryz.prog 5 #[.string (mks s)] w fun e w' => e = .returned (.tuple #[.agg zDocB.toArray, .int .i64 (a : Int), .int .i64 (c : Int)]) ∧ Below w.heap.size w w' := by
 refine (cparse_cb f s hs hl (by rw [hr]; intro h; cases h) (fun N' S' h => by rw [hr] at h; cases h) w hw).mono fun e w' h => ?_
 rw [hr] at h
 exact ⟨h.2, h.1⟩
theorem cparse_deep {f : Nat} {s : List Nat} {N : List GNode} {S : List JSpan} (hs : By s) (hl : s.length ≤ 65536) (hr : sourceC f s = .ok (N, S)) (hck : ChkOK N 0) (h5 : chkV N 0 = 5) (w : World) (hw : LibF w) :
  Calls Tryz.prog 5 #[.string (mks s)] w fun e w' => e = .returned (.tuple #[.agg zDocB.toArray, .int .i64 0, .int .i64 5]) ∧ Below w.heap.size w w' := by
 refine (cparse_cb f s hs hl (by rw [hr]; intro h; cases h) (fun N' S' h => by rw [hr] at h; cases h; exact hck) w hw).mono fun e w' h => ?_
 rw [hr] at h
 exact ⟨h.2.1 h5, h.1⟩
set_option maxRecDepth 20000 in
set_option maxHeartbeats 8000000 in
theorem bawake_true (w : World) (hw : LibF w) : Calls Tryz.prog 6 #[] w fun e w' => e = .returned (.bool true) ∧ Below w.heap.size w w' := by
 have D1 : Hid (∀ W, LibF W → Calls Tryz.prog 5 #[.string ⟨#[161, 97, 97, 130, 1, 246]⟩] W fun e w' => ∃ gn cn gv cv, e = .returned (.tuple #[.agg #[.int .i64 6, .string ⟨#[161, 97, 97, 130, 1, 246]⟩, .slice (some ⟨gn, 0, none⟩) 5 cn, .int .i64 0, .slice (some ⟨gv, 0, none⟩) 4 cv, .slice none 0 0], .int .i64 0, .int .i64 0]) ∧
   Below W.heap.size W w' ∧ w'.cell? ⟨gv, 12, none⟩ = some (.int .i64 3) ∧ w'.cell? ⟨gv, 13, none⟩ = some (.int .i64 6) ∧ gv < w'.heap.size) := fun W hW => by
  have h := cparse_ok (f := 40) (s := aw1) (N := aN1) (S := aS1) (by_dec (by kernel_rfl)) (by decide) aw1_ok aN1_ck (by rw [aN1_z]; decide) (by decide) W hW
  rw [show mks aw1 = ⟨#[161, 97, 97, 130, 1, 246]⟩ by kernel_rfl] at h
  exact h.mono fun e w' ⟨gn, cn, gv, cv, he, hb, _, _, hl, hc⟩ => ⟨gn, cn, gv, cv, he, hb, hc 12 _ rfl, hc 13 _ rfl, hl⟩
 have D2 : Hid (∀ W, LibF W → Calls Tryz.prog 5 #[.string ⟨#[216, 28, 129, 216, 29, 0]⟩] W fun e w' => ∃ gn cn gv cv, e = .returned (.tuple #[.agg #[.int .i64 6, .string ⟨#[216, 28, 129, 216, 29, 0]⟩, .slice (some ⟨gn, 0, none⟩) 1 cn, .int .i64 0, .slice (some ⟨gv, 0, none⟩) 2 cv, .slice none 0 0], .int .i64 0, .int .i64 0]) ∧
   Below W.heap.size W w' ∧ w'.cell? ⟨gv, 8, none⟩ = some (.bool false) ∧ w'.cell? ⟨gv, 16, none⟩ = some (.bool true) ∧ gv < w'.heap.size) := fun W hW => by
  have h := cparse_ok (f := 40) (s := aw2) (N := aN2) (S := aS2) (by_dec (by kernel_rfl)) (by decide) aw2_ok aN2_ck (by rw [aN2_z]; decide) (by decide) W hW
  rw [show mks aw2 = ⟨#[216, 28, 129, 216, 29, 0]⟩ by kernel_rfl] at h
  exact h.mono fun e w' ⟨gn, cn, gv, cv, he, hb, _, _, hl, hc⟩ => ⟨gn, cn, gv, cv, he, hb, hc 8 _ rfl, hc 16 _ rfl, hl⟩
 have D3 : Hid (∀ W, LibF W → Calls Tryz.prog 5 #[.string ⟨#[129, 255]⟩] W fun e w' => e = .returned (.tuple #[.agg zDocB.toArray, .int .i64 1, .int .i64 4]) ∧ Below W.heap.size W w') := fun W hW => by
  have h := cparse_err (f := 40) (s := aw3) (by_dec (by kernel_rfl)) (by decide) aw3_err W hW
  rw [show mks aw3 = ⟨#[129, 255]⟩ by kernel_rfl] at h
  exact h
 have D4 : Hid (∀ W, LibF W → Calls Tryz.prog 5 #[.string ⟨#[216, 29, 0]⟩] W fun e w' => e = .returned (.tuple #[.agg zDocB.toArray, .int .i64 0, .int .i64 24]) ∧ Below W.heap.size W w') := fun W hW => by
  have h := cparse_err (f := 40) (s := aw4) (by_dec (by kernel_rfl)) (by decide) aw4_err W hW
  rw [show mks aw4 = ⟨#[216, 29, 0]⟩ by kernel_rfl] at h
  exact h
 have HW := Lib.hid hw
 clear hw
 go_enter Tryz.func6, Tryz.ntmps6
 go_upto_region 2 with (go_at_call 5; ((with_reducible refine (D1.out _ HW.out).mono ?_)); rintro e w1 ⟨gn1, cn1, gv1, cv1, rfl, hb1, s12, s13, hl1⟩)
 have A1 := (Below.refl w1.heap.size w1).alloc (Nat.le_refl _) (.cells #[.int .i64 6, .string ⟨#[161, 97, 97, 130, 1, 246]⟩, .slice (some ⟨gn1, 0, none⟩) 5 cn1, .int .i64 0, .slice (some ⟨gv1, 0, none⟩) 4 cv1, .slice none 0 0] 30)
 have X1 : Hid (Arr (w1.alloc (.cells #[.int .i64 6, .string ⟨#[161, 97, 97, 130, 1, 246]⟩, .slice (some ⟨gn1, 0, none⟩) 5 cn1, .int .i64 0, .slice (some ⟨gv1, 0, none⟩) 4 cv1, .slice none 0 0] 30)) w1.heap.size 30 [.int .i64 6, .string ⟨#[161, 97, 97, 130, 1, 246]⟩, .slice (some ⟨gn1, 0, none⟩) 5 cn1, .int .i64 0, .slice (some ⟨gv1, 0, none⟩) 4 cv1, .slice none 0 0]) := Arr.new w1 _ _
 have HB1 := Lib.hid (hb1.trans (A1.mono hb1.size))
 have SC1 := Lib.hid (fun (W : World) (h : Below w1.heap.size w1 W) => (show W.cell? ⟨gv1, 12, none⟩ = some (.int .i64 3) ∧ W.cell? ⟨gv1, 13, none⟩ = some (.int .i64 6) from by
  unfold World.cell? at s12 s13 ⊢
  rw [h.block gv1 hl1]
  exact ⟨s12, s13⟩))
 have A1' := Lib.hid A1
 clear s12 s13 A1 hb1 D1
 generalize (w1.alloc (.cells #[.int .i64 6, .string ⟨#[161, 97, 97, 130, 1, 246]⟩, .slice (some ⟨gn1, 0, none⟩) 5 cn1, .int .i64 0, .slice (some ⟨gv1, 0, none⟩) 4 cv1, .slice none 0 0] 30)) = W1 at *
 obtain ⟨b1, hb1⟩ : ∃ x, w1.heap.size = x := ⟨_, rfl⟩
 have HZ1 := Lib.hid hb1
 rw [hb1] at X1 ⊢
 clear hb1
 have L1 := Lib.hid (HW.out.keep HB1.out)
 go_upto_region 3 with (go_at_call 5; ((with_reducible refine (D2.out _ L1.out).mono ?_)); rintro e w2 ⟨gn2, cn2, gv2, cv2, rfl, hb2, s8, s16, hl2⟩)
 have A2 := (Below.refl w2.heap.size w2).alloc (Nat.le_refl _) (.cells #[.int .i64 6, .string ⟨#[216, 28, 129, 216, 29, 0]⟩, .slice (some ⟨gn2, 0, none⟩) 1 cn2, .int .i64 0, .slice (some ⟨gv2, 0, none⟩) 2 cv2, .slice none 0 0] 30)
 have X2 : Hid (Arr (w2.alloc (.cells #[.int .i64 6, .string ⟨#[216, 28, 129, 216, 29, 0]⟩, .slice (some ⟨gn2, 0, none⟩) 1 cn2, .int .i64 0, .slice (some ⟨gv2, 0, none⟩) 2 cv2, .slice none 0 0] 30)) w2.heap.size 30 [.int .i64 6, .string ⟨#[216, 28, 129, 216, 29, 0]⟩, .slice (some ⟨gn2, 0, none⟩) 1 cn2, .int .i64 0, .slice (some ⟨gv2, 0, none⟩) 2 cv2, .slice none 0 0]) := Arr.new w2 _ _
 have X12 := Lib.hid ((X1.out.keep hb2).keep A2)
 have HB2 := Lib.hid (HB1.out.trans ((hb2.trans (A2.mono hb2.size)).mono HB1.out.size))
 have A12 := Lib.hid (A1'.out.trans ((hb2.trans (A2.mono hb2.size)).mono A1'.out.size))
 have SC2 := Lib.hid (fun (W : World) (h : Below w2.heap.size w2 W) => (show W.cell? ⟨gv2, 8, none⟩ = some (.bool false) ∧ W.cell? ⟨gv2, 16, none⟩ = some (.bool true) from by
  unfold World.cell? at s8 s16 ⊢
  rw [h.block gv2 hl2]
  exact ⟨s8, s16⟩))
 have A2' := Lib.hid A2
 clear s8 s16 A2 hb2 D2 X1 HB1 A1' L1
 generalize (w2.alloc (.cells #[.int .i64 6, .string ⟨#[216, 28, 129, 216, 29, 0]⟩, .slice (some ⟨gn2, 0, none⟩) 1 cn2, .int .i64 0, .slice (some ⟨gv2, 0, none⟩) 2 cv2, .slice none 0 0] 30)) = W2 at *
 obtain ⟨b2, hb2⟩ : ∃ x, w2.heap.size = x := ⟨_, rfl⟩
 have HZ2 := Lib.hid hb2
 rw [hb2] at X2 ⊢
 clear hb2
 have L2 := Lib.hid (HW.out.keep HB2.out)
 go_upto_region 4 with (go_at_call 5; ((with_reducible refine (D3.out _ L2.out).mono ?_)); rintro e w3 ⟨rfl, hb3⟩)
 have A3 := (Below.refl w3.heap.size w3).alloc (Nat.le_refl _) (.cells zDocB.toArray 30)
 have X13 := Lib.hid ((X12.out.keep hb3).keep A3)
 have X23 := Lib.hid ((X2.out.keep hb3).keep A3)
 have HB3 := Lib.hid (HB2.out.trans ((hb3.trans (A3.mono hb3.size)).mono HB2.out.size))
 have A13 := Lib.hid (A12.out.trans ((hb3.trans (A3.mono hb3.size)).mono A12.out.size))
 have A23 := Lib.hid (A2'.out.trans ((hb3.trans (A3.mono hb3.size)).mono A2'.out.size))
 clear hb3 A3 X12 X2 HB2 A12 A2' L2 D3
 generalize (w3.alloc (.cells zDocB.toArray 30)) = W3 at *
 have L3 := Lib.hid (HW.out.keep HB3.out)
 go_wp2_with (go_at_call 5; ((with_reducible refine (D4.out _ L3.out).mono ?_)); rintro e w4 ⟨rfl, hb4⟩; have A4 := (Below.refl w4.heap.size w4).alloc (Nat.le_refl _) (.cells zDocB.toArray 30); have X14 := Lib.hid ((X13.out.keep hb4).keep A4); have X24 := Lib.hid ((X23.out.keep hb4).keep A4); have HB4 := Lib.hid (HB3.out.trans ((hb4.trans (A4.mono hb4.size)).mono HB3.out.size)); have A14 := (A13.out.trans ((hb4.trans (A4.mono hb4.size)).mono A13.out.size)); have A24 := (A23.out.trans ((hb4.trans (A4.mono hb4.size)).mono A23.out.size)); obtain ⟨q12, q13⟩ := SC1.out _ A14; obtain ⟨q8, q16⟩ := SC2.out _ A24; have d14 := X14.out.cell' (i := 4) rfl; have d22 := X24.out.cell' (i := 2) rfl; have d24 := X24.out.cell' (i := 4) rfl)
 go_ret
 exact ⟨rfl, HB4.out⟩
end Go.Proofs.YtbhigefbihpnlaaGreatDoor
namespace Go.Proofs.YtbhigefbihpnlaaGreatDoor
open Go.RowKit
theorem eqN_eq {a b : GNode} (h : eqN a b = true) : a = b := by
 obtain ⟨a1, a2, a3, a4, a5⟩ := a
 obtain ⟨b1, b2, b3, b4, b5⟩ := b
 unfold eqN at h
 simp at h
 obtain ⟨⟨⟨⟨rfl, rfl⟩, rfl⟩, rfl⟩, rfl⟩ := h
 rfl
theorem eqNs_eq : ∀ {a b : List GNode}, eqNs a b = true → a = b
 | [], [], _ => rfl
 | a :: l, b :: r, h => by
  unfold eqNs at h
  rw [Bool.and_eq_true] at h
  rw [eqN_eq h.1, eqNs_eq h.2]
 | [], _ :: _, h => by cases h
 | _ :: _, [], h => by cases h
theorem okB_ex {α : Type} {r : CR α} {p : α → Bool} (h : okB r p = true) : ∃ x, r = .ok x ∧ p x = true := by
 unfold okB at h
 split at h
 ·exact ⟨_, rfl, h⟩
 ·cases h
/-! ### Nested lists -/
theorem a_src_err {k : Nat} (hk : k < 10) (h : 33 < 28 + k) : sourceC 200 (srcA (28 + k)) = .err 33 5 := by
 have := all_of a_err hk
 rw [decide_eq_true h] at this
 exact errB_eq (by simpa using this)
theorem a_src_ok {k : Nat} (hk : k < 10) (h : ¬ 33 < 28 + k) : ∃ S, sourceC 200 (srcA (28 + k)) = .ok (nestA (28 + k), S) := by
 have := all_of a_ok hk
 rw [decide_eq_false h, Bool.false_or] at this
 obtain ⟨⟨N, S⟩, h1, h2⟩ := okB_ex this
 have e : N = nestA (28 + k) := eqNs_eq h2
 exact ⟨S, by rw [h1, e]⟩
theorem a_nd : (List.range 10).all (fun k => (List.range (nestA (28 + k)).length).all (fun i => ndB (nestA (28 + k)) (ndAt (nestA (28 + k)) i))) = true := by kernel_rfl
theorem a_end : (List.range 10).all (fun k => endB (nestA (28 + k))) = true := by kernel_rfl
theorem a_len : (List.range 10).all (fun k => decide (0 < (nestA (28 + k)).length ∧ (nestA (28 + k)).length ≤ 4096)) = true := by kernel_rfl
theorem a_ckok {k : Nat} (hk : k < 10) : ChkOK (nestA (28 + k)) 0 := ck_ok (all_of a_len hk) (all_of a_nd hk) (all_of a_end hk)
theorem a_chk0 {k : Nat} (hk : k < 10) (h : ¬ 33 < 28 + k) : chkV (nestA (28 + k)) 0 ≠ 5 := by
 have := all_of a_chk hk
 rw [decide_eq_false h, Bool.false_or] at this
 rw [of_decide_eq_true this]
 decide
/-! ### A list of itself and of lists of it -/
theorem l_src {k : Nat} (hk : k < 10) : ∃ S, sourceC 300 (srcL (28 + k)) = .ok (selfL (28 + k), S) := by
 obtain ⟨⟨N, S⟩, h1, h2⟩ := okB_ex (all_of l_ok hk)
 have e : N = selfL (28 + k) := eqNs_eq h2
 exact ⟨S, by rw [h1, e]⟩
theorem l_nd : (List.range 10).all (fun k => (List.range (selfL (28 + k)).length).all (fun i => ndB (selfL (28 + k)) (ndAt (selfL (28 + k)) i))) = true := by kernel_rfl
theorem l_len : (List.range 10).all (fun k => decide (0 < (selfL (28 + k)).length ∧ (selfL (28 + k)).length ≤ 4096)) = true := by kernel_rfl
theorem l_ckok {k : Nat} (hk : k < 10) : ChkOK (selfL (28 + k)) 0 := ck_ok (all_of l_len hk) (all_of l_nd hk) (all_of l_end hk)
theorem l_chk5 {k : Nat} (hk : k < 10) : chkV (selfL (28 + k)) 0 = if 28 + k > 32 then 5 else 0 := of_decide_eq_true (all_of l_chk hk)
/-! ### A list of nulls -/
theorem head_b (m : Nat) : hdC (srcB m) 0 = .ok (⟨0, 4, 31, 31⟩, 1) := rfl
theorem b_start (m F : Nat) : ∃ sps, valueC (srcB m) (F + 2) ⟨0, 4, 31, 31⟩ rootC 0 ⟨1, [], [], [], []⟩ = ((contentC (srcB m) F ⟨0, 4, 31, 31⟩ 0 0 1 0 ⟨1, nodesB 0, sps, [], []⟩).bind fun st => .ok ((0 : Int), st)).bind (finC 0) :=
 ⟨[⟨0, -1, 0, 0, 0, 0, 0, false, true⟩], by
  rw [val_def (h := ⟨0, 4, 31, 31⟩) rfl rfl, def_list (h := ⟨0, 4, 31, 31⟩) rfl]
  rfl⟩
theorem b_src_ok {m : Nat} (hm : m ≤ 4095) : ∃ S, sourceC 5000 (srcB m) = .ok (nodesB m, S) := by
 obtain ⟨sps, h1⟩ := b_start m 4998
 obtain ⟨sps', h2⟩ := cont_ok hm m 0 4998 sps (by omega) (by omega)
 refine ⟨wholeC [] (endS 0 0 ⟨m + 2, nodesB m, sps', [], []⟩).spans, ?_⟩
 rw [src_val (head_b m), show (5000 : Nat) = 4998 + 2 from rfl, h1, h2]
 show (if (m + 2 : Nat) < (srcB m).length then _ else CR.ok _) = _
 rw [if_neg (by rw [len_srcB]; omega)]
 rfl
theorem b_src_many {m : Nat} (hm : 4095 < m) : sourceC 5000 (srcB m) = .err 4096 7 := by
 obtain ⟨sps, h1⟩ := b_start m 4998
 have h2 := cont_many hm 4095 0 4998 sps (by omega) (by omega)
 rw [src_val (head_b m), show (5000 : Nat) = 4998 + 2 from rfl, h1, h2]
 rfl
theorem srcA_by (n : Nat) : By (srcA n) := by
 intro c hc
 unfold srcA at hc
 rcases List.mem_append.1 hc with h | h
 ·have := List.eq_of_mem_replicate h; omega
 ·have := List.mem_singleton.1 h; omega
theorem srcB_by (m : Nat) : By (srcB m) := by
 intro c hc
 unfold srcB at hc
 rcases List.mem_cons.1 hc with h | h
 ·omega
 rcases List.mem_append.1 h with h | h
 ·have := List.eq_of_mem_replicate h; omega
 ·have := List.mem_singleton.1 h; omega
def srcLj (n j : Nat) : List Nat := [216, 28, 152, n] ++ (List.range j).flatMap fun _ => [129, 216, 29, 0]
theorem srcLj_succ (n j : Nat) : srcLj n (j + 1) = srcLj n j ++ [129, 216, 29, 0] := by
 unfold srcLj
 rw [List.range_succ, List.flatMap_append, List.append_assoc]
 rfl
theorem srcLj_len (n j : Nat) : (srcLj n j).length = 4 + 4 * j := by
 induction j with
 | zero => rfl
 | succ j ih => rw [srcLj_succ, List.length_append, ih]; show 4 + 4 * j + 4 = _; omega
theorem srcLj_by {n : Nat} (hn : n < 256) (j : Nat) : By (srcLj n j) := by
 induction j with
 | zero => intro c hc; simp [srcLj] at hc; omega
 | succ j ih => rw [srcLj_succ]; exact ih.append (by intro c hc; simp at hc; omega)
theorem srcLj_all (n : Nat) : srcLj n n = srcL n := rfl
theorem own_zero {w : World} {b g c n : Nat} {e : TypeId} {xs : List Value} (h : w.ownsRow b e 1 (.slice (some ⟨g, 0, none⟩) n c) n xs) : w.ownsRow b e 1 (.slice (some ⟨g, 0, none⟩) 0 c) 0 [] := by
 refine ⟨rfl, .inr ?_⟩
 rcases h.2 with ⟨hv, _⟩ | ⟨g', cap, cur, hv, h1, h2, h3, h4, h5, h6⟩
 ·cases hv
 ·injection hv with e1 _ e3
  injection e1 with e1
  injection e1 with e1
  subst e1 e3
  exact ⟨g, c, cur, rfl, h1, h2, Nat.zero_le _, h4, h5, by simp⟩
theorem cparse_ok2 {f : Nat} {s : List Nat} {N : List GNode} {S : List JSpan} (hs : By s) (hl : s.length ≤ 65536) (hr : sourceC f s = .ok (N, S)) (hck : ChkOK N 0) (h5 : chkV N 0 ≠ 5) (w : World) (hw : LibF w) :
  Calls Tryz.prog 5 #[.string (mks s)] w fun e w' => ∃ gn cn As cs, e = .returned (.tuple #[.agg #[.int .i64 6, .string (mks s), .slice (some ⟨gn, 0, none⟩) N.length cn, .int .i64 0, .slice As S.length cs, .slice none 0 0], .int .i64 0, .int .i64 0]) ∧
   Below w.heap.size w w' ∧ w.heap.size ≤ gn ∧ GRd w' w'.heap.size gn 0 N := by
 refine (cparse_cb f s hs hl (by rw [hr]; intro h; cases h) (fun N' S' h => by rw [hr] at h; cases h; exact hck) w hw).mono fun e w' h => ?_
 rw [hr] at h
 obtain ⟨hb, _, h2⟩ := h
 obtain ⟨gn, cn, vs, he, h3, h4, h6⟩ := h2 h5
 obtain ⟨As, cs, hv, _, _⟩ := own_slice h6
 subst hv
 exact ⟨gn, cn, As, cs, he, hb, h3, h4⟩
end Go.Proofs.YtbhigefbihpnlaaGreatDoor
