/- The walk of (*cbor.parser).source. -/
import Derived.Test.YtbhigefbihpnlaaGreatDoorMAy
import Derived.Test.YtbhigefbihpnlaaGreatDoorMBj
import Derived.Test.YtbhigefbihpnlaaGreatDoorMBk
import Derived.Laws.Tables
import Derived.LaidEql
import Derived.Stop.Asserts
set_option linter.unusedVariables false
set_option linter.unusedSimpArgs false
set_option linter.defProp false
set_option linter.constructorNameAsVariable false
namespace Go.Proofs.YtbhigefbihpnlaaGreatDoor
open Go.RowKit
/-! ### The spans, the first i of them done -/
def spAt (marks : List Int) (l : List JSpan) (i : Nat) : List JSpan := wholeC marks (l.take i) ++ l.drop i
theorem wholeC_len (marks : List Int) (l : List JSpan) : (wholeC marks l).length = l.length := by unfold wholeC; rw [List.length_map]
theorem spAt_full (marks : List Int) (l : List JSpan) {i : Nat} (h : i = l.length) : spAt marks l i = wholeC marks l := by
 unfold spAt; rw [h, List.take_length, List.drop_length, List.append_nil]
theorem spAt_len (marks : List Int) (l : List JSpan) (i : Nat) : (spAt marks l i).length = l.length := by
 unfold spAt; rw [List.length_append, wholeC_len, List.length_take, List.length_drop]; omega
theorem modify_mid {α : Type} (f : α → α) (x : α) (R : List α) : ∀ (A : List α), (A ++ x :: R).modify A.length f = A ++ f x :: R
 | [] => by rw [List.nil_append, List.length_nil, List.modify_zero_cons]; rfl
 | a :: A => by rw [List.cons_append, List.length_cons, List.modify_succ_cons, modify_mid f x R A]; rfl
theorem spAt_mid (marks : List Int) {l : List JSpan} {i : Nat} {x : JSpan} (h : l[i]? = some x) : spAt marks l i = wholeC marks (l.take i) ++ x :: l.drop (i + 1) := by
 unfold spAt
 rw [List.drop_eq_getElem_cons (List.getElem?_eq_some_iff.1 h).1, (List.getElem?_eq_some_iff.1 h).2]
theorem spAt_step (marks : List Int) {l : List JSpan} {i : Nat} {x : JSpan} (h : l[i]? = some x) : (spAt marks l i).modify i (fun y => { y with whole := !marks.any (inSp x.from_ x.to_) }) = spAt marks l (i + 1) := by
 have hl := (List.getElem?_eq_some_iff.1 h).1
 have e : (wholeC marks (l.take i)).length = i := by rw [wholeC_len, List.length_take]; omega
 rw [spAt_mid marks h]
 have := modify_mid (fun y => { y with whole := !marks.any (inSp x.from_ x.to_) }) x (l.drop (i + 1)) (wholeC marks (l.take i))
 rw [e] at this
 rw [this]
 unfold spAt
 have e2 : l.take (i + 1) = l.take i ++ [x] := by rw [List.take_add_one, h]; rfl
 rw [e2]
 unfold wholeC
 rw [List.map_append, List.append_assoc]
 rfl
theorem spAt_get (marks : List Int) {l : List JSpan} {i : Nat} {x : JSpan} (h : l[i]? = some x) : (spAt marks l i)[i]? = some x := by
 have hl := (List.getElem?_eq_some_iff.1 h).1
 rw [spAt_mid marks h, List.getElem?_append_right (by rw [wholeC_len, List.length_take]; omega), wholeC_len, List.length_take, show i - min i l.length = 0 by omega]
 rfl
theorem spansC_at {l : List JSpan} {k : Nat} {s : JSpan} (h : l[k]? = some s) (j : Nat) (hj : j < 9) : (spansC l)[k * 9 + j]? = (spanC s)[j]? := by
 unfold spansC
 induction l generalizing k with
 | nil => cases h
 | cons a t ih =>
  rw [List.flatMap_cons]
  cases k with
  | zero =>
   obtain rfl : a = s := by simpa using h
   rw [Nat.zero_mul, Nat.zero_add, List.getElem?_append_left (by simp [spanC]; omega)]
  | succ k =>
   rw [List.getElem?_append_right (by simp [spanC]; omega)]
   have := ih (k := k) (by simpa using h)
   rw [← this]
   congr 1
   simp [spanC]; omega
/-! ### The parser's nodes read as a graph -/
theorem ints_of {w : World} {B : Nat} {lab : Nat → Option Nat} {t : Nat} {v : Value} {xs : List Int} (h : BRow w B lab t v xs) : ∃ A c, v = .slice A xs.length c ∧ IntsRd w (fun _ => True) A xs.length xs := by
 obtain ⟨A, c, hv, _, _, _, hrd, _⟩ := own_rd h.1
 refine ⟨A, c, hv, rfl, hrd, fun ad e => ⟨trivial, ?_⟩⟩
 subst hv
 subst e
 have hb := own_kind h.1 (g := ad.block) rfl
 obtain ⟨C, fz, hb⟩ := hb
 exact ⟨C, fz, hb⟩
theorem CM.grd {s : List Nat} {w : World} {B g c : Nat} {vs vh vm : Value} {ncs : List Value} {lab : Nat → Option Nat} {st : CSt} (h : CM w B s (.slice (some ⟨g, 0, none⟩) st.nodes.length c) vs vh vm ncs lab st) : GRd w w.heap.size g 0 st.nodes := by
 refine grd_own h.nod ⟨h.nlen, fun i nd hi => ?_⟩
 obtain ⟨vk, vi, e, h2, h3⟩ := h.nds i nd hi
 obtain ⟨K, ck, rfl, hk⟩ := ints_of h2
 obtain ⟨I, ci, rfl, hi⟩ := ints_of h3
 exact ⟨K, _, ck, I, _, ci, e, hk, hi⟩
def SrcP (s : List Nat) (w : World) (B : Nat) (F : Nat → Prop) (r : CR (List GNode × List JSpan)) (e : Ending) (w' : World) : Prop :=
 (∃ F', PStep w w' F F') ∧ match r with
 | .ok (N, S) => (chkV N 0 = 5 → e = .returned (faultV 0 5)) ∧ (chkV N 0 ≠ 5 → e = .returned .nilIface ∧ ∃ vn vs vh vm ncs lab st, CM w' B s vn vs vh vm ncs lab st ∧ st.nodes = N ∧ st.spans = S)
 | .err a c => e = .returned (faultV a c)
 | .no => True
section
variable {s : List Nat} {w w' : World} {B : Nat} {e : Ending} {r : CR (List GNode × List JSpan)} {F F' : Nat → Prop}
theorem SrcP.of_err {a c : Nat} (hr : r = .err a c) (he : e = .returned (faultV a c)) (hb : PStep w w' F F') : SrcP s w B F r e w' := by
 unfold SrcP; rw [hr]; exact ⟨⟨F', hb⟩, he⟩
theorem SrcP.of_deep {N : List GNode} {S : List JSpan} (hr : r = .ok (N, S)) (h5 : chkV N 0 = 5) (he : e = .returned (faultV 0 5)) (hb : PStep w w' F F') : SrcP s w B F r e w' := by
 unfold SrcP; rw [hr]; exact ⟨⟨F', hb⟩, fun _ => he, fun h => absurd h5 h⟩
theorem SrcP.of_ok {N : List GNode} {S : List JSpan} (hr : r = .ok (N, S)) (h5 : chkV N 0 ≠ 5) (he : e = .returned .nilIface) (hb : PStep w w' F F') {vn vs vh vm : Value} {ncs : List Value} {lab : Nat → Option Nat} {st : CSt} (hc : CM w' B s vn vs vh vm ncs lab st) (h1 : st.nodes = N) (h2 : st.spans = S) : SrcP s w B F r e w' := by
 unfold SrcP; rw [hr]; exact ⟨⟨F', hb⟩, fun h => absurd h h5, fun _ => ⟨he, vn, vs, vh, vm, ncs, lab, st, hc, h1, h2⟩⟩
end
abbrev st0C : CSt := ⟨0, [], [], [], []⟩
abbrev rootC : JSpan := ⟨0, -1, 0, 0, 0, 0, 0, false, false⟩
theorem src_err {f a c : Nat} {s : List Nat} (h : hdC s 0 = .err a c) : sourceC f s = .err a c := by unfold sourceC; rw [h]; rfl
theorem src_val {f i : Nat} {s : List Nat} {h : CH} (hh : hdC s 0 = .ok (h, i)) : sourceC f s = (valueC s f h rootC 0 ⟨i, [], [], [], []⟩).bind fun p => if p.2.i < s.length then .err p.2.i 4 else .ok (p.2.nodes, wholeC p.2.marks p.2.spans) := by unfold sourceC; rw [hh]; rfl
set_option maxRecDepth 20000 in
set_option maxHeartbeats 16000000 in
theorem source_cb (f : Nat) {s : List Nat} {w : World} {B : Nat} {vn vs vh vm : Value} {ncs : List Value} {lab : Nat → Option Nat} (hw : PW s w B vn vs vh vm ncs lab st0C) (hne : sourceC f s ≠ .no) (hck : ∀ N S, sourceC f s = .ok (N, S) → ChkOK N 0) :
  Calls Tryz.prog 11 #[.pointer (some ⟨B, 0, none⟩)] w (SrcP s w B (CF B vn vs lab) (sourceC f s)) := by
 obtain ⟨R, hR⟩ : ∃ R, sourceC f s = R := ⟨_, rfl⟩
 rw [hR] at hne hck ⊢
 have HR := Lib.hid hR
 have HNE := Lib.hid hne
 have HCK := Lib.hid hck
 have PW0 := Lib.hid hw
 have D := Lib.hid (head_cb hw.by_ hw.len (i := 0) (by omega) w hw.cm.par)
 unfold HeadP at D
 clear hR hne hck hw
 go_enter Tryz.func11, Tryz.ntmps11
 cases hq : hdC s 0 with
 | no => exact absurd hq (hd_no _ _)
 | err b c =>
  rw [hq] at D
  have hh := Lib.hid (show R = .err b c by rw [← HR.out, src_err hq])
  clear hq
  go_upto_region 2 with (go_at_call 21; ((with_reducible refine D.out.mono ?_)); rintro e w3 ⟨rfl, j2, hk⟩)
  have S4 := Lib.hid ((PW0.out.cm.atw hk).2.trans (PStep.of_below (F := CF B vn vs lab) ((Below.refl w3.heap.size w3).alloc (Nat.le_refl _) (.cells #[.int .i64 ((0 : Nat) : Int), .int .i64 ((0 : Nat) : Int), .int .i64 ((0 : Nat) : Int), .int .u64 ((0 : Nat) : Int)] 76))))
  clear hk
  go_wp2
  go_ret
  exact SrcP.of_err hh.out rfl S4.out
 | ok p =>
  obtain ⟨⟨hat, m, k, a⟩, i1⟩ := p
  rw [hq] at D
  have HF := Lib.hid (hd_facts PW0.out.by_ hq)
  have HRV := Lib.hid (show R = (valueC s f ⟨hat, m, k, a⟩ rootC 0 ⟨i1, [], [], [], []⟩).bind fun p => if p.2.i < s.length then .err p.2.i 4 else .ok (p.2.nodes, wholeC p.2.marks p.2.spans) by rw [← HR.out, src_val hq])
  clear hq
  go_upto_region 2 with (go_at_call 21; ((with_reducible refine D.out.mono ?_)); rintro e w3 ⟨rfl, hk⟩)
  have S4 := Lib.hid ((PW0.out.cm.atw hk).2.trans (PStep.of_below (F := CF B vn vs lab) ((Below.refl w3.heap.size w3).alloc (Nat.le_refl _) (.cells #[.int .i64 (hat : Int), .int .i64 (m : Int), .int .i64 (k : Int), .int .u64 (a : Int)] 76))))
  have C4 := Lib.hid ((PW0.out.cm.atw hk).1.below ((Below.refl w3.heap.size w3).alloc (Nat.le_refl _) (.cells #[.int .i64 (hat : Int), .int .i64 (m : Int), .int .i64 (k : Int), .int .u64 (a : Int)] 76)))
  have Y4 : Hid (Arr (w3.alloc (.cells #[.int .i64 (hat : Int), .int .i64 (m : Int), .int .i64 (k : Int), .int .u64 (a : Int)] 76)) w3.heap.size 76 [.int .i64 (hat : Int), .int .i64 (m : Int), .int .i64 (k : Int), .int .u64 (a : Int)]) := Arr.new w3 _ _
  have PW4 := Lib.hid (PW0.out.step S4.out C4.out (CI.to (st := st0C) PW0.out.ci (Nat.zero_le _) HF.out.2.2.1))
  generalize (w3.alloc (.cells #[.int .i64 (hat : Int), .int .i64 (m : Int), .int .i64 (k : Int), .int .u64 (a : Int)] 76)) = w4 at *
  obtain ⟨gx, hgx⟩ : ∃ x, w3.heap.size = x := ⟨_, rfl⟩
  rw [hgx] at Y4 ⊢
  clear hk hgx D C4
  have y0 := Y4.out.cell' (i := 0) rfl
  have y1 := Y4.out.cell' (i := 1) rfl
  have y2 := Y4.out.cell' (i := 2) rfl
  have y3 := Y4.out.cell' (i := 3) rfl
  have DV : Hid (Calls Tryz.prog 22 #[.pointer (some ⟨B, 0, none⟩), .agg #[.int .i64 (hat : Int), .int .i64 (m : Int), .int .i64 (k : Int), .int .u64 (a : Int)], .agg #[.int .i64 0, .int .i64 (-1), .int .i64 0, .int .i64 0, .int .i64 0, .int .i64 0, .int .i64 0, .bool false, .bool false], .int .i64 0] w4 (ValP s w4 B (CF B vn vs lab) (valueC s f ⟨hat, m, k, a⟩ rootC 0 ⟨i1, [], [], [], []⟩))) :=
   val_cb f s w4 B _ _ _ _ _ _ ⟨i1, [], [], [], []⟩ ⟨hat, m, k, a⟩ rootC 0 PW4.out (by show 0 < i1; have := HF.out.2.1; omega) HF.out.2.2.2.1 (by decide) (fun e => HNE.out (by rw [HRV.out, e]; rfl))
  have VK := Lib.hid ((all_k PW0.out.by_ f).1 ⟨hat, m, k, a⟩ rootC 0 ⟨i1, [], [], [], []⟩ · · PW4.out.ci (by show 0 < i1; have := HF.out.2.1; omega))
  unfold ValP at DV
  cases hv : valueC s f ⟨hat, m, k, a⟩ rootC 0 ⟨i1, [], [], [], []⟩ with
  | no => exact absurd (show R = .no by rw [HRV.out, hv]; rfl) HNE.out
  | err b c =>
   rw [hv] at DV
   have hh := Lib.hid (show R = .err b c by rw [HRV.out, hv]; rfl)
   clear hv HRV VK
   go_upto_region 5 with (go_at_call 22; ((with_reducible refine DV.out.mono ?_)); rintro e w5 ⟨rfl, F5, hS5⟩)
   go_wp2
   go_ret
   exact SrcP.of_err hh.out rfl ((S4.out.trans hS5))
  | ok p =>
   obtain ⟨v, st5⟩ := p
   rw [hv] at DV
   have VK5 := Lib.hid (VK.out _ _ hv)
   have HRE := Lib.hid (show R = if st5.i < s.length then .err st5.i 4 else .ok (st5.nodes, wholeC st5.marks st5.spans) by rw [HRV.out, hv]; rfl)
   clear hv HRV VK
   go_upto_region 5 with (go_at_call 22; ((with_reducible refine DV.out.mono ?_)); rintro e w5 ⟨rfl, vn5, vs5, vh5, vm5, ncs5, lab5, C5, hS5⟩)
   have PW5 := Lib.hid (PW4.out.step hS5 C5 VK5.out.1.ci)
   have S5 := Lib.hid (S4.out.trans hS5)
   obtain ⟨n, hn⟩ : ∃ n, s.length = n := ⟨_, rfl⟩
   have hsz : (mks s).size = n := by rw [size_mks]; exact hn
   have HN := Lib.hid hn
   have c0 : w5.cell? ⟨B, 0, none⟩ = some (.string (mks s)) := C5.par.cell' (i := 0) rfl
   have c1 : w5.cell? ⟨B, 1, none⟩ = some (.int .i64 (st5.i : Int)) := C5.par.cell' (i := 1) rfl
   clear hS5 DV Y4 PW4 S4 y0 y1 y2 y3 hn
   go_upto_region 7 with (fail)
   by_cases hin : st5.i < n
   ·have hin' : (st5.i : Int) < n := by omega
    have hh := Lib.hid (show R = .err st5.i 4 by rw [HRE.out, if_pos (by rw [HN.out]; exact hin)])
    clear hin HRE
    go_quiet (fail)
    have c1b : (w5.drewN nq).cell? ⟨B, 1, none⟩ = some (.int .i64 (st5.i : Int)) := c1
    go_wp2
    go_ret
    exact SrcP.of_err hh.out rfl ((S5.out.drewN _))
   ·have hin' : ¬ (st5.i : Int) < n := by omega
    have hro := Lib.hid (show R = .ok (st5.nodes, wholeC st5.marks st5.spans) by rw [HRE.out, if_neg (by rw [HN.out]; exact hin)])
    have HO := Lib.hid (HCK.out _ _ hro.out)
    clear hin HRE
    go_quiet (fail)
    have C6 := Lib.hid (C5.drewN nq)
    have S6 := Lib.hid (S5.out.drewN nq)
    have L6 := Lib.hid (PW5.out.lib.step (Below.drewN' (Below.refl B w5) nq))
    generalize w5.drewN nq = w6 at *
    have hns : 0 < st5.spans.length := Nat.lt_of_le_of_lt (Nat.zero_le _) VK5.out.2
    obtain ⟨gv, cv, hvs, _, _⟩ := own_some C5.spn hns
    subst hvs
    have hnm : st5.marks.length ≤ 65537 := by have h1 := PW5.out.ci.mrk; have h2 := PW5.out.ci.spn; have h3 := PW5.out.ci.i; have h4 := PW5.out.len; omega
    have hns7 : st5.spans.length ≤ 65537 := by have h2 := PW5.out.ci.spn; have h3 := PW5.out.ci.i; have h4 := PW5.out.len; omega
    have hnn : 0 < st5.nodes.length := HO.out.n0
    obtain ⟨gn, cn, hvn, _, _⟩ := own_some C5.nod hnn
    subst hvn
    obtain ⟨K, ck, hvm, _, _, _, _, _⟩ := own_rd C5.mrk.1
    subst hvm
    clear C5 S5 c0 c1 PW5 hnn
    obtain ⟨NS, hNS⟩ : ∃ x, st5.spans.length = x := ⟨_, rfl⟩
    have HNS := Lib.hid hNS
    rw [hNS] at hns hns7
    have c6 : w6.cell? ⟨B, 6, none⟩ = some (.slice (some ⟨gv, 0, none⟩) NS cv) := by rw [← hNS]; exact C6.out.par.cell' (i := 6) rfl
    have hnsI : (NS : Int) ≤ 65537 := by omega
    clear hNS
    have C6' : Hid (CM w6 B s (.slice (some ⟨gn, 0, none⟩) st5.nodes.length cn) (.slice (some ⟨gv, 0, none⟩) NS cv) vh5 (.slice K st5.marks.length ck) ncs5 lab5 { st5 with spans := spAt st5.marks st5.spans 0 }) := by rw [← HNS.out]; exact C6.out
    have S6' : Hid (PStep w w6 (CF B vn vs lab) (CF B (.slice (some ⟨gn, 0, none⟩) st5.nodes.length cn) (.slice (some ⟨gv, 0, none⟩) NS cv) lab5)) := by rw [← HNS.out]; exact S6.out
    clear C6 S6
    go_upto_region 9 with (fail)
    go_wp2_with (fail)
    go_loopw [49] (fun u wr => ∃ i : Nat, i ≤ NS ∧ u = .int .i64 (i : Int) ∧ Hid (CM wr B s (.slice (some ⟨gn, 0, none⟩) st5.nodes.length cn) (.slice (some ⟨gv, 0, none⟩) NS cv) vh5 (.slice K st5.marks.length ck) ncs5 lab5 { st5 with spans := spAt st5.marks st5.spans i }) ∧ Hid (PStep w wr (CF B vn vs lab) (CF B (.slice (some ⟨gn, 0, none⟩) st5.nodes.length cn) (.slice (some ⟨gv, 0, none⟩) NS cv) lab5))) (fun u _ => NS - (intOf u).toNat)
    case atStart => exact ⟨0, Nat.zero_le _, rfl, C6', S6'⟩
    case round =>
     clear C6' S6' c6
     obtain ⟨i, hi, rfl, hC, hS⟩ := hrel
     have c6 : wr.cell? ⟨B, 6, none⟩ = some (.slice (some ⟨gv, 0, none⟩) NS cv) := hC.out.par.cell' (i := 6) rfl
     by_cases him : i = NS
     ·have hi' : ¬ (i : Int) < NS := by omega
      have hfull := spAt_full st5.marks st5.spans (i := i) (by rw [him, HNS.out])
      have c4 : wr.cell? ⟨B, 4, none⟩ = some (.slice (some ⟨gn, 0, none⟩) st5.nodes.length cn) := hC.out.par.cell' (i := 4) rfl
      have c5 : wr.cell? ⟨B, 5, none⟩ = some (.int .i64 0) := hC.out.par.cell' (i := 5) rfl
      have hG : GRd wr wr.heap.size gn 0 st5.nodes := CM.grd (st := { st5 with spans := spAt st5.marks st5.spans i }) hC.out
      have DG := Lib.hid (gcheck_any (c := cn) HO.out wr (PW0.out.lib wr (PW0.out.low hS.out)) hG)
      rw [hfull] at hC
      obtain ⟨V, hV⟩ : ∃ V, chkV st5.nodes 0 = V := ⟨_, rfl⟩
      rw [hV] at DG
      have HV := Lib.hid hV
      clear hV hG hfull him
      by_cases h5 : V = 5
      ·subst h5
       go_wp2_with (go_at_call 12; ((with_reducible refine DG.out.mono ?_)); rintro e w7 ⟨rfl, hb7⟩)
       go_ret
       exact SrcP.of_deep hro.out HV.out rfl ((hS.out.trans (PStep.of_below hb7)))
      ·have h5' : (V == 5) = false := by rw [beq_eq_false_iff_ne]; exact h5
       have HV5 := Lib.hid (show chkV st5.nodes 0 ≠ 5 by rw [HV.out]; exact h5)
       clear h5
       go_wp2_with (go_at_call 12; ((with_reducible refine DG.out.mono ?_)); rintro e w7 ⟨rfl, hb7⟩)
       go_ret
       exact SrcP.of_ok hro.out HV5.out rfl ((hS.out.trans (PStep.of_below hb7))) (hC.out.below hb7) rfl rfl
     ·have hi' : (i : Int) < NS := by omega
      have i0 : (0 : Int) ≤ i := by omega
      have hil : i < st5.spans.length := by rw [HNS.out]; omega
      obtain ⟨x, hx⟩ : ∃ x, st5.spans[i]? = some x := ⟨_, List.getElem?_eq_getElem hil⟩
      have hxa := spAt_get st5.marks hx
      have hb0 := (Below.refl wr.heap.size wr).alloc (Nat.le_refl _) (.cells #[.pointer (some ⟨gv, i * 9, none⟩)] 81)
      have T7 : Hid (Arr (wr.alloc (.cells #[.pointer (some ⟨gv, i * 9, none⟩)] 81)) wr.heap.size 81 [.pointer (some ⟨gv, i * 9, none⟩)]) := Arr.new wr _ _
      have C7 := Lib.hid (hC.out.below hb0)
      have S7 := Lib.hid (hS.out.trans (PStep.of_below hb0))
      have HX := Lib.hid hx
      have HXA := Lib.hid hxa
      have hgv0 := (hC.out.spn.lt gv rfl).2
      have HNX : Hid (({ st5 with spans := spAt st5.marks st5.spans i } : CSt).spans.length = NS) := by show (spAt st5.marks st5.spans i).length = NS; rw [spAt_len]; exact HNS.out
      clear hC hS hb0 hx hxa hil
      go_upto_region 13 with (fail)
      clear c6
      obtain ⟨gt, hgt⟩ : ∃ x, wr.heap.size = x := ⟨_, rfl⟩
      rw [hgt] at T7 hgv0 ⊢
      have hwt := T7.out.lt
      clear hgt
      generalize (wr.alloc (.cells #[.pointer (some ⟨gv, i * 9, none⟩)] 81)) = w7 at *
      have hsp7 : w7.ownsRow B 55 9 (.slice (some ⟨gv, 0, none⟩) NS cv) NS (spansC (spAt st5.marks st5.spans i)) := by have := C7.out.spn; rw [HNX.out] at this; exact this
      have t0 := T7.out.cell' (i := 0) rfl
      have c9 : w7.cell? ⟨B, 9, none⟩ = some (.slice K st5.marks.length ck) := C7.out.par.cell' (i := 9) rfl
      have k3 := (own_cell1 hsp7 (i := i * 9 + 3) (by rw [spansC_at HXA.out 3 (by decide)]; rfl)).1
      have k4 := (own_cell1 hsp7 (i := i * 9 + 4) (by rw [spansC_at HXA.out 4 (by decide)]; rfl)).1
      obtain ⟨k8, kf8⟩ := own_cell1 hsp7 (i := i * 9 + 8) (by rw [spansC_at HXA.out 8 (by decide)]; rfl)
      have hrd : Rd w7 K (I64 st5.marks) := by
       obtain ⟨K', c', e, _, _, _, h, _⟩ := own_rd C7.out.mrk.1
       injection e with e1
       rw [e1]
       exact h
      have DC := Lib.hid (cont2_cb (ck := ck) w7.drew t0 k3 k4 hnm hrd)
      have hset := (C7.out.drew).spanSet (gs := gv) (cap := cv) (by rw [HNX.out]) (i * 9 + 8) (.bool (!(st5.marks.any (inSp x.from_ x.to_)))) (spAt st5.marks st5.spans (i + 1)) (by rw [HNX.out, spAt_len]; exact HNS.out) (by
       rw [← spAt_step st5.marks HX.out]
       exact spans_mod _ i 8 _ (fun y => { y with whole := !(st5.marks.any (inSp x.from_ x.to_)) }) (by decide) (fun _ => rfl) (by rw [HNX.out]; omega))
      have HC8 := Lib.hid hset.1
      have HS8 := Lib.hid (S7.out.drew.trans hset.2)
      obtain ⟨b, hb⟩ : ∃ b, st5.marks.any (inSp x.from_ x.to_) = b := ⟨_, rfl⟩
      rw [hb] at DC HC8 HS8
      have hne1 : gt ≠ gv := by omega
      have hne2 : B ≠ gv := fun e => C7.out.spnNe (by rw [e]; rfl)
      have t1 : (w7.drew.setCell ⟨gv, i * 9 + 8, none⟩ (.bool (!b))).cell? ⟨gt, 0, none⟩ = some (.pointer (some ⟨gv, i * 9, none⟩)) := (Arr.far (show Arr w7.drew gt 81 [.pointer (some ⟨gv, i * 9, none⟩)] from T7.out) (p := ⟨gv, i * 9 + 8, none⟩) hne1 _).cell' (i := 0) rfl
      have c91 : (w7.drew.setCell ⟨gv, i * 9 + 8, none⟩ (.bool (!b))).cell? ⟨B, 9, none⟩ = some (.slice K st5.marks.length ck) := HC8.out.par.cell' (i := 9) rfl
      clear hb hset hrd k3 k4 hsp7 T7 S7 C7 hgv0
      go_region_held3 (fun w' => w'.cell? ⟨gt, 0, none⟩ = some (.pointer (some ⟨gv, i * 9, none⟩)) ∧ w'.cell? ⟨B, 9, none⟩ = some (.slice K st5.marks.length ck)) (first | exact ⟨by assumption, by assumption⟩ | go_keep) (first | (go_at_call 23; ((with_reducible refine DC.out.mono ?_)); rintro e w9 ⟨rfl, rfl⟩))
      all_goals
       go_wp2_with (fail)
       go_roundw
       case rel => exact ⟨i + 1, by omega, i64e (by omega), HC8, HS8⟩
       case measure => first | (simp [intOf]; done) | (simp [intOf]; omega)
end Go.Proofs.YtbhigefbihpnlaaGreatDoor
namespace Go.Proofs.YtbhigefbihpnlaaGreatDoor
open Go.RowKit Go.Extern.Stop Go.Stop Go.Extern
abbrev hT (t : TypeId) : Value := .pointer (some ⟨11, t, none⟩)
theorem as_nil (t : Value) (w : World) : Calls Tryz.prog 10 #[.nilIface, t] w fun e w' => e = .returned (.bool false) ∧ w' = w := by
 go_enter Tryz.func10, Tryz.ntmps10
 go_wp2
 go_ret
 exact ⟨rfl, rfl⟩
theorem asV1 (t : Addr) (w : World) : (ReflectliteValue.unpack (.iface 53 (.pointer (some t)))).run Tryz.prog w
  = .ok (.agg #[hT 53, .pointer (some ⟨w.heap.size, 0, none⟩), .int .u64 150]) (w.alloc (.cells #[.pointer (some t)] 53)) := by kernel_rfl
theorem asType (a : Addr) (w : World) : (ReflectliteValue.methodAny (ReflectliteValue.valueError "reflectlite.Value.Type" 0) (fun t _ _ _ => ReflectliteType.toType t) #[.agg #[hT 53, .pointer (some a), .int .u64 150]]).run Tryz.prog w
  = .ok (.iface 98 (.agg #[hT 53])) w := by kernel_rfl
theorem asMK (h : Value) (w : World) : (Go.method 448 98 (.agg #[h]) "Kind").run Tryz.prog w = .ok (249, h) w := by kernel_rfl
theorem asK1 (w : World) : ((ReflectliteType.abiMethod fun t => (fun a : Nat => Value.int IntKind.u8 (a : Int)) <$> Rtype.kind t) #[hT 53]).run Tryz.prog w = .ok (.int .u8 22) w := by kernel_rfl
theorem asK2 (w : World) : ((ReflectliteType.abiMethod fun t => (fun a : Nat => Value.int IntKind.u8 (a : Int)) <$> Rtype.kind t) #[hT 48]).run Tryz.prog w = .ok (.int .u8 25) w := by kernel_rfl
theorem asRlm (z : Sem Value) (f : TypeId → Addr → Nat → Nat → Sem Value) (v : Value) :
  ReflectliteValue.method z f #[v] = (do match ← ReflectliteValue.parts v with | none => z | some (t, a, fl) => f t a fl (fl % 32)) := rfl
theorem asP1 (a : Addr) (w : World) : (ReflectliteValue.parts (.agg #[hT 53, .pointer (some a), .int .u64 150])).run Tryz.prog w = .ok (some (53, a, 150)) w := by kernel_rfl
theorem asNil (a p : Addr) (W : World) (ha : W.cell? a = some (.pointer (some p))) :
  (ReflectliteValue.method (ReflectliteValue.valueError "reflectlite.Value.IsNil" 0) ReflectliteValue.isNil #[.agg #[hT 53, .pointer (some a), .int .u64 150]]).run Tryz.prog W = .ok (.bool false) W := by
 rw [asRlm]
 simp only [Sem.run_bind, asP1, Result.andThen]
 simp [ReflectliteValue.isNil, loadVar, isAgg, underlying, Tryz.underlying53, ha, Result.andThen]
theorem asME (h : Value) (w : World) : (Go.method 448 98 (.agg #[h]) "Elem").run Tryz.prog w = .ok (259, .agg #[h]) w := by kernel_rfl
theorem asMI (h : Value) (w : World) : (Go.method 448 98 (.agg #[h]) "Implements").run Tryz.prog w = .ok (260, .agg #[h]) w := by kernel_rfl
theorem asMA (h : Value) (w : World) : (Go.method 448 98 (.agg #[h]) "AssignableTo").run Tryz.prog w = .ok (257, .agg #[h]) w := by kernel_rfl
theorem asE1 (w : World) : (ReflectliteType.method ReflectliteType.elem #[.agg #[hT 53]]).run Tryz.prog w = .ok (.iface 98 (.agg #[hT 48])) w := by kernel_rfl
theorem asI2 (w : World) : (ReflectliteType.relation "Implements" ReflectliteType.implements_ #[.agg #[hT 48], .iface 98 (.agg #[hT 51])]).run Tryz.prog w = .ok (.bool true) w := by kernel_rfl
theorem asT2 (v : Value) (w : World) : (ReflectliteType.typeOf #[.iface 48 v]).run Tryz.prog w = .ok (.iface 98 (.agg #[hT 48])) w := by kernel_rfl
theorem asA2 (w : World) : (ReflectliteType.relation "AssignableTo" ReflectliteType.assignableTo #[.agg #[hT 48], .iface 98 (.agg #[hT 48])]).run Tryz.prog w = .ok (.bool true) w := by kernel_rfl
theorem asV2 (x y : Value) (w : World) : (ReflectliteValue.unpack (.iface 48 (.agg #[x, y]))).run Tryz.prog w
  = .ok (.agg #[hT 48, .pointer (some ⟨w.heap.size, 0, none⟩), .int .u64 153]) (w.alloc (.cells #[x, y] 48)) := by kernel_rfl
theorem asEl (w : World) : (Rtype.elem? 53).run Tryz.prog w = .ok (some 48) w := by kernel_rfl
theorem asMk (p : Addr) (w : World) : (ReflectliteValue.mk 48 p ReflectliteValue.flagAddr).run Tryz.prog w = .ok (.agg #[hT 48, .pointer (some p), .int .u64 409]) w := by kernel_rfl
theorem asElem (a p : Addr) (W : World) (ha : W.cell? a = some (.pointer (some p))) :
  (ReflectliteValue.method (ReflectliteValue.valueError "reflectlite.Value.Elem" 0) ReflectliteValue.elem #[.agg #[hT 53, .pointer (some a), .int .u64 150]]).run Tryz.prog W
   = .ok (.agg #[hT 48, .pointer (some p), .int .u64 409]) W := by
 rw [asRlm]
 simp only [Sem.run_bind, asP1, Result.andThen]
 simp [ReflectliteValue.elem, loadVar, isAgg, underlying, Tryz.underlying53, ha, Result.andThen, asEl, asMk]
theorem asRls (v x : Value) : ReflectliteValue.set #[v, x] = (do
  let (some (dst, a, fl), some (src, b, _)) := (← ReflectliteValue.parts v, ← ReflectliteValue.parts x)
   | unsupported (.noEntry "extern/(internal/reflectlite.Value).Set.zeroValue")
  if fl / ReflectliteValue.flagAddr % 2 == 0 then unsupported (.noEntry "extern/(internal/reflectlite.Value).Set.unaddressable")
  let val ← loadVar src b
  if ← Rtype.directlyAssignable dst src then storeVar dst a val
  else if ← Rtype.implements dst src then
   if (← Rtype.kind src) == 20 then
    match val with
    | .nilIface => unsupported (.noEntry "extern/reflectlite: a nil value of one interface type handed on as a value of another")
    | _ => storeVar dst a val
   else storeVar dst a (.iface src val)
  else panicString ("reflectlite.Set: value of type " ++ (← Rtype.spelt src) ++ " is not assignable to type " ++ (← Rtype.spelt dst))
  pure (.tuple #[])) := rfl
theorem asP2a (a : Addr) (w : World) : (ReflectliteValue.parts (.agg #[hT 48, .pointer (some a), .int .u64 409])).run Tryz.prog w = .ok (some (48, a, 409)) w := by kernel_rfl
theorem asP2 (a : Addr) (w : World) : (ReflectliteValue.parts (.agg #[hT 48, .pointer (some a), .int .u64 153])).run Tryz.prog w = .ok (some (48, a, 153)) w := by kernel_rfl
theorem asDir (w : World) : (Rtype.directlyAssignable 48 48).run Tryz.prog w = .ok true w := by kernel_rfl
theorem hsz_fault : (Tryz.prog.info? 48).map (·.size) = some 2 := by kernel_rfl
theorem asSet (ta b : Nat) (u v : Int) (o1 o2 : Value) (W : World) (hb : W.heap[b]? = some (.cells #[.int .i64 u, .int .i64 v] 48 (0, 0))) (ht : W.heap[ta]? = some (.cells #[o1, o2] 48 (0, 0))) :
  (ReflectliteValue.set #[.agg #[hT 48, .pointer (some ⟨ta, 0, none⟩), .int .u64 409], .agg #[hT 48, .pointer (some ⟨b, 0, none⟩), .int .u64 153]]).run Tryz.prog W
   = .ok (.tuple #[]) (W.setRow ta #[.int .i64 u, .int .i64 v]) := by
 rw [asRls]
 simp only [Sem.run_bind, asP2a, asP2, Result.andThen]
 have h1 := run_loadVar_row (P := Tryz.prog) W b 48 48 #[.int .i64 u, .int .i64 v] (0, 0) _ hb Tryz.underlying48 rfl hsz_fault
 have h2 := run_storeVar_row (P := Tryz.prog) W ta 48 48 #[o1, o2] #[.int .i64 u, .int .i64 v] ht hsz_fault rfl (by simp [Value.oneCell'])
 simp [ReflectliteValue.flagAddr, h1, h2, Result.andThen, asDir]
set_option maxHeartbeats 8000000 in
theorem as_hit (ta : Nat) (u v : Int) (o1 o2 : Value) (w : World) (hg : w.cell? ⟨0, 0, none⟩ = some (.iface 98 (.agg #[hT 51]))) (ht0 : Arr w ta 48 [o1, o2]) :
  Calls Tryz.prog 10 #[.iface 48 (.agg #[.int .i64 u, .int .i64 v]), .iface 53 (.pointer (some ⟨ta, 0, none⟩))] w fun ev w' => ev = .returned (.bool true) ∧ Arr w' ta 48 [.int .i64 u, .int .i64 v] ∧ (∀ k, k < w.heap.size → k ≠ ta → w'.heap[k]? = w.heap[k]?) ∧ w.heap.size ≤ w'.heap.size ∧ w'.os = w.os ∧ w'.tape = w.tape ∧ w'.output = w.output := by
 have h6 := @run_callFunc_extern Tryz.prog 17 _ (fun args => ReflectliteValue.unpack (args.getD 0 (.tuple #[]))) Tryz.func17 (by kernel_rfl) (by kernel_rfl) (by kernel_rfl) (by kernel_rfl)
 have h7 := @run_callFunc_extern Tryz.prog 18 _ (ReflectliteValue.methodAny (ReflectliteValue.valueError "reflectlite.Value.Type" 0) (fun t _ _ _ => ReflectliteType.toType t)) Tryz.func18 (by kernel_rfl) (by kernel_rfl) (by kernel_rfl) (by kernel_rfl)
 have h8 := @run_callFunc_extern Tryz.prog 19 _ (ReflectliteValue.method (ReflectliteValue.valueError "reflectlite.Value.IsNil" 0) ReflectliteValue.isNil) Tryz.func19 (by kernel_rfl) (by kernel_rfl) (by kernel_rfl) (by kernel_rfl)
 have h27 := @run_callFunc_extern Tryz.prog 249 _ (ReflectliteType.abiMethod fun t => do pure (.int .u8 (← Rtype.kind t))) Tryz.func249 (by kernel_rfl) (by kernel_rfl) (by kernel_rfl) (by kernel_rfl)
 have h37 := @run_callFunc_extern Tryz.prog 259 _ (ReflectliteType.method ReflectliteType.elem) Tryz.func259 (by kernel_rfl) (by kernel_rfl) (by kernel_rfl) (by kernel_rfl)
 have h38 := @run_callFunc_extern Tryz.prog 260 _ (ReflectliteType.relation "Implements" ReflectliteType.implements_) Tryz.func260 (by kernel_rfl) (by kernel_rfl) (by kernel_rfl) (by kernel_rfl)
 have h10 := @run_callFunc_extern Tryz.prog 35 _ ReflectliteType.typeOf Tryz.func35 (by kernel_rfl) (by kernel_rfl) (by kernel_rfl) (by kernel_rfl)
 have h35 := @run_callFunc_extern Tryz.prog 257 _ (ReflectliteType.relation "AssignableTo" ReflectliteType.assignableTo) Tryz.func257 (by kernel_rfl) (by kernel_rfl) (by kernel_rfl) (by kernel_rfl)
 have h11 := @run_callFunc_extern Tryz.prog 36 _ (ReflectliteValue.method (ReflectliteValue.valueError "reflectlite.Value.Elem" 0) ReflectliteValue.elem) Tryz.func36 (by kernel_rfl) (by kernel_rfl) (by kernel_rfl) (by kernel_rfl)
 have h12 := @run_callFunc_extern Tryz.prog 37 _ ReflectliteValue.set Tryz.func37 (by kernel_rfl) (by kernel_rfl) (by kernel_rfl) (by kernel_rfl)
 have tO := asT2
 have mA := asMA
 have a25 := asA2
 have v25 := asV2
 have f6 := asV1
 have f7 := asType
 have mK := asMK
 have mE := asME
 have mI := asMI
 have k27 := asK1
 have k25 := asK2
 have e27 := asE1
 have i25 := asI2
 obtain ⟨w1, hw1⟩ : ∃ x, w.alloc (.cells #[.pointer (some ⟨ta, 0, none⟩)] 53) = x := ⟨_, rfl⟩
 have hlt : 0 < w.heap.size := by
  rcases Nat.lt_or_ge 0 w.heap.size with h | h
  ·exact h
  ·simp [World.cell?, Array.getElem?_eq_none h] at hg
 have htl := ht0.lt
 have n8 := asNil ⟨w.heap.size, 0, none⟩ ⟨ta, 0, none⟩ ((w.alloc (.cells #[.pointer (some ⟨ta, 0, none⟩)] 53)).alloc (.cells #[hT 53, .pointer (some ⟨w.heap.size, 0, none⟩), .int .u64 150] 66)) (by simp)
 have hg2 : ((w.alloc (.cells #[.pointer (some ⟨ta, 0, none⟩)] 53)).alloc (.cells #[hT 53, .pointer (some ⟨w.heap.size, 0, none⟩), .int .u64 150] 66)).cell? ⟨0, 0, none⟩ = some (.iface 98 (.agg #[hT 51])) := by
  rw [World.cell?_alloc_lt _ _ ⟨0, 0, none⟩ (by first | (simp; done) | (simp; omega)), World.cell?_alloc_lt _ _ ⟨0, 0, none⟩ hlt]; exact hg
 have el := asElem ⟨w.heap.size, 0, none⟩ ⟨ta, 0, none⟩ (((w.alloc (.cells #[.pointer (some ⟨ta, 0, none⟩)] 53)).alloc (.cells #[hT 53, .pointer (some ⟨w.heap.size, 0, none⟩), .int .u64 150] 66)).alloc (.cells #[hT 53, .pointer (some ⟨w.heap.size, 0, none⟩), .int .u64 150] 66)) (by rw [World.cell?_alloc_lt _ _ ⟨w.heap.size, 0, none⟩ (by simp; omega)]; simp)
 have hA := (((ht0.alloc (.cells #[.pointer (some ⟨ta, 0, none⟩)] 53)).alloc (.cells #[hT 53, .pointer (some ⟨w.heap.size, 0, none⟩), .int .u64 150] 66)).alloc (.cells #[hT 53, .pointer (some ⟨w.heap.size, 0, none⟩), .int .u64 150] 66)).alloc (.cells #[.int .i64 u, .int .i64 v] 48)
 have hB := Arr.new (((w.alloc (.cells #[.pointer (some ⟨ta, 0, none⟩)] 53)).alloc (.cells #[hT 53, .pointer (some ⟨w.heap.size, 0, none⟩), .int .u64 150] 66)).alloc (.cells #[hT 53, .pointer (some ⟨w.heap.size, 0, none⟩), .int .u64 150] 66)) 48 [.int .i64 u, .int .i64 v]
 have hbs : (((w.alloc (.cells #[.pointer (some ⟨ta, 0, none⟩)] 53)).alloc (.cells #[hT 53, .pointer (some ⟨w.heap.size, 0, none⟩), .int .u64 150] 66)).alloc (.cells #[hT 53, .pointer (some ⟨w.heap.size, 0, none⟩), .int .u64 150] 66)).heap.size = w.heap.size + 1 + 1 + 1 := by simp
 rw [hbs] at hB
 have st := asSet ta (w.heap.size + 1 + 1 + 1) u v o1 o2 _ hB hA
 have HB1 := Lib.hid ((((Below.refl w.heap.size w).alloc (Nat.le_refl _) (.cells #[.pointer (some ⟨ta, 0, none⟩)] 53)).alloc (by simp) (.cells #[hT 53, .pointer (some ⟨w.heap.size, 0, none⟩), .int .u64 150] 66)).alloc (by simp; omega) (.cells #[hT 53, .pointer (some ⟨w.heap.size, 0, none⟩), .int .u64 150] 66))
 have HA := Lib.hid hA
 clear hA hB hbs hw1
 go_enter Tryz.func10, Tryz.ntmps10
 go_wp2
 refine wp_loop_rounds 1 ?_
 rw [rounds_succ]
 go_wp2
 go_ret
 have hb2 := HB1.out.alloc (by have := HB1.out.size; omega) (.cells #[.int .i64 u, .int .i64 v] 48)
 refine ⟨rfl, setRow_heap _ ta _ _ _ _ HA.out, fun k hk hne => (setRow_other _ ta k _ hne).trans (hb2.block k hk), ?_, hb2.os, hb2.tape, hb2.output⟩
 have := hb2.size
 simpa using this
end Go.Proofs.YtbhigefbihpnlaaGreatDoor
