/- The walk of (*cbor.parser).define. -/
import Derived.Test.YtbhigefbihpnlaaGreatDoorMAt
set_option linter.unusedVariables false
set_option linter.unusedSimpArgs false
set_option linter.defProp false
set_option linter.constructorNameAsVariable false
namespace Go.Proofs.YtbhigefbihpnlaaGreatDoor
open Go.RowKit
def tailC (s : List Nat) (f : Nat) (h : CH) (span d : Nat) (la kd : Int) (p : Nat × CSt) : CR (Int × CSt) :=
 if kd = 9 ∨ kd = 10 then (contentC s f h p.1 span (d + 1) 0 (knownC la p.1 p.2)).bind fun st3 => .ok ((p.1 : Int), st3) else .ok ((p.1 : Int), knownC la p.1 p.2)
section
variable {s : List Nat} {f : Nat} {h : CH} {fr span d i1 : Nat} {la : Int} {st : CSt} {x : GNode}
theorem def_list (h4 : h.major = 4) : defineC s (f + 1) h fr span d la st = (addC { st with i := st.i } ⟨9, [], false, [], []⟩ fr d).bind (tailC s f h span d la 9) := by
 unfold defineC; rw [if_pos h4]; rfl
theorem def_map (h4 : ¬ h.major = 4) (h5 : h.major = 5) : defineC s (f + 1) h fr span d la st = (addC { st with i := st.i } ⟨10, [], false, [], []⟩ fr d).bind (tailC s f h span d la 10) := by
 unfold defineC; rw [if_neg h4, if_pos h5]; rfl
theorem def_no (h4 : ¬ h.major = 4) (h5 : ¬ h.major = 5) (ht : h.tag 1147 = true) : defineC s (f + 1) h fr span d la st = .no := by
 unfold defineC; rw [if_neg h4, if_neg h5, if_pos ht]; rfl
theorem def_scal (h4 : ¬ h.major = 4) (h5 : ¬ h.major = 5) (ht : ¬ h.tag 1147 = true) : defineC s (f + 1) h fr span d la st = (scalarC s h st.i).bind fun q => (addC { st with i := q.2 } q.1 fr d).bind (tailC s f h span d la q.1.kind) := by
 unfold defineC; rw [if_neg h4, if_neg h5, if_neg ht]; rfl
theorem scal_kind {j : Nat} {nd : GNode} (hh : scalarC s h i1 = .ok (nd, j)) : nd.kind ≠ 9 ∧ nd.kind ≠ 10 ∧ nd.kind ≠ 11 := by
 unfold scalarC at hh
 split at hh
 ·cases hh; exact ⟨by show (2 : Int) ≠ 9; decide, by show (2 : Int) ≠ 10; decide, by show (2 : Int) ≠ 11; decide⟩
 split at hh
 ·obtain ⟨⟨t, i1⟩, _, h2⟩ := CR.bind_ok hh
  cases h2; exact ⟨by show (6 : Int) ≠ 9; decide, by show (6 : Int) ≠ 10; decide, by show (6 : Int) ≠ 11; decide⟩
 split at hh
 ·obtain ⟨⟨t, i1⟩, _, h2⟩ := CR.bind_ok hh
  cases h2; exact ⟨by show (5 : Int) ≠ 9; decide, by show (5 : Int) ≠ 10; decide, by show (5 : Int) ≠ 11; decide⟩
 split at hh
 ·obtain ⟨z, h1, h2⟩ := CR.bind_ok hh
  cases h2
  unfold simpleC at h1
  repeat' split at h1
  all_goals first | (cases h1; exact ⟨by decide, by decide, by decide⟩) | cases h1
 split at hh <;> cases hh
theorem CI.known {s : List Nat} {st : CSt} (h : CI s st) (la : Int) (n : Nat) : CI s (knownC la n st) := by
 unfold knownC
 split
 ·exact ⟨h.i, h.nod, h.spn, by have := h.shr; simpa using this, h.mrk, h.by_, h.kl, h.ks⟩
 ·exact h
theorem known_nodes (la : Int) (n : Nat) (st : CSt) : (knownC la n st).nodes = st.nodes := by unfold knownC; split <;> rfl
theorem add_no {st : CSt} {nd : GNode} {a d : Nat} : addC st nd a d ≠ .no := by
 unfold addC; intro h; repeat' split at h
 all_goals cases h
end
set_option maxRecDepth 20000 in
set_option maxHeartbeats 16000000 in
theorem define_cb (f : Nat) (hC : ConH f) : DefH (f + 1) := by
 intro s w B vn vs vh vm ncs lab st x fr span d la lb pb hw hx hd hla hlb hpb hlbF hpbF hne
 obtain ⟨hat, m, k, a⟩ := x
 obtain ⟨R, hR⟩ : ∃ R, defineC s (f + 1) ⟨hat, m, k, a⟩ fr span d la st = R := ⟨_, rfl⟩
 rw [hR] at hne ⊢
 obtain ⟨h1, h2, hb1, hz1⟩ := box2 w 76 60 [.int .i64 (hat : Int), .int .i64 (m : Int), .int .i64 (k : Int), .int .u64 (a : Int)] [.int .i64 0, .string ⟨#[]⟩, .bool false, .slice none 0 0, .slice none 0 0]
 have HR := Lib.hid hR
 have HNE := Lib.hid hne
 have HC := Lib.hid hC
 have HPW := Lib.hid hw
 have HAR := Lib.hid hx
 have HLA := Lib.hid hla
 have HD := Lib.hid hd
 have HLBF := Lib.hid hlbF
 have HPBF := Lib.hid hpbF
 have PS2 := Lib.hid (PStep.of_below (F := CF B vn vs lab) hb1)
 have PW2 := Lib.hid (hw.below hb1)
 have LBL := Lib.hid hlb.lt
 have PBL := Lib.hid hpb.lt
 have LB2 := Lib.hid (hlb.keep hb1)
 have PB2 := Lib.hid (hpb.keep hb1)
 have XF := Lib.hid (hw.new (g := w.heap.size) (Nat.le_refl _))
 have NF := Lib.hid (hw.new (g := w.heap.size + 1) (Nat.le_succ _))
 have hBw := hw.cm.lt
 have hdd : (d : Int) ≤ 33 := by omega
 clear hR hne hC hw hx hla hlb hpb hlbF hpbF hb1 hz1 hd
 go_enter Tryz.func41, Tryz.ntmps41
 go_upto_region 4 with (fail)
 obtain ⟨gb, hgb⟩ : ∃ x, w.heap.size = x := ⟨_, rfl⟩
 change Hid (Arr ((w.alloc (.cells #[.int .i64 (hat : Int), .int .i64 (m : Int), .int .i64 (k : Int), .int .u64 (a : Int)] 76)).alloc (.cells #[.int .i64 0, .string ⟨#[]⟩, .bool false, .slice none 0 0, .slice none 0 0] 60)) w.heap.size 76 [.int .i64 (hat : Int), .int .i64 (m : Int), .int .i64 (k : Int), .int .u64 (a : Int)]) at h1
 change Hid (Arr ((w.alloc (.cells #[.int .i64 (hat : Int), .int .i64 (m : Int), .int .i64 (k : Int), .int .u64 (a : Int)] 76)).alloc (.cells #[.int .i64 0, .string ⟨#[]⟩, .bool false, .slice none 0 0, .slice none 0 0] 60)) (w.heap.size + 1) 60 [.int .i64 0, .string (mks []), .bool false, .slice none 0 0, .slice none 0 0]) at h2
 generalize ((w.alloc (.cells #[.int .i64 (hat : Int), .int .i64 (m : Int), .int .i64 (k : Int), .int .u64 (a : Int)] 76)).alloc (.cells #[.int .i64 0, .string ⟨#[]⟩, .bool false, .slice none 0 0, .slice none 0 0] 60)) = W at *
 have HGB := Lib.hid hgb
 rw [hgb] at h1 h2 XF NF hBw ⊢
 clear hgb
 obtain ⟨gn, hgn⟩ : ∃ x, gb + 1 = x := ⟨_, rfl⟩
 have HGN := Lib.hid (show w.heap.size ≤ gn by have := HGB.out; omega)
 have hgbn : gb ≠ gn := by omega
 have hBgn : B ≤ gn := by omega
 rw [hgn] at h2 NF ⊢
 clear hgn
 have x1 := h1.out.cell' (i := 1) rfl
 have n0 := h2.out.cell' (i := 0) rfl
 have n0f := h2.out.frozen 0
 have hlgn : lb ≠ gn := fun e => by have := LBL.out; have := HGN.out; have := HGB.out; omega
 have hpgn : pb ≠ gn := fun e => by have := PBL.out; have := HGN.out; have := HGB.out; omega
 by_cases h4 : m = 4
 ·have e4 : ((m : Int) == 4) = true := by subst h4; rfl
  have HRA := Lib.hid (show R = (addC { st with i := st.i } ⟨9, [], false, [], []⟩ fr d).bind (tailC s f ⟨hat, m, k, a⟩ span d la 9) by rw [← HR.out]; exact def_list h4)
  have N6 : Hid (Arr (W.setCell ⟨gn, 0, none⟩ (.int .i64 9)) gn 60 [.int .i64 9, .string (mks []), .bool false, .slice none 0 0, .slice none 0 0]) := h2.out.store 0 (.int .i64 9)
  have X6 := Lib.hid (h1.out.far (p := ⟨gn, 0, none⟩) hgbn (.int .i64 9))
  have LB6 := Lib.hid (LB2.out.far (p := ⟨gn, 0, none⟩) hlgn (.int .i64 9))
  have PB6 := Lib.hid (PB2.out.far (p := ⟨gn, 0, none⟩) hpgn (.int .i64 9))
  have C6 := Lib.hid (PW2.out.cm.aside NF.out 0 (.int .i64 9))
  have PS6 := Lib.hid (PS2.out.aside HGN.out 0 (.int .i64 9))
  have CI6 := Lib.hid HPW.out.ci
  have HBT := Lib.hid By.nil
  go_upto_region 11 with (fail)
  generalize (W.setCell ⟨gn, 0, none⟩ (.int .i64 9)) = w6 at *
  clear PS2 PW2 LB2 PB2 h1 h2 x1 n0 n0f HR
  clear h4
  have DA := Lib.hid (add_cb C6.out (show st.nodes.length ≤ 100000 by have := HPW.out.ci.nod; omega) 9 [] fr d)
  unfold AddP at DA
  have y0 := N6.out.cell' (i := 0) rfl
  have y1 := N6.out.cell' (i := 1) rfl
  have y2 := N6.out.cell' (i := 2) rfl
  have y3 := N6.out.cell' (i := 3) rfl
  have y4 := N6.out.cell' (i := 4) rfl
  cases hA : addC { st with i := st.i } ⟨9, [], false, [], []⟩ fr d with
  | no => exact absurd hA add_no
  | err b c =>
   rw [hA] at DA
   have hh := Lib.hid (show R = .err b c by rw [HRA.out, hA]; rfl)
   clear hA HRA
   go_upto_region 14 with (go_at_call 54; ((with_reducible refine DA.out.mono ?_)); rintro e w7 ⟨rfl, hb7⟩)
   go_wp2
   go_ret2
   exact ValP.of_err hh.out rfl (PS6.out.trans (PStep.of_below hb7))
  | ok p =>
   obtain ⟨n, st7⟩ := p
   rw [hA] at DA
   have HRT := Lib.hid (show R = tailC s f ⟨hat, m, k, a⟩ span d la 9 (n, st7) by rw [HRA.out, hA]; rfl)
   have HAF := Lib.hid (add_facts hA)
   clear hA HRA
   go_upto_region 16 with (go_at_call 54; ((with_reducible refine DA.out.mono ?_)); rintro e w7 ⟨rfl, vn7, ncs7, C7, hS7⟩)
   have LB7 := Lib.hid (hS7.arr LB6.out HLBF.out)
   have PB7 := Lib.hid (hS7.arr PB6.out HPBF.out)
   have X7 := Lib.hid (hS7.arr X6.out XF.out)
   have N7 := Lib.hid (hS7.arr N6.out NF.out)
   have X7F := Lib.hid (hS7.out X6.out.lt XF.out)
   have N7F := Lib.hid (hS7.out N6.out.lt NF.out)
   have hsh7 : st7.shared.length = st.shared.length := by rw [HAF.out.2.1]
   have DK := Lib.hid (known_cb C7 LB7.out PB7.out (show la < (st7.shared.length : Int) by rw [hsh7]; exact HLA.out) (by rw [hsh7]; have := HPW.out.ci.shr; have := HPW.out.ci.spn; have := HPW.out.ci.i; have := HPW.out.len; omega) n)
   have CI7 := Lib.hid (show CI s st7 by rw [HAF.out.2.1]; exact CI.add (st := { st with i := st.i }) CI6.out HBT.out rfl rfl HAF.out.2.2.1)
   have CI8 := Lib.hid (CI7.out.known la n)
   have HN8 := Lib.hid (show n < (knownC la n st7).nodes.length by rw [known_nodes, HAF.out.2.1, HAF.out.1]; simp)
   have PS7 := Lib.hid (PS6.out.trans hS7)
   unfold tailC at HRT
   have HRT2 := Lib.hid (show R = if (9 : Int) = 9 ∨ (9 : Int) = 10 then (contentC s f ⟨hat, m, k, a⟩ n span (d + 1) 0 (knownC la n st7)).bind fun st3 => .ok ((n : Int), st3) else .ok ((n : Int), knownC la n st7) from HRT.out)
   have HD7 := Lib.hid HAF.out.2.2.2
   generalize knownC la n st7 = st8 at *
   clear HRT hsh7 CI7 DA C7 hS7 y0 y1 y2 y3 y4 LB6 PB6 X6 N6 C6 PS6
   go_upto_region 17 with (go_at_call 42; ((with_reducible refine DK.out.mono ?_)); rintro e w8 ⟨rfl, C8, hS8⟩)
   have X8 := Lib.hid (hS8.arr X7.out X7F.out)
   have N8 := Lib.hid (hS8.arr N7.out N7F.out)
   have PS8 := Lib.hid (PS7.out.trans hS8)
   have y0 := N8.out.cell' (i := 0) rfl
   have HRC := Lib.hid (show R = (contentC s f ⟨hat, m, k, a⟩ n span (d + 1) 0 st8).bind fun st3 => .ok ((n : Int), st3) from HRT2.out.trans (if_pos (by decide)))
   have PW8 := Lib.hid (HPW.out.step PS8.out C8 CI8.out)
   have DC := HC.out s w8 B _ _ _ _ _ _ _ ⟨hat, m, k, a⟩ n span (d + 1) PW8.out HN8.out HAR.out (by have := HD7.out; omega) (fun e => HNE.out (by rw [HRC.out, e]; rfl))
   rw [show ((d + 1 : Nat) : Int) = (d : Int) + 1 by omega] at DC
   have z0 := X8.out.cell' (i := 0) rfl
   have z1 := X8.out.cell' (i := 1) rfl
   have z2 := X8.out.cell' (i := 2) rfl
   have z3 := X8.out.cell' (i := 3) rfl
   have DC2 := Lib.hid DC
   unfold ConP at DC2
   clear DC HRT2 DK hS8 C8
   cases hc : contentC s f ⟨hat, m, k, a⟩ n span (d + 1) 0 st8 with
   | no => exact absurd (show R = .no by rw [HRC.out, hc]; rfl) HNE.out
   | err b c =>
    rw [hc] at DC2
    have hh := Lib.hid (show R = .err b c by rw [HRC.out, hc]; rfl)
    clear hc HRC
    go_upto_region 29 with (go_at_call 55; ((with_reducible refine DC2.out.mono ?_)); rintro e w9 ⟨rfl, F9, hS9⟩)
    go_wp2
    go_ret2
    exact ValP.of_err hh.out rfl (PS8.out.trans hS9)
   | ok st9 =>
    rw [hc] at DC2
    have hh := Lib.hid (show R = .ok ((n : Int), st9) by rw [HRC.out, hc]; rfl)
    clear hc HRC
    go_upto_region 29 with (go_at_call 55; ((with_reducible refine DC2.out.mono ?_)); rintro e w9 ⟨rfl, vn9, vs9, vh9, vm9, ncs9, lab9, C9, hS9⟩)
    go_wp2
    go_ret2
    exact ValP.of_ok hh.out rfl C9 (PS8.out.trans hS9)
 have e4 : ((m : Int) == 4) = false := by rw [beq_eq_false_iff_ne]; omega
 by_cases h5 : m = 5
 ·have e5 : ((m : Int) == 5) = true := by subst h5; rfl
  have HRA := Lib.hid (show R = (addC { st with i := st.i } ⟨10, [], false, [], []⟩ fr d).bind (tailC s f ⟨hat, m, k, a⟩ span d la 10) by rw [← HR.out]; exact def_map h4 h5)
  have N6 : Hid (Arr (W.setCell ⟨gn, 0, none⟩ (.int .i64 10)) gn 60 [.int .i64 10, .string (mks []), .bool false, .slice none 0 0, .slice none 0 0]) := h2.out.store 0 (.int .i64 10)
  have X6 := Lib.hid (h1.out.far (p := ⟨gn, 0, none⟩) hgbn (.int .i64 10))
  have LB6 := Lib.hid (LB2.out.far (p := ⟨gn, 0, none⟩) hlgn (.int .i64 10))
  have PB6 := Lib.hid (PB2.out.far (p := ⟨gn, 0, none⟩) hpgn (.int .i64 10))
  have C6 := Lib.hid (PW2.out.cm.aside NF.out 0 (.int .i64 10))
  have PS6 := Lib.hid (PS2.out.aside HGN.out 0 (.int .i64 10))
  have CI6 := Lib.hid HPW.out.ci
  have HBT := Lib.hid By.nil
  go_upto_region 11 with (fail)
  generalize (W.setCell ⟨gn, 0, none⟩ (.int .i64 10)) = w6 at *
  clear PS2 PW2 LB2 PB2 h1 h2 x1 n0 n0f HR
  clear h4 h5
  have DA := Lib.hid (add_cb C6.out (show st.nodes.length ≤ 100000 by have := HPW.out.ci.nod; omega) 10 [] fr d)
  unfold AddP at DA
  have y0 := N6.out.cell' (i := 0) rfl
  have y1 := N6.out.cell' (i := 1) rfl
  have y2 := N6.out.cell' (i := 2) rfl
  have y3 := N6.out.cell' (i := 3) rfl
  have y4 := N6.out.cell' (i := 4) rfl
  cases hA : addC { st with i := st.i } ⟨10, [], false, [], []⟩ fr d with
  | no => exact absurd hA add_no
  | err b c =>
   rw [hA] at DA
   have hh := Lib.hid (show R = .err b c by rw [HRA.out, hA]; rfl)
   clear hA HRA
   go_upto_region 14 with (go_at_call 54; ((with_reducible refine DA.out.mono ?_)); rintro e w7 ⟨rfl, hb7⟩)
   go_wp2
   go_ret2
   exact ValP.of_err hh.out rfl (PS6.out.trans (PStep.of_below hb7))
  | ok p =>
   obtain ⟨n, st7⟩ := p
   rw [hA] at DA
   have HRT := Lib.hid (show R = tailC s f ⟨hat, m, k, a⟩ span d la 10 (n, st7) by rw [HRA.out, hA]; rfl)
   have HAF := Lib.hid (add_facts hA)
   clear hA HRA
   go_upto_region 16 with (go_at_call 54; ((with_reducible refine DA.out.mono ?_)); rintro e w7 ⟨rfl, vn7, ncs7, C7, hS7⟩)
   have LB7 := Lib.hid (hS7.arr LB6.out HLBF.out)
   have PB7 := Lib.hid (hS7.arr PB6.out HPBF.out)
   have X7 := Lib.hid (hS7.arr X6.out XF.out)
   have N7 := Lib.hid (hS7.arr N6.out NF.out)
   have X7F := Lib.hid (hS7.out X6.out.lt XF.out)
   have N7F := Lib.hid (hS7.out N6.out.lt NF.out)
   have hsh7 : st7.shared.length = st.shared.length := by rw [HAF.out.2.1]
   have DK := Lib.hid (known_cb C7 LB7.out PB7.out (show la < (st7.shared.length : Int) by rw [hsh7]; exact HLA.out) (by rw [hsh7]; have := HPW.out.ci.shr; have := HPW.out.ci.spn; have := HPW.out.ci.i; have := HPW.out.len; omega) n)
   have CI7 := Lib.hid (show CI s st7 by rw [HAF.out.2.1]; exact CI.add (st := { st with i := st.i }) CI6.out HBT.out rfl rfl HAF.out.2.2.1)
   have CI8 := Lib.hid (CI7.out.known la n)
   have HN8 := Lib.hid (show n < (knownC la n st7).nodes.length by rw [known_nodes, HAF.out.2.1, HAF.out.1]; simp)
   have PS7 := Lib.hid (PS6.out.trans hS7)
   unfold tailC at HRT
   have HRT2 := Lib.hid (show R = if (10 : Int) = 9 ∨ (10 : Int) = 10 then (contentC s f ⟨hat, m, k, a⟩ n span (d + 1) 0 (knownC la n st7)).bind fun st3 => .ok ((n : Int), st3) else .ok ((n : Int), knownC la n st7) from HRT.out)
   have HD7 := Lib.hid HAF.out.2.2.2
   generalize knownC la n st7 = st8 at *
   clear HRT hsh7 CI7 DA C7 hS7 y0 y1 y2 y3 y4 LB6 PB6 X6 N6 C6 PS6
   go_upto_region 17 with (go_at_call 42; ((with_reducible refine DK.out.mono ?_)); rintro e w8 ⟨rfl, C8, hS8⟩)
   have X8 := Lib.hid (hS8.arr X7.out X7F.out)
   have N8 := Lib.hid (hS8.arr N7.out N7F.out)
   have PS8 := Lib.hid (PS7.out.trans hS8)
   have y0 := N8.out.cell' (i := 0) rfl
   have HRC := Lib.hid (show R = (contentC s f ⟨hat, m, k, a⟩ n span (d + 1) 0 st8).bind fun st3 => .ok ((n : Int), st3) from HRT2.out.trans (if_pos (by decide)))
   have PW8 := Lib.hid (HPW.out.step PS8.out C8 CI8.out)
   have DC := HC.out s w8 B _ _ _ _ _ _ _ ⟨hat, m, k, a⟩ n span (d + 1) PW8.out HN8.out HAR.out (by have := HD7.out; omega) (fun e => HNE.out (by rw [HRC.out, e]; rfl))
   rw [show ((d + 1 : Nat) : Int) = (d : Int) + 1 by omega] at DC
   have z0 := X8.out.cell' (i := 0) rfl
   have z1 := X8.out.cell' (i := 1) rfl
   have z2 := X8.out.cell' (i := 2) rfl
   have z3 := X8.out.cell' (i := 3) rfl
   have DC2 := Lib.hid DC
   unfold ConP at DC2
   clear DC HRT2 DK hS8 C8
   cases hc : contentC s f ⟨hat, m, k, a⟩ n span (d + 1) 0 st8 with
   | no => exact absurd (show R = .no by rw [HRC.out, hc]; rfl) HNE.out
   | err b c =>
    rw [hc] at DC2
    have hh := Lib.hid (show R = .err b c by rw [HRC.out, hc]; rfl)
    clear hc HRC
    go_upto_region 29 with (go_at_call 55; ((with_reducible refine DC2.out.mono ?_)); rintro e w9 ⟨rfl, F9, hS9⟩)
    go_wp2
    go_ret2
    exact ValP.of_err hh.out rfl (PS8.out.trans hS9)
   | ok st9 =>
    rw [hc] at DC2
    have hh := Lib.hid (show R = .ok ((n : Int), st9) by rw [HRC.out, hc]; rfl)
    clear hc HRC
    go_upto_region 29 with (go_at_call 55; ((with_reducible refine DC2.out.mono ?_)); rintro e w9 ⟨rfl, vn9, vs9, vh9, vm9, ncs9, lab9, C9, hS9⟩)
    go_wp2
    go_ret2
    exact ValP.of_ok hh.out rfl C9 (PS8.out.trans hS9)
 have e5 : ((m : Int) == 5) = false := by rw [beq_eq_false_iff_ne]; omega
 have DT := Lib.hid (is_cb ⟨hat, m, k, a⟩ 1147)
 have hnt : (CH.mk hat m k a).tag 1147 = false := by
  cases ht : (CH.mk hat m k a).tag 1147 with
  | false => rfl
  | true => exact absurd (HR.out.symm.trans (def_no h4 h5 ht)) HNE.out
 rw [hnt, show ((1147 : Nat) : Int) = 1147 from rfl] at DT
 have HRS := Lib.hid (show R = (scalarC s ⟨hat, m, k, a⟩ st.i).bind fun q => (addC { st with i := q.2 } q.1 fr d).bind (tailC s f ⟨hat, m, k, a⟩ span d la q.1.kind) by rw [← HR.out]; exact def_scal h4 h5 (by rw [hnt]; decide))
 have x0 := h1.out.cell' (i := 0) rfl
 have x2 := h1.out.cell' (i := 2) rfl
 have x3 := h1.out.cell' (i := 3) rfl
 clear h4 h5 hnt HR
 go_upto_region 3 with (go_at_call 39; ((with_reducible refine (DT.out _).mono ?_)); rintro e w4 ⟨rfl, hb4⟩)
 have X4 := Lib.hid (h1.out.keep hb4)
 have N4 := Lib.hid (h2.out.keep hb4)
 have LB4 := Lib.hid (LB2.out.keep hb4)
 have PB4 := Lib.hid (PB2.out.keep hb4)
 have PW4 := Lib.hid (PW2.out.below hb4)
 have PS4 := Lib.hid (PS2.out.trans (PStep.of_below hb4))
 clear x0 x1 x2 x3 n0 n0f h1 h2 LB2 PB2 PW2 PS2 hb4 DT
 have hscn : scalarC s ⟨hat, m, k, a⟩ st.i ≠ .no := fun e => HNE.out (by rw [HRS.out, e]; rfl)
 have DS := Lib.hid (scalar_cb PW4.out.by_ PW4.out.len PW4.out.ci.i HAR.out hscn w4 PW4.out.libH PW4.out.cm.par)
 unfold ScP at DS
 have x0 := X4.out.cell' (i := 0) rfl
 have x1 := X4.out.cell' (i := 1) rfl
 have x2 := X4.out.cell' (i := 2) rfl
 have x3 := X4.out.cell' (i := 3) rfl
 cases hq : scalarC s ⟨hat, m, k, a⟩ st.i with
 | no => exact absurd hq hscn
 | err b c =>
  rw [hq] at DS
  have hh := Lib.hid (show R = .err b c by rw [HRS.out, hq]; rfl)
  clear hq HRS hscn
  go_upto_region 11 with (go_at_call 53; ((with_reducible refine DS.out.mono ?_)); rintro e w5 ⟨⟨nk, rfl⟩, j, hk⟩; have hN5 := Lib.hid ((PW4.out.cm.atw hk).2.arr N4.out NF.out); have q0 := hN5.out.cell' (i := 0) rfl; have f0 := hN5.out.frozen 0; have q1 := hN5.out.cell' (i := 1) rfl; have f1 := hN5.out.frozen 1; have q2 := hN5.out.cell' (i := 2) rfl; have f2 := hN5.out.frozen 2; have q3 := hN5.out.cell' (i := 3) rfl; have f3 := hN5.out.frozen 3; have q4 := hN5.out.cell' (i := 4) rfl; have f4 := hN5.out.frozen 4)
  have S5 := Lib.hid (PW4.out.cm.atw hk).2
  clear hk
  go_wp2
  go_ret2
  exact ValP.of_err hh.out rfl ((((((PS4.out.trans S5.out).aside HGN.out 0 _).aside HGN.out 1 _).aside HGN.out 2 _).aside HGN.out 3 _).aside HGN.out 4 _)
 | ok p =>
  obtain ⟨⟨nk, nt, no, nks, nis⟩, i1⟩ := p
  rw [hq] at DS
  obtain ⟨l1, l2, l3⟩ := scal_leaf hq
  have l1' : no = false := l1
  have l2' : nks = [] := l2
  have l3' : nis = [] := l3
  subst l1' l2' l3'
  clear l1 l2 l3
  have HKD := Lib.hid (show nk ≠ 9 ∧ nk ≠ 10 ∧ nk ≠ 11 from scal_kind hq)
  have HBT := Lib.hid (show By nt from scal_by HPW.out.by_ hq)
  have HRA := Lib.hid (show R = (addC { st with i := i1 } ⟨nk, nt, false, [], []⟩ fr d).bind (tailC s f ⟨hat, m, k, a⟩ span d la nk) by rw [HRS.out, hq]; rfl)
  have HLE := Lib.hid (scal_le HPW.out.by_ HPW.out.ci.i hq)
  clear hq HRS hscn
  go_upto_region 11 with (go_at_call 53; ((with_reducible refine DS.out.mono ?_)); rintro e w5 ⟨rfl, hk⟩; have hN5 := Lib.hid ((PW4.out.cm.atw hk).2.arr N4.out NF.out); have q0 := hN5.out.cell' (i := 0) rfl; have f0 := hN5.out.frozen 0; have q1 := hN5.out.cell' (i := 1) rfl; have f1 := hN5.out.frozen 1; have q2 := hN5.out.cell' (i := 2) rfl; have f2 := hN5.out.frozen 2; have q3 := hN5.out.cell' (i := 3) rfl; have f3 := hN5.out.frozen 3; have q4 := hN5.out.cell' (i := 4) rfl; have f4 := hN5.out.frozen 4)
  have S5 := Lib.hid (PW4.out.cm.atw hk).2
  have C5 := Lib.hid (PW4.out.cm.atw hk).1
  have hW6 : ∃ x, x = (((((w5.setCell ⟨gn, 0, none⟩ (.int .i64 nk)).setCell ⟨gn, 1, none⟩ (.string (mks nt))).setCell ⟨gn, 2, none⟩ (.bool false)).setCell ⟨gn, 3, none⟩ (.slice none 0 0)).setCell ⟨gn, 4, none⟩ (.slice none 0 0)) := ⟨_, rfl⟩
  obtain ⟨w6, hw6⟩ := hW6
  have X5 := Lib.hid (S5.out.arr X4.out XF.out)
  have LB5 := Lib.hid (S5.out.arr LB4.out HLBF.out)
  have PB5 := Lib.hid (S5.out.arr PB4.out HPBF.out)
  have N6 : Hid (Arr (((((w5.setCell ⟨gn, 0, none⟩ (.int .i64 nk)).setCell ⟨gn, 1, none⟩ (.string (mks nt))).setCell ⟨gn, 2, none⟩ (.bool false)).setCell ⟨gn, 3, none⟩ (.slice none 0 0)).setCell ⟨gn, 4, none⟩ (.slice none 0 0)) gn 60 [.int .i64 nk, .string (mks nt), .bool false, .slice none 0 0, .slice none 0 0]) := ((((hN5.out.store 0 _).store 1 _).store 2 _).store 3 _).store 4 _
  have X6 : Hid (Arr (((((w5.setCell ⟨gn, 0, none⟩ (.int .i64 nk)).setCell ⟨gn, 1, none⟩ (.string (mks nt))).setCell ⟨gn, 2, none⟩ (.bool false)).setCell ⟨gn, 3, none⟩ (.slice none 0 0)).setCell ⟨gn, 4, none⟩ (.slice none 0 0)) gb 76 [.int .i64 (hat : Int), .int .i64 (m : Int), .int .i64 (k : Int), .int .u64 (a : Int)]) := ((((X5.out.far (p := ⟨gn, 0, none⟩) hgbn _).far (p := ⟨gn, 1, none⟩) hgbn _).far (p := ⟨gn, 2, none⟩) hgbn _).far (p := ⟨gn, 3, none⟩) hgbn _).far (p := ⟨gn, 4, none⟩) hgbn _
  have LB6 : Hid (Arr (((((w5.setCell ⟨gn, 0, none⟩ (.int .i64 nk)).setCell ⟨gn, 1, none⟩ (.string (mks nt))).setCell ⟨gn, 2, none⟩ (.bool false)).setCell ⟨gn, 3, none⟩ (.slice none 0 0)).setCell ⟨gn, 4, none⟩ (.slice none 0 0)) lb 3 [.int .i64 la]) := ((((LB5.out.far (p := ⟨gn, 0, none⟩) hlgn _).far (p := ⟨gn, 1, none⟩) hlgn _).far (p := ⟨gn, 2, none⟩) hlgn _).far (p := ⟨gn, 3, none⟩) hlgn _).far (p := ⟨gn, 4, none⟩) hlgn _
  have PB6 : Hid (Arr (((((w5.setCell ⟨gn, 0, none⟩ (.int .i64 nk)).setCell ⟨gn, 1, none⟩ (.string (mks nt))).setCell ⟨gn, 2, none⟩ (.bool false)).setCell ⟨gn, 3, none⟩ (.slice none 0 0)).setCell ⟨gn, 4, none⟩ (.slice none 0 0)) pb 43 [.pointer (some ⟨B, 0, none⟩)]) := ((((PB5.out.far (p := ⟨gn, 0, none⟩) hpgn _).far (p := ⟨gn, 1, none⟩) hpgn _).far (p := ⟨gn, 2, none⟩) hpgn _).far (p := ⟨gn, 3, none⟩) hpgn _).far (p := ⟨gn, 4, none⟩) hpgn _
  have C6 : Hid (CM (((((w5.setCell ⟨gn, 0, none⟩ (.int .i64 nk)).setCell ⟨gn, 1, none⟩ (.string (mks nt))).setCell ⟨gn, 2, none⟩ (.bool false)).setCell ⟨gn, 3, none⟩ (.slice none 0 0)).setCell ⟨gn, 4, none⟩ (.slice none 0 0)) B s vn vs vh vm ncs lab { st with i := i1 }) := ((((C5.out.aside NF.out 0 _).aside NF.out 1 _).aside NF.out 2 _).aside NF.out 3 _).aside NF.out 4 _
  have PS6 : Hid (PStep w (((((w5.setCell ⟨gn, 0, none⟩ (.int .i64 nk)).setCell ⟨gn, 1, none⟩ (.string (mks nt))).setCell ⟨gn, 2, none⟩ (.bool false)).setCell ⟨gn, 3, none⟩ (.slice none 0 0)).setCell ⟨gn, 4, none⟩ (.slice none 0 0)) (CF B vn vs lab) (CF B vn vs lab)) := (((((PS4.out.trans S5.out).aside HGN.out 0 _).aside HGN.out 1 _).aside HGN.out 2 _).aside HGN.out 3 _).aside HGN.out 4 _
  have CI6 : Hid (CI s { st with i := i1 }) := HPW.out.ci.to HLE.out.1 HLE.out.2
  clear hk q0 q1 q2 q3 q4 f0 f1 f2 f3 f4 hN5 S5 C5 X5 LB5 PB5 X4 N4 LB4 PB4 PW4 PS4 DS x0 x1 x2 x3 hw6
  clear w6
  generalize (((((w5.setCell ⟨gn, 0, none⟩ (.int .i64 nk)).setCell ⟨gn, 1, none⟩ (.string (mks nt))).setCell ⟨gn, 2, none⟩ (.bool false)).setCell ⟨gn, 3, none⟩ (.slice none 0 0)).setCell ⟨gn, 4, none⟩ (.slice none 0 0)) = w6 at *
  have DA := Lib.hid (add_cb C6.out (show st.nodes.length ≤ 100000 by have := HPW.out.ci.nod; omega) nk nt fr d)
  unfold AddP at DA
  have y0 := N6.out.cell' (i := 0) rfl
  have y1 := N6.out.cell' (i := 1) rfl
  have y2 := N6.out.cell' (i := 2) rfl
  have y3 := N6.out.cell' (i := 3) rfl
  have y4 := N6.out.cell' (i := 4) rfl
  cases hA : addC { st with i := i1 } ⟨nk, nt, false, [], []⟩ fr d with
  | no => exact absurd hA add_no
  | err b c =>
   rw [hA] at DA
   have hh := Lib.hid (show R = .err b c by rw [HRA.out, hA]; rfl)
   clear hA HRA
   go_upto_region 14 with (go_at_call 54; ((with_reducible refine DA.out.mono ?_)); rintro e w7 ⟨rfl, hb7⟩)
   go_wp2
   go_ret2
   exact ValP.of_err hh.out rfl (PS6.out.trans (PStep.of_below hb7))
  | ok p =>
   obtain ⟨n, st7⟩ := p
   rw [hA] at DA
   have HRT := Lib.hid (show R = tailC s f ⟨hat, m, k, a⟩ span d la nk (n, st7) by rw [HRA.out, hA]; rfl)
   have HAF := Lib.hid (add_facts hA)
   clear hA HRA
   go_upto_region 16 with (go_at_call 54; ((with_reducible refine DA.out.mono ?_)); rintro e w7 ⟨rfl, vn7, ncs7, C7, hS7⟩)
   have LB7 := Lib.hid (hS7.arr LB6.out HLBF.out)
   have PB7 := Lib.hid (hS7.arr PB6.out HPBF.out)
   have X7 := Lib.hid (hS7.arr X6.out XF.out)
   have N7 := Lib.hid (hS7.arr N6.out NF.out)
   have X7F := Lib.hid (hS7.out X6.out.lt XF.out)
   have N7F := Lib.hid (hS7.out N6.out.lt NF.out)
   have hsh7 : st7.shared.length = st.shared.length := by rw [HAF.out.2.1]
   have DK := Lib.hid (known_cb C7 LB7.out PB7.out (show la < (st7.shared.length : Int) by rw [hsh7]; exact HLA.out) (by rw [hsh7]; have := HPW.out.ci.shr; have := HPW.out.ci.spn; have := HPW.out.ci.i; have := HPW.out.len; omega) n)
   have CI7 := Lib.hid (show CI s st7 by rw [HAF.out.2.1]; exact CI.add (st := { st with i := i1 }) CI6.out HBT.out rfl rfl HAF.out.2.2.1)
   have CI8 := Lib.hid (CI7.out.known la n)
   have HN8 := Lib.hid (show n < (knownC la n st7).nodes.length by rw [known_nodes, HAF.out.2.1, HAF.out.1]; simp)
   have PS7 := Lib.hid (PS6.out.trans hS7)
   unfold tailC at HRT
   have HRT2 := Lib.hid (show R = if (nk : Int) = 9 ∨ (nk : Int) = 10 then (contentC s f ⟨hat, m, k, a⟩ n span (d + 1) 0 (knownC la n st7)).bind fun st3 => .ok ((n : Int), st3) else .ok ((n : Int), knownC la n st7) from HRT.out)
   have HD7 := Lib.hid HAF.out.2.2.2
   generalize knownC la n st7 = st8 at *
   clear HRT hsh7 CI7 DA C7 hS7 y0 y1 y2 y3 y4 LB6 PB6 X6 N6 C6 PS6
   go_upto_region 17 with (go_at_call 42; ((with_reducible refine DK.out.mono ?_)); rintro e w8 ⟨rfl, C8, hS8⟩)
   have X8 := Lib.hid (hS8.arr X7.out X7F.out)
   have N8 := Lib.hid (hS8.arr N7.out N7F.out)
   have PS8 := Lib.hid (PS7.out.trans hS8)
   have y0 := N8.out.cell' (i := 0) rfl
   have hh := Lib.hid (show R = .ok ((n : Int), st8) from HRT2.out.trans (if_neg (by rintro (e | e); exact HKD.out.1 e; exact HKD.out.2.1 e)))
   have k9 : (nk == (9 : Int)) = false := by rw [beq_eq_false_iff_ne]; exact HKD.out.1
   have k10 : (nk == (10 : Int)) = false := by rw [beq_eq_false_iff_ne]; exact HKD.out.2.1
   have k11 : (nk == (11 : Int)) = false := by rw [beq_eq_false_iff_ne]; exact HKD.out.2.2
   clear HRT2 DK
   go_wp2
   go_ret2
   exact ValP.of_ok hh.out rfl C8 PS8.out
end Go.Proofs.YtbhigefbihpnlaaGreatDoor
