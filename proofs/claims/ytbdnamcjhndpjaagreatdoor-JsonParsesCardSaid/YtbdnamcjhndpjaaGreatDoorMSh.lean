/- The walk of the reference's value: a bracket. -/
import Derived.Test.YtbdnamcjhndpjaaGreatDoorMSd
import Derived.Deep.RegionHeld3
import Derived.Deep.DeepCutAuto
import Derived.StillTailTactics
import Derived.IntWalk
set_option linter.unusedVariables false
set_option linter.unusedSimpArgs false
set_option linter.defProp false
set_option linter.constructorNameAsVariable false
namespace Go.Proofs.YtbdnamcjhndpjaaGreatDoor
open Go.RowKit
set_option maxRecDepth 100000 in
set_option maxHeartbeats 8000000 in
theorem pval_map_ok (f : Nat) (hL : RItsH true f) {w : World} {B : Nat} {k : RK} {vn vs : Value} {ncs : List Value} {lab : Nat → Option Nat} {st : RSt} {s : JSpan} {d : Nat} (h : RM w B k vn vs ncs lab st) (hb : RB2 k) (hin : RIn k st d) (hne : rvalV k.s.length (f + 1) (leftA k st.i) st.nodes.length st.spans.length s d ≠ .error (0, 0))
  (hk : (tokAt k st.i).kind = 1) (htx : (tokAt k st.i).text = [123]) (hd : ¬ 32 < d) (hn : ¬ 4096 ≤ st.nodes.length) :
  Calls Tryz.prog 13 #[.pointer (some ⟨B, 0, none⟩), .agg (spanC s).toArray, .int .i64 (d : Int)] w (RValR w B k (RF B vn vs lab) st d (rvalV k.s.length (f + 1) (leftA k st.i) st.nodes.length st.spans.length s d)) := by
 obtain ⟨R, hR⟩ : ∃ R, rvalV k.s.length (f + 1) (leftA k st.i) st.nodes.length st.spans.length s d = R := ⟨_, rfl⟩
 rw [hR] at hne ⊢
 have HNE := Lib.hid hne
 have HB := Lib.hid hb
 have HIN := Lib.hid hin
 have hbt := hb.tl
 have hii := hin.i
 have hin1 := hin.nod
 have hin2 := hin.spn
 have hin3 := hin.d
 have DT := ptoken_h h hb.toRB (by omega)
 have hty := (tokAt_by hb.toRB st.i).1
 have htk0 : (tokAt k st.i).kind ≠ 0 := by rw [hk]; decide
 have htkb : ¬ ((tokAt k st.i).kind = 1 ∧ ¬ (tokAt k st.i).text = [91] ∧ ¬ (tokAt k st.i).text = [123]) := by rw [htx]; simp
 have h91 : isV (leftA k st.i) [91] = false := by rw [tokAt_is, hk, htx]; rfl
 have h123 : isV (leftA k st.i) [123] = true := by rw [tokAt_is, hk, htx]; rfl
 have H91 := Lib.hid h91
 have H123 := Lib.hid h123
 have hlt1 := (leftA_cons htk0).2
 have HK := Lib.hid hk
 have HTX := Lib.hid htx
 have hRq := rv_brM f (s := s) hk htx hd hn
 rw [hR] at hRq
 obtain ⟨rv, hrv⟩ : ∃ rv, ritemsV k.s.length f true st.spans.length d (st.nodes.length + 1) (st.spans.length + 1) ⟨leftA k (st.i + 1), [], [], [], [], []⟩ = rv := ⟨_, rfl⟩
 rw [hrv] at hRq
 have hrne : rv ≠ .error (0, 0) := by intro e; apply hne; rw [hRq, e]
 have hat := val_at (s := s) hin hlt1 hn 10
 have HAT := Lib.hid hat
 have HRV := Lib.hid hRq
 have HRVE := Lib.hid hrv
 have HRNE := Lib.hid hrne
 have HL := Lib.hid hL
 have HD := Lib.hid hd
 have HN := Lib.hid hn
 obtain ⟨t, ht⟩ : ∃ t, Hid (tokAt k st.i = t) := ⟨_, Lib.hid rfl⟩
 rw [ht.out] at DT hty
 have HTY := Lib.hid hty
 obtain ⟨s1, hs1⟩ : ∃ s1, Hid (valS k st s = s1) := ⟨_, Lib.hid rfl⟩
 obtain ⟨F, hF⟩ : ∃ F, Hid (RF B vn vs lab = F) := ⟨_, Lib.hid rfl⟩
 have hrl : Hid (∀ g, F g → g < w.heap.size) := by show ∀ g, _; rw [← hF.out]; exact h.rfLt
 obtain ⟨W, hWe, HP, HBd, hlow⟩ := val_box w s
 have HWE := Lib.hid hWe
 rw [hF.out]
 show Calls _ _ #[.pointer (some ⟨B, 0, none⟩), .agg #[.int .i64 s.node, .int .i64 s.parent, .int .i64 s.entry, .int .i64 s.from_, .int .i64 s.to_, .int .i64 s.kf, .int .i64 s.kt, .bool s.alias_, .bool s.whole], .int .i64 (d : Int)] w _
 clear hne hR hb hin hty hWe hk htx hd hn htk0 htkb h91 h123 hRq hrv hrne hat hL
 go_enter Tryz.func13, Tryz.ntmps13
 go_upto_region 1 with (fail)
 have hW := h.below HBd
 rw [← HWE.out]
 clear HWE
 go_upto_region 2 with (first | (go_at_call 14; ((with_reducible refine (DT.out _ HBd).mono ?_)); rintro e w5 ⟨rfl, hb5⟩; have hX0 := Lib.hid (Arr.new w5 62 zTok)) | ((with_reducible show wpList _ _ _ (Oper.mk none (Op.store 62 (Operand.tmp 7) (Operand.tmp 13)) _ _ _ _ :: _) _ _); go_loud (refine wpList_sr rfl rfl 62 (.tmp 7) (.tmp 13) rfl (w5.heap.size) [.int .i64 (t.kind : Int), .int .i64 (t.from_ : Int), .int .i64 (t.to_ : Int), .string (mks t.text)] rfl rfl 62 _ hX0.out _ Tryz.sz62 (by first | rfl | simp) (by first | rfl | simp) (by first | rfl | simp [Value.oneCell']) ?_; intro w6 hr6 hg6 hz6)))
 have hb56 : Below W.heap.size W w6 := ((hb5.trans (((Below.refl w5.heap.size w5).alloc (Nat.le_refl _) (.cells zTok.toArray 62)).mono hb5.size)).grown hg6 (by have := hb5.size; simp; omega) (fun k e => by have := Option.some.inj e; have := hb5.size; omega))
 have hs5 := hb5.size
 have P6 : Arr w6 w.heap.size 38 (spanC s) := HP.out.keep hb56
 have x61 := hr6.out.cell' (i := 1) rfl
 have p63 := P6.cell' (i := 3) rfl
 have p68 := P6.cell' (i := 8) rfl
 have f63 := P6.frozen 3
 have f68 := P6.frozen 8
 obtain ⟨w7, hw7, P7, X7, hb07⟩ := val_two (fr := (t.from_ : Int)) P6 hr6.out (by omega) (HBd.trans (hb56.mono HBd.size))
 have h2 : ((spanC s).set 3 (.int .i64 (t.from_ : Int))).set 8 (.bool true) = spanC s1 := by rw [← hs1.out]; unfold valS; rw [ht.out]; rfl
 rw [h2] at P7
 have HW7 := Lib.hid hw7
 have h7 := h.below hb07
 have HP7 := Lib.hid P7
 have HX7 := Lib.hid X7
 have hXF : Hid (¬ F w5.heap.size) := by show ¬ _; intro hf; have := hrl.out _ hf; omega
 clear P7 X7 P6 DT h2 hw7
 go_upto_region 3 with (fail)
 rw [← HW7.out]
 clear HW7
 clear x61 p63 p68 f63 f68 hb56 hW h HBd
 obtain ⟨As, cs, hvs, _, _⟩ := own_slice h7.spn
 have c6 : w7.cell? ⟨B, 6, none⟩ = some (.slice As st.spans.length cs) := by have := h7.c6; rw [← hvs]; exact this
 clear hr6 hg6 hz6 hX0 hs5
 go_upto_region 4 with (fail)
 obtain ⟨st1, hst1⟩ : ∃ st1, Hid (valS1 k st s = st1) := ⟨_, Lib.hid rfl⟩
 go_cut [] (fun wx => ∃ vs', RM wx B k vn vs' ncs lab st1 ∧ PStep w7 wx F (RF B vn vs' lab))
 case first =>
  have hlt7 := h7.lt
  have d6 : (w7.alloc (.cells #[.int .i64 s1.node, .int .i64 s1.parent, .int .i64 s1.entry, .int .i64 s1.from_, .int .i64 s1.to_, .int .i64 s1.kf, .int .i64 s1.kt, .bool s1.alias_, .bool s1.whole] 38)).cell? ⟨B, 6, none⟩ = some (.slice As st.spans.length cs) := by
   have := (h7.par.alloc (.cells #[.int .i64 s1.node, .int .i64 s1.parent, .int .i64 s1.entry, .int .i64 s1.from_, .int .i64 s1.to_, .int .i64 s1.kf, .int .i64 s1.kt, .bool s1.alias_, .bool s1.whole] 38)).cell' (i := 6) rfl
   rw [← hvs]; exact this
  have x0 := HP7.out.cell' (i := 0) rfl
  have x1 := HP7.out.cell' (i := 1) rfl
  have x2 := HP7.out.cell' (i := 2) rfl
  have x3 := HP7.out.cell' (i := 3) rfl
  have x4 := HP7.out.cell' (i := 4) rfl
  have x5 := HP7.out.cell' (i := 5) rfl
  have x6 := HP7.out.cell' (i := 6) rfl
  have x7 := HP7.out.cell' (i := 7) rfl
  have x8 := HP7.out.cell' (i := 8) rfl
  have hownd : w7.drew.ownsRow B 38 9 (.slice As st.spans.length cs) st.spans.length (spansC st.spans) := by have := h7.spn; rw [hvs] at this; exact this
  go_region_law (refine step_apS rfl (.tmp 29) (.tmp 31) 26 rfl B 38 _ 9 _ Tryz.underlying26 Tryz.infoS38 rfl (by decide) _ st.spans.length (spansC st.spans) rfl (hownd.alloc _) ⟨w7.heap.size, 0, none⟩ _ [.int .i64 s1.node, .int .i64 s1.parent, .int .i64 s1.entry, .int .i64 s1.from_, .int .i64 s1.to_, .int .i64 s1.kf, .int .i64 s1.kt, .bool s1.alias_, .bool s1.whole] rfl rfl (cells_new _ _ _) rfl (by unfold maxLen; omega) (by omega) (by simp; omega) ?_; intro v3 w3 hown3 hgr3 hat3; obtain ⟨A3, c3, rfl, hc3, hm3⟩ := own_slice hown3; rw [← hvs] at hgr3 hat3; obtain ⟨P3, h8, hP8⟩ := RM.addSpan h7 s1 _ hown3 hgr3 hat3; have p6 := P3.cell' (i := 6) rfl; have q6 := P3.frozen 6; clear hgr3 hat3 hown3)
  all_goals
   have h9 : RM (w3.setCell ⟨B, 6, none⟩ (.slice A3 (st.spans.length + 1) c3)) B k vn (.slice A3 (st.spans.length + 1) c3) ncs lab st1 := by rw [← hst1.out]; unfold valS1; rw [hs1.out]; exact h8
   have hP9 := hP8
   rw [hF.out] at hP9
   have H9 := Lib.hid h9
   have HP9 := Lib.hid hP9
   clear h8 hP8 h9 hP9 p6 q6 P3 c6 d6 x0 x1 x2 x3 x4 x5 x6 x7 x8
   go_wp2_with (fail)
   go_meet
   exact ⟨_, H9.out, HP9.out⟩
 case rest =>
  obtain ⟨vs1, h8, hP8⟩ := hcut
  obtain ⟨w8, hw8⟩ : ∃ x, x = wc := ⟨_, rfl⟩
  subst hw8
  have X8 := hP8.arr HX7.out hXF.out
  have HX8 := Lib.hid X8
  have HPA : Hid (PStep w w8 F (RF B vn vs1 lab)) := (PStep.of_below hb07).trans hP8
  have i1 : st1.i = st.i := by rw [← hst1.out]; rfl
  have n1 : st1.nodes = st.nodes := by rw [← hst1.out]; rfl
  have e1 : st1.err = 0 := by rw [← hst1.out]; exact HIN.out.err
  have nl1 : st1.nodes.length = st.nodes.length := by rw [n1]
  have hiA : st1.i ≤ 10000000 := by omega
  have I1 := Lib.hid i1
  have N1 := Lib.hid n1
  have E1 := Lib.hid e1
  have NL1 := Lib.hid nl1
  have hXB1 : w5.heap.size < w8.heap.size := HX8.out.lt
  have hXN : Hid (¬ RF B vn vs1 lab w5.heap.size) := hP8.out HX7.out.lt hXF.out
  clear h7 X8 c6 hvs hP8 i1 n1 e1 nl1 hb07 HP7 HX7 hXF HP
  have D91 := pis_1 h8 HB.out.toRB hiA 91 (by omega) ⟨#[91]⟩ rfl
  rw [I1.out, H91.out] at D91
  have D123 : Hid (∀ w', Below w8.heap.size w8 w' → Hid (Calls Tryz.prog 29 #[.pointer (some ⟨B, 0, none⟩), .string ⟨#[123]⟩] w' (fun e w'' => e = .returned (.bool (isV (leftA k st.i) [123])) ∧ Below w'.heap.size w' w''))) := by
   show ∀ w', _
   intro w' hb'
   have := pis_1 (h8.below hb') HB.out.toRB hiA 123 (by omega) ⟨#[123]⟩ rfl
   rw [I1.out] at this
   exact this
  rw [H123.out] at D123
  have D7 : Hid (∀ w', Below w8.heap.size w8 w' → Calls Tryz.prog 30 #[.pointer (some ⟨B, 0, none⟩), .agg #[.int .i64 10, .string ⟨#[]⟩, .bool false, .slice none 0 0, .slice none 0 0], .int .i64 (d : Int)] w' (NodeR w' B k (RF B vn vs1 lab) vs1 lab st.nodes.length (nodeS k st1 d ⟨10, [], false, [], []⟩))) := by
   show ∀ w', _
   intro w' hb'
   have := pnode_any (h8.below hb') HB.out.toRB hiA (by have := NL1.out; omega) (10) [] d (by omega)
   rw [NL1.out] at this
   exact this
  have hN1 := node_ok (k := k) (st := st1) ⟨10, [], false, [], []⟩ HD.out (by rw [NL1.out]; exact HN.out)
  rw [hN1] at D7
  have hat := HAT.out
  rw [hs1.out] at hat
  have hst2 : { st with spans := st.spans ++ [valS k st s], nodes := st.nodes ++ [(⟨10, [], false, [], []⟩ : GNode)], i := st.i + 1 } = { st1 with nodes := st1.nodes ++ [(⟨10, [], false, [], []⟩ : GNode)], i := st1.i + 1 } := by rw [← hst1.out]; rfl
  rw [hs1.out] at hst2
  rw [hst2] at hat
  obtain ⟨s2, hs2⟩ : ∃ s2, Hid ({ st1 with nodes := st1.nodes ++ [(⟨10, [], false, [], []⟩ : GNode)] } = s2) := ⟨_, Lib.hid rfl⟩
  rw [hs2.out] at D7
  have hat2 : RAt k st.nodes st.spans 10 s1 ⟨leftA k (s2.i + 1), [], [], [], [], []⟩ { s2 with i := s2.i + 1 } := by rw [← hs2.out]; show RAt k st.nodes st.spans 10 s1 ⟨leftA k (st1.i + 1), [], [], [], [], []⟩ _; rw [I1.out] at hat ⊢; exact hat
  have HAT2 := Lib.hid hat2
  have i2 : s2.i = st.i := by rw [← hs2.out]; exact I1.out
  have I2 := Lib.hid i2
  have hd32 : d ≤ 32 := by have := HD.out; omega
  clear hN1 hat hst2 hat2 i2
  have DL : Hid (∀ w' vn' ncs', RM w' B k vn' vs1 ncs' lab s2 → Calls Tryz.prog 32 #[.pointer (some ⟨B, 0, none⟩), .int .i64 (st.nodes.length : Int), .int .i64 (st.spans.length : Int), .int .i64 (d : Int)] w' (RItsR w' B k (RF B vn' vs1 lab) st.nodes st.spans 10 s1 d rv)) := by
   show ∀ w', _
   intro w' vn' ncs' hm
   have := HL.out w' B k vn' vs1 ncs' lab s2 st.nodes st.spans s1 10 d hm HB.out HAT2.out hd32 (by rw [I2.out, HRVE.out]; exact HRNE.out)
   rw [I2.out, HRVE.out] at this
   exact this
  cases rv with
  | error q =>
   go_wp2_with (first | (go_at_call 29; ((with_reducible refine D91.out.mono ?_)); rintro e w9 ⟨rfl, hb9⟩; have h9 := h8.below hb9) | (go_at_call 29; ((with_reducible refine (D123.out _ hb9).out.mono ?_)); rintro e w10 ⟨rfl, hb10⟩; have h10 := h9.below hb10; have X10 := (HX8.out.keep hb9).keep hb10; have x100 := X10.cell' (i := 0) rfl; have x101 := X10.cell' (i := 1) rfl; have x102 := X10.cell' (i := 2) rfl; have x103 := X10.cell' (i := 3) rfl) | (go_at_call 30; ((with_reducible refine (D7.out _ (hb9.trans (hb10.mono hb9.size))).mono ?_)); rintro e w11 ⟨vn2, ncs2, rfl, h11, hP11⟩) | (go_at_call 32; ((with_reducible refine (DL.out _ _ _ h11).mono ?_)); rintro e w12 ⟨rfl, st9, ⟨vn3, vs3, ncs3, lab3, h12, hP12⟩, hfl⟩; have hqn : ((q.2 : Int) == 0) = false := (by have := hfl.ne; simp; omega); have c812 : w12.cell? ⟨B, 8, none⟩ = some (.int .i64 (q.2 : Int)) := (by have := h12.c8; rw [show (parC k _ _ st9)[8] = Value.int .i64 (st9.err : Int) from rfl, hfl.err] at this; exact this); have HFL := Lib.hid hfl; clear hfl))
   go_ret
   rw [HRV.out]
   exact ⟨st.nodes.length, _, rfl, RD.of h12 (HPA.out.trans ((PStep.of_below (hb9.trans (hb10.mono hb9.size))).trans (hP11.trans hP12))), HFL.out⟩
  | ok x =>
   go_upto_region 20 with (first | (go_at_call 29; ((with_reducible refine D91.out.mono ?_)); rintro e w9 ⟨rfl, hb9⟩; have h9 := h8.below hb9) | (go_at_call 29; ((with_reducible refine (D123.out _ hb9).out.mono ?_)); rintro e w10 ⟨rfl, hb10⟩; have h10 := h9.below hb10; have X10 := (HX8.out.keep hb9).keep hb10; have x100 := X10.cell' (i := 0) rfl; have x101 := X10.cell' (i := 1) rfl; have x102 := X10.cell' (i := 2) rfl; have x103 := X10.cell' (i := 3) rfl) | (go_at_call 30; ((with_reducible refine (D7.out _ (hb9.trans (hb10.mono hb9.size))).mono ?_)); rintro e w11 ⟨vn2, ncs2, rfl, h11, hP11⟩) | (go_at_call 32; ((with_reducible refine (DL.out _ _ _ h11).mono ?_)); rintro e w13 ⟨rfl, st3, st9, ⟨vn3, vs3, ncs3, lab3, h13, hP13⟩, hA9, hst3, hjl⟩; have c813 := h13.e0 (by rw [hst3]; exact hA9.err); have HP11 := Lib.hid hP11; have HST3 := Lib.hid hst3; have HA9 := Lib.hid hA9; clear hA9 hst3 hP11))
   have hsp3 : st3.spans = st.spans ++ s1 :: x.ds := by rw [HST3.out]; exact HA9.out.spn
   have hnd3 : st3.nodes = st.nodes ++ ⟨10, [], false, x.keys, x.items⟩ :: x.dn := by rw [HST3.out]; exact HA9.out.nod
   have hnl3 : st3.nodes.length ≤ 4096 := by rw [HST3.out]; exact HA9.out.nl
   have hsl3 : st3.spans.length ≤ st3.nodes.length := by rw [HST3.out]; exact HA9.out.sl
   obtain ⟨jj, hjj0⟩ : ∃ jj, st9.i = jj := ⟨_, rfl⟩
   rw [hjj0] at hjl
   have hjj : st3.i = jj + 1 := by rw [HST3.out, ← hjj0]
   have hll3 : leftA k jj = x.l := by rw [← hjj0]; exact HA9.out.left
   have HLL3 := Lib.hid hll3
   have HND3 := Lib.hid hnd3
   have hij : st.i + 1 ≤ jj := by have := its_lt (st2 := st9) HRVE.out (by rw [hjj0]; exact hll3) (by rw [hjj0]; exact hjl); omega
   clear hll3 hnd3 hjj0
   have hget3 : ∀ (r : Nat) (u : Value), r < 9 → (spanC s1)[r]? = some u → (spansC st3.spans)[st.spans.length * 9 + r]? = some u := by
    intro r u hr hu
    rw [hsp3, spansC_mid, ← spansC_len st.spans, List.getElem?_append_right (by omega), Nat.add_sub_cancel_left, List.getElem?_append_left (by show r < 9; exact hr)]
    exact hu
   have L3 : st3.spans.length = st.spans.length + 1 + x.ds.length := by rw [hsp3]; first | (simp; done) | (simp; omega)
   try simp only [List.length_nil, Nat.add_zero] at L3
   obtain ⟨gs, cs2, hvs2, hcs2, _⟩ := own_slice0 h13.spn (by omega)
   obtain ⟨LL, hLL⟩ : ∃ LL, st3.spans.length = LL := ⟨_, rfl⟩
   have hLLi : (st.spans.length : Int) < LL := by omega
   have hLLm : LL ≤ 100000 := by omega
   have hsn := h13.spn
   rw [hvs2] at hsn
   have g0 := (own_cell hsn (hget3 0 _ (by decide) rfl)).1
   have f0 := (own_cell hsn (hget3 0 _ (by decide) rfl)).2
   rw [Nat.add_zero] at g0 f0
   have c63 : w13.cell? ⟨B, 6, none⟩ = some (.slice (some ⟨gs, 0, none⟩) LL cs2) := by have := h13.c6; rw [show (parC k _ _ st3)[6] = _ from rfl, hvs2, hLL] at this; exact this
   have hA12 := h13.spanSet hvs2 (st.spans.length * 9 + 0) (.int .i64 (st.nodes.length : Int)) (st.spans ++ { s1 with node := (st.nodes.length : Int) } :: x.ds) (by rw [hsp3]; simp) (by rw [hsp3]; exact spansC_put _ _ _ _ _ _ (by decide) rfl)
   rw [Nat.add_zero] at hA12
   have HA12 := Lib.hid hA12
   have HVS2 := Lib.hid hvs2
   have HSP3 := Lib.hid hsp3
   clear hA12 hvs2 hsp3 hsn hget3 L3
   go_upto_region 22 with (fail)
   obtain ⟨h12, hP12⟩ := HA12.out
   generalize (w13.setCell ⟨gs, st.spans.length * 9, none⟩ (.int .i64 (st.nodes.length : Int))) = w12 at *
   clear g0 f0 c63
   have hLs : (st.spans ++ { s1 with node := (st.nodes.length : Int) } :: x.ds).length = LL := by rw [← hLL, HSP3.out]; simp
   have c64 : w12.cell? ⟨B, 6, none⟩ = some (.slice (some ⟨gs, 0, none⟩) LL cs2) := by have := h12.c6; rw [show (parC k _ _ { st3 with spans := st.spans ++ { s1 with node := (st.nodes.length : Int) } :: x.ds })[6] = _ from rfl, HVS2.out, hLL] at this; exact this
   have c04 : w12.cell? ⟨B, 0, none⟩ = some (.slice k.A k.ts.length k.c) := h12.c0
   have c14 : w12.cell? ⟨B, 1, none⟩ = some (.int .i64 ((jj : Int) + 1)) := by have := h12.c1; rw [show (parC k _ _ { st3 with spans := st.spans ++ { s1 with node := (st.nodes.length : Int) } :: x.ds })[1] = Value.int .i64 (st3.i : Int) from rfl, hjj] at this; rw [this]; rfl
   obtain ⟨htj, htj2⟩ := leftA_head hjl
   obtain ⟨g, o, hA, hg, hR2⟩ := h12.tokCell htj
   have r2 := hR2 2 _ rfl
   have hjl' : (jj : Int) < k.ts.length := by omega
   have hjb : jj ≤ 100000 := by omega
   obtain ⟨hsn1, hsn2⟩ : (w12.drew.cell? ⟨gs, st.spans.length * 9 + 4, none⟩ = some (.int .i64 s1.to_)) ∧ w12.drew.frozen? ⟨gs, st.spans.length * 9 + 4, none⟩ = false := by
    have hsn0 := h12.drew.spn
    rw [HVS2.out, hLL] at hsn0
    have hsn : w12.drew.ownsRow B 38 9 (.slice (some ⟨gs, 0, none⟩) LL cs2) LL (spansC (st.spans ++ { s1 with node := (st.nodes.length : Int) } :: x.ds)) := own_len hLs hsn0
    have hq : (spansC (st.spans ++ { s1 with node := (st.nodes.length : Int) } :: x.ds))[st.spans.length * 9 + 4]? = some (.int .i64 s1.to_) := by
     rw [spansC_mid, ← spansC_len st.spans, List.getElem?_append_right (by omega), Nat.add_sub_cancel_left]; rfl
    exact own_cell hsn hq
   rw [hA] at c04
   have H12 := Lib.hid h12
   have HP12 := Lib.hid hP12
   have HLS := Lib.hid hLs
   have HA := Lib.hid hA
   have HJJ := Lib.hid hjj
   have HTJ2 := Lib.hid htj2
   have hltB := h12.lt
   clear h12 hP12 hLs hA htj htj2 hR2 hjj
   have hwr : IntKind.i64.wrap (jj : Int) = (jj : Int) := IntWalk.i64_in _ (by omega)
   have hwr0 : (0 : Int) ≤ (jj : Int) := by omega
   go_still_tail 18, (by kernel_rfl)
   change wpList _ _ _ _ _ w12.drew
   go_wp2_with (fail)
   go_ret
   rw [HRV.out]
   have hvs4 := HVS2.out
   rw [hLL, ← HLS.out] at hvs4
   have h14 := H12.out.drew.spanSet hvs4 (st.spans.length * 9 + 4) (.int .i64 ((tokAt k jj).to_ : Int)) (st.spans ++ { s1 with node := (st.nodes.length : Int), to_ := ((tokAt k jj).to_ : Int) } :: x.ds) (by simp) (spansC_put _ _ _ _ _ _ (by decide) rfl)
   have hRD := RD.of h14.1 (HPA.out.trans ((PStep.of_below (hb9.trans (hb10.mono hb9.size))).trans (HP11.out.trans (hP13.trans (HP12.out.trans ((PStep.of_below (Below.drew (Below.refl _ _))).trans h14.2))))))
   refine ⟨rfl, _, hRD, ?_⟩
   rw [hs1.out]
   have hto : (x.l.head?.map (fun y => (y.to_ : Int))).getD 0 = ((tokAt k jj).to_ : Int) := by rw [← HLL3.out, HTJ2.out]; rfl
   rw [hto]
   refine ⟨?_, HND3.out, rfl, ?_, ?_, ?_, ?_, ?_⟩
   ·show st3.err = 0
    rw [HST3.out]; exact HA9.out.err
   ·show leftA k st3.i = x.l.drop 1
    rw [HJJ.out, ← HLL3.out]; unfold leftA; rw [List.drop_drop]
   ·show st3.i ≤ _
    rw [HJJ.out]; exact hjl
   ·show st.i < st3.i
    rw [HJJ.out]; omega
   ·exact hnl3
   ·show (st.spans ++ _ :: x.ds).length ≤ st3.nodes.length
    have := hsl3
    rw [HSP3.out] at this
    simpa using this
end Go.Proofs.YtbdnamcjhndpjaaGreatDoor
