/- The walk of the reference's value: a scalar. -/
import Derived.Test.YtbdnamcjhndpjaaGreatDoorMSd
import Derived.Deep.RegionHeld3
import Derived.Deep.DeepCutAuto
import Derived.StillTailTactics
import Derived.IntWalk
import Derived.Test.YtbdnamcjhndpjaaGreatDoorMSe
import Derived.Test.YtbdnamcjhndpjaaGreatDoorMSc
import Derived.Test.YtbdnamcjhndpjaaGreatDoorMSf
import Derived.Test.YtbdnamcjhndpjaaGreatDoorMSg
import Derived.Test.YtbdnamcjhndpjaaGreatDoorMSh
import Derived.Test.YtbdnamcjhndpjaaGreatDoorMSi
import Derived.Test.YtbdnamcjhndpjaaGreatDoorMO
set_option linter.unusedVariables false
set_option linter.unusedSimpArgs false
set_option linter.defProp false
set_option linter.constructorNameAsVariable false
namespace Go.Proofs.YtbdnamcjhndpjaaGreatDoor
open Go.RowKit
set_option maxRecDepth 100000 in
set_option maxHeartbeats 8000000 in
theorem pval_sc_ok (f : Nat) (kd0 : Int) (tx0 : List Nat) {w : World} {B : Nat} {k : RK} {vn vs : Value} {ncs : List Value} {lab : Nat → Option Nat} {st : RSt} {s : JSpan} {d : Nat} (h : RM w B k vn vs ncs lab st) (hb : RB2 k) (hin : RIn k st d) (hne : rvalV k.s.length (f + 1) (leftA k st.i) st.nodes.length st.spans.length s d ≠ .error (0, 0))
  (hk : 2 ≤ (tokAt k st.i).kind) (hsc : scalarV (tokAt k st.i) = some ⟨kd0, tx0, false, [], []⟩) (hd : ¬ 32 < d) (hn : ¬ 4096 ≤ st.nodes.length) :
  Calls Tryz.prog 13 #[.pointer (some ⟨B, 0, none⟩), .agg (spanC s).toArray, .int .i64 (d : Int)] w (RValR w B k (RF B vn vs lab) st d (rvalV k.s.length (f + 1) (leftA k st.i) st.nodes.length st.spans.length s d)) := by
 obtain ⟨R, hR⟩ : ∃ R, rvalV k.s.length (f + 1) (leftA k st.i) st.nodes.length st.spans.length s d = R := ⟨_, rfl⟩
 rw [hR] at hne ⊢
 have HNE := Lib.hid hne
 have HB := Lib.hid hb
 have HIN := Lib.hid hin
 have hbt := hb.tl
 have hii := hin.i
 have hin1 := hin.nod
 have hin2 := hin.spn
 have hin3 := hin.d
 have DT := ptoken_h h hb.toRB (by omega)
 have hty := (tokAt_by hb.toRB st.i).1
 have htk0 : (tokAt k st.i).kind ≠ 0 := by omega
 have htk1 : (tokAt k st.i).kind ≠ 1 := by omega
 have h91 : isV (leftA k st.i) [91] = false := by rw [tokAt_is]; simp [htk1]
 have h123 : isV (leftA k st.i) [123] = false := by rw [tokAt_is]; simp [htk1]
 have hk2 : ¬ ((tokAt k st.i).kind : Int) < 2 := by omega
 have hlt1 := (leftA_cons htk0).2
 have htm : tokAt k st.i ∈ k.ts := by
  have := (leftA_head hlt1).1
  exact List.mem_of_getElem? this
 have DS := rscal_any (tokAt k st.i) (hb.ok _ htm) (hb.nl _ htm htk1)
 rw [hsc] at DS
 have H91 := Lib.hid h91
 have H123 := Lib.hid h123
 have HSC := Lib.hid hsc
 have hRq := rv_sc (st := st) f (n0 := st.nodes.length) (s0 := st.spans.length) (s := s) htk0 htk1 hd hn
 rw [hR, hsc] at hRq
 have HRV := Lib.hid hRq
 have HD := Lib.hid hd
 have HN := Lib.hid hn
 obtain ⟨t, ht⟩ : ∃ t, Hid (tokAt k st.i = t) := ⟨_, Lib.hid rfl⟩
 rw [ht.out] at DT hty hk2
 have HTY := Lib.hid hty
 obtain ⟨s1, hs1⟩ : ∃ s1, Hid (valS k st s = s1) := ⟨_, Lib.hid rfl⟩
 obtain ⟨F, hF⟩ : ∃ F, Hid (RF B vn vs lab = F) := ⟨_, Lib.hid rfl⟩
 have hrl : Hid (∀ g, F g → g < w.heap.size) := by show ∀ g, _; rw [← hF.out]; exact h.rfLt
 obtain ⟨W, hWe, HP, HBd, hlow⟩ := val_box w s
 have HWE := Lib.hid hWe
 rw [hF.out]
 show Calls _ _ #[.pointer (some ⟨B, 0, none⟩), .agg #[.int .i64 s.node, .int .i64 s.parent, .int .i64 s.entry, .int .i64 s.from_, .int .i64 s.to_, .int .i64 s.kf, .int .i64 s.kt, .bool s.alias_, .bool s.whole], .int .i64 (d : Int)] w _
 clear hne hR hb hin hty hWe hk hsc htk0 htk1 h91 h123 htm hRq hd hn
 go_enter Tryz.func13, Tryz.ntmps13
 go_upto_region 1 with (fail)
 have hW := h.below HBd
 rw [← HWE.out]
 clear HWE
 go_upto_region 2 with (first | (go_at_call 14; ((with_reducible refine (DT.out _ HBd).mono ?_)); rintro e w5 ⟨rfl, hb5⟩; have hX0 := Lib.hid (Arr.new w5 62 zTok)) | ((with_reducible show wpList _ _ _ (Oper.mk none (Op.store 62 (Operand.tmp 7) (Operand.tmp 13)) _ _ _ _ :: _) _ _); go_loud (refine wpList_sr rfl rfl 62 (.tmp 7) (.tmp 13) rfl (w5.heap.size) [.int .i64 (t.kind : Int), .int .i64 (t.from_ : Int), .int .i64 (t.to_ : Int), .string (mks t.text)] rfl rfl 62 _ hX0.out _ Tryz.sz62 (by first | rfl | simp) (by first | rfl | simp) (by first | rfl | simp [Value.oneCell']) ?_; intro w6 hr6 hg6 hz6)))
 have hb56 : Below W.heap.size W w6 := ((hb5.trans (((Below.refl w5.heap.size w5).alloc (Nat.le_refl _) (.cells zTok.toArray 62)).mono hb5.size)).grown hg6 (by have := hb5.size; simp; omega) (fun k e => by have := Option.some.inj e; have := hb5.size; omega))
 have hs5 := hb5.size
 have P6 : Arr w6 w.heap.size 38 (spanC s) := HP.out.keep hb56
 have x61 := hr6.out.cell' (i := 1) rfl
 have p63 := P6.cell' (i := 3) rfl
 have p68 := P6.cell' (i := 8) rfl
 have f63 := P6.frozen 3
 have f68 := P6.frozen 8
 obtain ⟨w7, hw7, P7, X7, hb07⟩ := val_two (fr := (t.from_ : Int)) P6 hr6.out (by omega) (HBd.trans (hb56.mono HBd.size))
 have h2 : ((spanC s).set 3 (.int .i64 (t.from_ : Int))).set 8 (.bool true) = spanC s1 := by rw [← hs1.out]; unfold valS; rw [ht.out]; rfl
 rw [h2] at P7
 have HW7 := Lib.hid hw7
 have h7 := h.below hb07
 have HP7 := Lib.hid P7
 have HX7 := Lib.hid X7
 have hXF : Hid (¬ F w5.heap.size) := by show ¬ _; intro hf; have := hrl.out _ hf; omega
 clear P7 X7 P6 DT h2 hw7
 go_upto_region 3 with (fail)
 rw [← HW7.out]
 clear HW7
 clear x61 p63 p68 f63 f68 hb56 hW h HBd
 obtain ⟨As, cs, hvs, _, _⟩ := own_slice h7.spn
 have c6 : w7.cell? ⟨B, 6, none⟩ = some (.slice As st.spans.length cs) := by have := h7.c6; rw [← hvs]; exact this
 clear hr6 hg6 hz6 hX0 hs5
 go_upto_region 4 with (fail)
 obtain ⟨st1, hst1⟩ : ∃ st1, Hid (valS1 k st s = st1) := ⟨_, Lib.hid rfl⟩
 go_cut [] (fun wx => ∃ vs', RM wx B k vn vs' ncs lab st1 ∧ PStep w7 wx F (RF B vn vs' lab))
 case first =>
  have hlt7 := h7.lt
  have d6 : (w7.alloc (.cells #[.int .i64 s1.node, .int .i64 s1.parent, .int .i64 s1.entry, .int .i64 s1.from_, .int .i64 s1.to_, .int .i64 s1.kf, .int .i64 s1.kt, .bool s1.alias_, .bool s1.whole] 38)).cell? ⟨B, 6, none⟩ = some (.slice As st.spans.length cs) := by
   have := (h7.par.alloc (.cells #[.int .i64 s1.node, .int .i64 s1.parent, .int .i64 s1.entry, .int .i64 s1.from_, .int .i64 s1.to_, .int .i64 s1.kf, .int .i64 s1.kt, .bool s1.alias_, .bool s1.whole] 38)).cell' (i := 6) rfl
   rw [← hvs]; exact this
  have x0 := HP7.out.cell' (i := 0) rfl
  have x1 := HP7.out.cell' (i := 1) rfl
  have x2 := HP7.out.cell' (i := 2) rfl
  have x3 := HP7.out.cell' (i := 3) rfl
  have x4 := HP7.out.cell' (i := 4) rfl
  have x5 := HP7.out.cell' (i := 5) rfl
  have x6 := HP7.out.cell' (i := 6) rfl
  have x7 := HP7.out.cell' (i := 7) rfl
  have x8 := HP7.out.cell' (i := 8) rfl
  have hownd : w7.drew.ownsRow B 38 9 (.slice As st.spans.length cs) st.spans.length (spansC st.spans) := by have := h7.spn; rw [hvs] at this; exact this
  go_region_law (refine step_apS rfl (.tmp 29) (.tmp 31) 26 rfl B 38 _ 9 _ Tryz.underlying26 Tryz.infoS38 rfl (by decide) _ st.spans.length (spansC st.spans) rfl (hownd.alloc _) ⟨w7.heap.size, 0, none⟩ _ [.int .i64 s1.node, .int .i64 s1.parent, .int .i64 s1.entry, .int .i64 s1.from_, .int .i64 s1.to_, .int .i64 s1.kf, .int .i64 s1.kt, .bool s1.alias_, .bool s1.whole] rfl rfl (cells_new _ _ _) rfl (by unfold maxLen; omega) (by omega) (by simp; omega) ?_; intro v3 w3 hown3 hgr3 hat3; obtain ⟨A3, c3, rfl, hc3, hm3⟩ := own_slice hown3; rw [← hvs] at hgr3 hat3; obtain ⟨P3, h8, hP8⟩ := RM.addSpan h7 s1 _ hown3 hgr3 hat3; have p6 := P3.cell' (i := 6) rfl; have q6 := P3.frozen 6; clear hgr3 hat3 hown3)
  all_goals
   have h9 : RM (w3.setCell ⟨B, 6, none⟩ (.slice A3 (st.spans.length + 1) c3)) B k vn (.slice A3 (st.spans.length + 1) c3) ncs lab st1 := by rw [← hst1.out]; unfold valS1; rw [hs1.out]; exact h8
   have hP9 := hP8
   rw [hF.out] at hP9
   have H9 := Lib.hid h9
   have HP9 := Lib.hid hP9
   clear h8 hP8 h9 hP9 p6 q6 P3 c6 d6 x0 x1 x2 x3 x4 x5 x6 x7 x8
   go_wp2_with (fail)
   go_meet
   exact ⟨_, H9.out, HP9.out⟩
 case rest =>
  obtain ⟨vs1, h8, hP8⟩ := hcut
  obtain ⟨w8, hw8⟩ : ∃ x, x = wc := ⟨_, rfl⟩
  subst hw8
  have X8 := hP8.arr HX7.out hXF.out
  have HX8 := Lib.hid X8
  have HPA : Hid (PStep w w8 F (RF B vn vs1 lab)) := (PStep.of_below hb07).trans hP8
  have i1 : st1.i = st.i := by rw [← hst1.out]; rfl
  have n1 : st1.nodes = st.nodes := by rw [← hst1.out]; rfl
  have e1 : st1.err = 0 := by rw [← hst1.out]; exact HIN.out.err
  have nl1 : st1.nodes.length = st.nodes.length := by rw [n1]
  have hiA : st1.i ≤ 10000000 := by omega
  have I1 := Lib.hid i1
  have N1 := Lib.hid n1
  have E1 := Lib.hid e1
  have NL1 := Lib.hid nl1
  have hXB1 : w5.heap.size < w8.heap.size := HX8.out.lt
  have hXN : Hid (¬ RF B vn vs1 lab w5.heap.size) := hP8.out HX7.out.lt hXF.out
  clear h7 X8 c6 hvs hP8 i1 n1 e1 nl1 hb07 HP7 HX7 hXF HP
  have D91 := pis_1 h8 HB.out.toRB hiA 91 (by omega) ⟨#[91]⟩ rfl
  rw [I1.out, H91.out] at D91
  have D123 : Hid (∀ w', Below w8.heap.size w8 w' → Hid (Calls Tryz.prog 29 #[.pointer (some ⟨B, 0, none⟩), .string ⟨#[123]⟩] w' (fun e w'' => e = .returned (.bool (isV (leftA k st.i) [123])) ∧ Below w'.heap.size w' w''))) := by
   show ∀ w', _
   intro w' hb'
   have := pis_1 (h8.below hb') HB.out.toRB hiA 123 (by omega) ⟨#[123]⟩ rfl
   rw [I1.out] at this
   exact this
  rw [H123.out] at D123
  have D7 : Hid (∀ w', Below w8.heap.size w8 w' → Calls Tryz.prog 30 #[.pointer (some ⟨B, 0, none⟩), .agg #[.int .i64 kd0, .string (mks tx0), .bool false, .slice none 0 0, .slice none 0 0], .int .i64 (d : Int)] w' (NodeR w' B k (RF B vn vs1 lab) vs1 lab st.nodes.length (nodeS k st1 d ⟨kd0, tx0, false, [], []⟩))) := by
   show ∀ w', _
   intro w' hb'
   have := pnode_any (h8.below hb') HB.out.toRB hiA (by have := NL1.out; omega) (kd0) tx0 d (by omega)
   rw [NL1.out] at this
   exact this
  have DS2 : Hid (∀ w', Calls Tryz.prog 33 #[.agg #[.int .i64 (t.kind : Int), .int .i64 (t.from_ : Int), .int .i64 (t.to_ : Int), .string (mks t.text)]] w' (fun e w'' => Below w'.heap.size w' w'' ∧ e = .returned (.tuple #[.agg #[.int .i64 kd0, .string (mks tx0), .bool false, .slice none 0 0, .slice none 0 0], .int .i64 0]))) := by
   show ∀ w', _
   intro w'
   have := DS w'
   rw [ht.out] at this
   exact this
  clear DS
  go_upto_region 7 with (first | (go_at_call 29; ((with_reducible refine D91.out.mono ?_)); rintro e w9 ⟨rfl, hb9⟩; have h9 := h8.below hb9) | (go_at_call 29; ((with_reducible refine (D123.out _ hb9).out.mono ?_)); rintro e w10 ⟨rfl, hb10⟩; have h10 := h9.below hb10; have X10 := (HX8.out.keep hb9).keep hb10; have x100 := X10.cell' (i := 0) rfl; have x101 := X10.cell' (i := 1) rfl; have x102 := X10.cell' (i := 2) rfl; have x103 := X10.cell' (i := 3) rfl) | (go_at_call 33; ((with_reducible refine (DS2.out _).mono ?_)); rintro e w12 ⟨hb12, rfl⟩; have hN0 := Lib.hid (Arr.new w12 41 zNode)) | ((with_reducible show wpList _ _ _ (Oper.mk none (Op.store 41 (Operand.tmp 10) (Operand.tmp 39)) _ _ _ _ :: _) _ _); go_loud (refine wpList_sr rfl rfl 41 (.tmp 10) (.tmp 39) rfl (w12.heap.size) [.int .i64 kd0, .string (mks tx0), .bool false, .slice none 0 0, .slice none 0 0] rfl rfl 41 _ hN0.out _ Tryz.sz41 (by first | rfl | simp) (by first | rfl | simp) (by first | rfl | simp [Value.oneCell']) ?_; intro w13 hr13 hg13 hz13)))
  have hb12' : Below w8.heap.size w8 w12 := (hb9.trans (hb10.mono hb9.size)).trans (hb12.mono (Nat.le_trans hb9.size hb10.size))
  have hb13 : Below w8.heap.size w8 w13 := ((hb12'.trans (((Below.refl w12.heap.size w12).alloc (Nat.le_refl _) (.cells zNode.toArray 41)).mono hb12'.size)).grown hg13 (by have := hb12'.size; simp; omega) (fun k e => by have := Option.some.inj e; have := hb12'.size; omega))
  have y0 := hr13.out.cell' (i := 0) rfl
  have y1 := hr13.out.cell' (i := 1) rfl
  have y2 := hr13.out.cell' (i := 2) rfl
  have y3 := hr13.out.cell' (i := 3) rfl
  have y4 := hr13.out.cell' (i := 4) rfl
  clear hN0 hg13 hz13 X10 h9 h10
  have hN1 := node_ok (k := k) (st := st1) ⟨kd0, tx0, false, [], []⟩ HD.out (by rw [NL1.out]; exact HN.out)
  rw [hN1] at D7
  obtain ⟨s2, hs2⟩ : ∃ s2, Hid ({ st1 with nodes := st1.nodes ++ [(⟨kd0, tx0, false, [], []⟩ : GNode)] } = s2) := ⟨_, Lib.hid rfl⟩
  rw [hs2.out] at D7
  have i2 : s2.i = st.i := by rw [← hs2.out]; exact I1.out
  have I2 := Lib.hid i2
  obtain ⟨jj, hJ1⟩ : ∃ jj, Hid (jj = st.i) := ⟨_, Lib.hid rfl⟩
  have HJ1 := hJ1
  obtain ⟨s3, hs3⟩ : ∃ s3, Hid ({ s2 with i := jj + 1 } = s3) := ⟨_, Lib.hid rfl⟩
  clear hN1 i2
  go_upto_region 8 with (go_at_call 30; ((with_reducible refine (D7.out _ hb13).mono ?_)); rintro e w14 ⟨vn2, ncs2, rfl, h14, hP14⟩)
  have k15 : w14.cell? ⟨B, 1, none⟩ = some (.int .i64 (st.i : Int)) := by have := h14.c1; rw [show (parC k _ _ s2)[1] = Value.int .i64 (s2.i : Int) from rfl, I2.out] at this; exact this
  have f15 := h14.f 1
  have h13 : RM (w14.setCell ⟨B, 1, none⟩ (.int .i64 ((st.i : Int) + 1))) B k vn2 vs1 ncs2 lab s3 := by
   have h16 := h14.setI (jj + 1)
   rw [hs3.out, show ((jj + 1 : Nat) : Int) = (st.i : Int) + 1 by rw [HJ1.out]; omega] at h16
   exact h16
  have hPN := hP14.trans (pstep_set (w := w14) (vn := vn2) (vs := vs1) (lab := lab) (g := B) (.inl rfl) 1 (.int .i64 ((st.i : Int) + 1)))
  have c816 := h13.e0 (by rw [← hs3.out, ← hs2.out]; exact E1.out)
  have H13 := Lib.hid h13
  clear h13 hP14
  go_upto_region 20 with (fail)
  have h13 := H13.out
  clear H13
  generalize (w14.setCell ⟨B, 1, none⟩ (.int .i64 ((st.i : Int) + 1))) = w13' at *
  have hsp3 : s3.spans = st.spans ++ s1 :: [] := by rw [← hs3.out, ← hs2.out, ← hst1.out, ← hs1.out]; rfl
  have hnd3 : s3.nodes = st.nodes ++ [⟨kd0, tx0, false, [], []⟩] := by rw [← hs3.out, ← hs2.out]; show st1.nodes ++ _ = _; rw [N1.out]
  have HND3 := Lib.hid hnd3
  have hjj : s3.i = jj + 1 := by rw [← hs3.out]
  have hjl : jj < k.ts.length := by rw [HJ1.out]; exact hlt1
  clear hnd3 k15 f15
  have hget3 : ∀ (r : Nat) (u : Value), r < 9 → (spanC s1)[r]? = some u → (spansC s3.spans)[st.spans.length * 9 + r]? = some u := by
   intro r u hr hu
   rw [hsp3, spansC_mid, ← spansC_len st.spans, List.getElem?_append_right (by omega), Nat.add_sub_cancel_left, List.getElem?_append_left (by show r < 9; exact hr)]
   exact hu
  have L3 : s3.spans.length = st.spans.length + 1 + ([] : List JSpan).length := by rw [hsp3]; first | (simp; done) | (simp; omega)
  try simp only [List.length_nil, Nat.add_zero] at L3
  obtain ⟨gs, cs2, hvs2, hcs2, _⟩ := own_slice0 h13.spn (by omega)
  obtain ⟨LL, hLL⟩ : ∃ LL, s3.spans.length = LL := ⟨_, rfl⟩
  have hLLi : (st.spans.length : Int) < LL := by omega
  have hLLm : LL ≤ 100000 := by omega
  have hsn := h13.spn
  rw [hvs2] at hsn
  have g0 := (own_cell hsn (hget3 0 _ (by decide) rfl)).1
  have f0 := (own_cell hsn (hget3 0 _ (by decide) rfl)).2
  rw [Nat.add_zero] at g0 f0
  have c63 : w13'.cell? ⟨B, 6, none⟩ = some (.slice (some ⟨gs, 0, none⟩) LL cs2) := by have := h13.c6; rw [show (parC k _ _ s3)[6] = _ from rfl, hvs2, hLL] at this; exact this
  have hA12 := h13.spanSet hvs2 (st.spans.length * 9 + 0) (.int .i64 (st.nodes.length : Int)) (st.spans ++ { s1 with node := (st.nodes.length : Int) } :: ([] : List JSpan)) (by rw [hsp3]; simp) (by rw [hsp3]; exact spansC_put _ _ _ _ _ _ (by decide) rfl)
  rw [Nat.add_zero] at hA12
  have HA12 := Lib.hid hA12
  have HVS2 := Lib.hid hvs2
  have HSP3 := Lib.hid hsp3
  clear hA12 hvs2 hsp3 hsn hget3 L3
  go_upto_region 22 with (fail)
  obtain ⟨h12, hP12⟩ := HA12.out
  generalize (w13'.setCell ⟨gs, st.spans.length * 9, none⟩ (.int .i64 (st.nodes.length : Int))) = w12 at *
  clear g0 f0 c63
  have hLs : (st.spans ++ { s1 with node := (st.nodes.length : Int) } :: ([] : List JSpan)).length = LL := by rw [← hLL, HSP3.out]; simp
  have c64 : w12.cell? ⟨B, 6, none⟩ = some (.slice (some ⟨gs, 0, none⟩) LL cs2) := by have := h12.c6; rw [show (parC k _ _ { s3 with spans := st.spans ++ { s1 with node := (st.nodes.length : Int) } :: ([] : List JSpan) })[6] = _ from rfl, HVS2.out, hLL] at this; exact this
  have c04 : w12.cell? ⟨B, 0, none⟩ = some (.slice k.A k.ts.length k.c) := h12.c0
  have c14 : w12.cell? ⟨B, 1, none⟩ = some (.int .i64 ((jj : Int) + 1)) := by have := h12.c1; rw [show (parC k _ _ { s3 with spans := st.spans ++ { s1 with node := (st.nodes.length : Int) } :: ([] : List JSpan) })[1] = Value.int .i64 (s3.i : Int) from rfl, hjj] at this; rw [this]; rfl
  obtain ⟨htj, htj2⟩ := leftA_head hjl
  obtain ⟨g, o, hA, hg, hR2⟩ := h12.tokCell htj
  have r2 := hR2 2 _ rfl
  have hjl' : (jj : Int) < k.ts.length := by omega
  have hjb : jj ≤ 100000 := by omega
  obtain ⟨hsn1, hsn2⟩ : (w12.drew.cell? ⟨gs, st.spans.length * 9 + 4, none⟩ = some (.int .i64 s1.to_)) ∧ w12.drew.frozen? ⟨gs, st.spans.length * 9 + 4, none⟩ = false := by
   have hsn0 := h12.drew.spn
   rw [HVS2.out, hLL] at hsn0
   have hsn : w12.drew.ownsRow B 38 9 (.slice (some ⟨gs, 0, none⟩) LL cs2) LL (spansC (st.spans ++ { s1 with node := (st.nodes.length : Int) } :: ([] : List JSpan))) := own_len hLs hsn0
   have hq : (spansC (st.spans ++ { s1 with node := (st.nodes.length : Int) } :: ([] : List JSpan)))[st.spans.length * 9 + 4]? = some (.int .i64 s1.to_) := by
    rw [spansC_mid, ← spansC_len st.spans, List.getElem?_append_right (by omega), Nat.add_sub_cancel_left]; rfl
   exact own_cell hsn hq
  rw [hA] at c04
  have H12 := Lib.hid h12
  have HP12 := Lib.hid hP12
  have HLS := Lib.hid hLs
  have HA := Lib.hid hA
  have HJJ := Lib.hid hjj
  have HTJ2 := Lib.hid htj2
  have hltB := h12.lt
  clear h12 hP12 hLs hA htj htj2 hR2 hjj
  have hwr : IntKind.i64.wrap (jj : Int) = (jj : Int) := IntWalk.i64_in _ (by omega)
  have hwr0 : (0 : Int) ≤ (jj : Int) := by omega
  go_still_tail 18, (by kernel_rfl)
  change wpList _ _ _ _ _ w12.drew
  go_wp2_with (fail)
  go_ret
  rw [HRV.out]
  have hvs4 := HVS2.out
  rw [hLL, ← HLS.out] at hvs4
  have h14 := H12.out.drew.spanSet hvs4 (st.spans.length * 9 + 4) (.int .i64 ((tokAt k jj).to_ : Int)) (st.spans ++ { s1 with node := (st.nodes.length : Int), to_ := ((tokAt k jj).to_ : Int) } :: ([] : List JSpan)) (by simp) (spansC_put _ _ _ _ _ _ (by decide) rfl)
  have hRD := RD.of h14.1 (HPA.out.trans ((PStep.of_below hb13).trans (hPN.trans (HP12.out.trans ((PStep.of_below (Below.drew (Below.refl _ _))).trans h14.2)))))
  refine ⟨rfl, _, hRD, ?_⟩
  rw [hs1.out]
  have hnl3 : s3.nodes.length ≤ 4096 := by rw [HND3.out, List.length_append]; have := HN.out; simp; omega
  refine ⟨?_, HND3.out, ?_, ?_, ?_, ?_, hnl3, ?_⟩
  ·show s3.err = 0
   rw [← hs3.out, ← hs2.out]; exact E1.out
  ·show st.spans ++ _ :: [] = _
   rw [HJ1.out]
  ·show leftA k s3.i = leftA k (st.i + 1)
   rw [HJJ.out, HJ1.out]
  ·show s3.i ≤ _
   rw [HJJ.out]; exact hjl
  ·show st.i < s3.i
   rw [HJJ.out, HJ1.out]; omega
  ·show (st.spans ++ _ :: []).length ≤ s3.nodes.length
   rw [HND3.out]; simp; omega
end Go.Proofs.YtbdnamcjhndpjaaGreatDoor
namespace Go.Proofs.YtbdnamcjhndpjaaGreatDoor
open Go.RowKit
theorem pvalue_step (f : Nat) (hL : RItsH false f) (hE : RItsH true f) : RValH (f + 1) := by
 intro w B k vn vs ncs lab st s d h hb hin hne
 by_cases hbad : (tokAt k st.i).kind = 0 ∨ ((tokAt k st.i).kind = 1 ∧ ¬ (tokAt k st.i).text = [91] ∧ ¬ (tokAt k st.i).text = [123])
 ·exact pval_bad f h hb hin hne hbad
 have h0 : (tokAt k st.i).kind ≠ 0 := fun e => hbad (.inl e)
 by_cases hn : 32 < d ∨ 4096 ≤ st.nodes.length
 ·by_cases h1 : (tokAt k st.i).kind = 1
  ·by_cases h91 : (tokAt k st.i).text = [91]
   ·exact pval_list_bad f h hb hin hne h1 h91 hn
   ·have h123 : (tokAt k st.i).text = [123] := by
     by_cases h2 : (tokAt k st.i).text = [123]
     ·exact h2
     ·exact absurd (.inr ⟨h1, h91, h2⟩) hbad
    exact pval_map_bad f h hb hin hne h1 h123 hn
  ·have hk : 2 ≤ (tokAt k st.i).kind := by omega
   cases hs : scalarV (tokAt k st.i) with
   | none => exact pval_sc_no f h hb hin hne hk hs
   | some nd =>
    have hs : scalarV (tokAt k st.i) = some ⟨nd.kind, nd.text, false, [], []⟩ := hs.trans (congrArg some (scalarV_leaf hs))
    exact pval_sc_bad f nd.kind nd.text h hb hin hne hk hs hn
 ·have hd : ¬ 32 < d := fun e => hn (.inl e)
  have hm : ¬ 4096 ≤ st.nodes.length := fun e => hn (.inr e)
  by_cases h1 : (tokAt k st.i).kind = 1
  ·by_cases h91 : (tokAt k st.i).text = [91]
   ·exact pval_list_ok f hL h hb hin hne h1 h91 hd hm
   ·have h123 : (tokAt k st.i).text = [123] := by
     by_cases h2 : (tokAt k st.i).text = [123]
     ·exact h2
     ·exact absurd (.inr ⟨h1, h91, h2⟩) hbad
    exact pval_map_ok f hE h hb hin hne h1 h123 hd hm
  ·have hk : 2 ≤ (tokAt k st.i).kind := by omega
   cases hs : scalarV (tokAt k st.i) with
   | none => exact pval_sc_no f h hb hin hne hk hs
   | some nd =>
    have hs : scalarV (tokAt k st.i) = some ⟨nd.kind, nd.text, false, [], []⟩ := hs.trans (congrArg some (scalarV_leaf hs))
    exact pval_sc_ok f nd.kind nd.text h hb hin hne hk hs hd hm
theorem pvalue_all (f : Nat) : ∀ g, g ≤ f → RValH g := by
 induction f with
 | zero =>
  intro g hg w B k vn vs ncs lab st s d h hb hin hne
  obtain rfl : g = 0 := by omega
  exact absurd (by rw [rvalV]) hne
 | succ f ih =>
  intro g hg
  by_cases e : g ≤ f
  ·exact ih g e
  ·obtain rfl : g = f + 1 := by omega
   exact pvalue_step f (plist_any f (fun g hg => ih g (by omega))) (pentries_any f (fun g hg => pentry_any g (ih g (by omega))))
theorem pvalue_any (f : Nat) : RValH f := pvalue_all f f (Nat.le_refl _)
end Go.Proofs.YtbdnamcjhndpjaaGreatDoor
namespace Go.Proofs.YtbdnamcjhndpjaaGreatDoor
open Go.RowKit
def KdOK (n : Nat) (t : JTok) : Prop := 1 ≤ t.kind ∧ (t.kind ≠ 1 → t.kind ≠ 2 → t.kind ≠ 4 → t.text.length ≤ n)
theorem tokV_kd {l : List Nat} (h : (tokV l).2 = 0) : 1 ≤ (tokV l).1.kind ∧ ((tokV l).1.kind ≠ 1 → (tokV l).1.kind ≠ 2 → (tokV l).1.kind ≠ 4 → (tokV l).1.text.length ≤ l.length) := by
 have htk : ∀ n, (l.take n).length ≤ l.length := fun n => by rw [List.length_take]; omega
 unfold tokV at h ⊢
 split
 ·exact ⟨by simp, fun h => absurd rfl h⟩
 ·rename_i h1
  rw [if_neg h1] at h
  split
  ·exact ⟨by simp, fun _ h => absurd rfl h⟩
  ·rename_i h2
   rw [if_neg h2] at h
   split
   ·rename_i h3
    rw [if_pos h3] at h
    unfold seqV at h ⊢
    split
    ·rename_i h4
     rw [if_pos h4] at h
     split
     ·rename_i h5
      rw [if_pos h5] at h
      simp at h
     ·exact ⟨by simp, fun _ _ _ => htk _⟩
    ·rename_i h4
     rw [if_neg h4] at h
     split
     ·exact ⟨by simp, fun _ _ h => absurd rfl h⟩
     ·rename_i h5
      rw [if_neg h5] at h
      simp at h
   ·rename_i h3
    rw [if_neg h3] at h
    simp at h
theorem scan_kd (n : Nat) : ∀ (f a : Nat) (l : List Nat) (ts : List JTok) (ns : List JNote), l.length ≤ n → (∀ t ∈ ts, KdOK n t) → ∀ t ∈ (scanG f a l ts ns).toks, KdOK n t := by
 intro f
 induction f with
 | zero => intro a l ts ns _ h; exact h
 | succ f ih =>
  intro a l ts ns hl h
  by_cases hne : l = []
  ·subst hne; rw [scanG_end]; exact h
  ·by_cases h1 : isBlank (l.getD 0 0) = true
   ·rw [scanG_blank hne h1]; exact ih _ _ _ _ (by rw [List.length_drop]; omega) h
   ·by_cases h2 : commV l < 0
    ·rw [scanG_open hne h1 h2]; simp
    ·by_cases h3 : 0 < commV l
     ·rw [scanG_note hne h1 h3]; exact ih _ _ _ _ (by rw [List.length_drop]; omega) h
     ·have h4 : commV l = 0 := by omega
      by_cases h5 : (tokV l).2 = 0
      ·rw [scanG_tok hne h1 h4 h5]
       have hk := tokV_kd h5
       refine ih _ _ _ _ (by rw [List.length_drop]; omega) (fun t ht => ?_)
       rcases List.mem_append.1 ht with h6 | h6
       ·exact h t h6
       ·obtain rfl := List.mem_singleton.1 h6
        exact ⟨hk.1, fun a b c => Nat.le_trans (hk.2 a b c) hl⟩
      ·rw [scanG_bad hne h1 h4 h5]; simp
theorem scanV_kd (s : List Nat) : ∀ t ∈ (scanV s).toks, KdOK s.length t := by
 unfold scanV
 by_cases hl : 65536 < s.length
 ·rw [if_pos hl]; simp
 ·rw [if_neg hl]
  cases checkV s with
  | some k => simp
  | none => exact scan_kd s.length s.length 0 s [] [] (Nat.le_refl _) (by simp)
theorem rv_fuel (en : Nat) (f : Nat) :
  (∀ l n0 s0 s d, 2 * l.length + 1 ≤ f → ∀ a, rvalV en f l n0 s0 s d ≠ .error (a, 0)) ∧ (∀ obj k d n1 s1 x, 2 * x.l.length + 2 ≤ f → ∀ a, ritemsV en f obj k d n1 s1 x ≠ .error (a, 0)) := by
 induction f with
 | zero => exact ⟨fun l n0 s0 s d h => by omega, fun obj k d n1 s1 x h => by omega⟩
 | succ f ih =>
  constructor
  ·intro l n0 s0 s d hf a h
   cases l with
   | nil => rw [rvalV] at h; cases h
   | cons t r =>
    rw [List.length_cons] at hf
    rw [rvalV] at h
    split at h
    ·cases h
    ·split at h
     ·cases h
     ·split at h
      ·cases h
      ·split at h
       ·cases hx : ritemsV en f (decide (t.text = [123])) s0 d (n0 + 1) (s0 + 1) ⟨r, [], [], [], [], []⟩ with
        | error e =>
         rw [hx] at h
         injection h with h
         rw [h] at hx
         exact ih.2 _ _ _ _ _ _ (by show 2 * r.length + 2 ≤ f; omega) a hx
        | ok x => rw [hx] at h; cases h
       ·split at h <;> cases h
  ·intro obj k d n1 s1 x hf a h
   rw [ritemsV] at h
   by_cases hcl : isV x.l (if obj = true then [125] else [93]) = true
   ·rw [if_pos hcl] at h; cases h
   ·rw [if_neg hcl] at h
    cases hc : rcommaV en x with
    | error e =>
     rw [hc] at h
     injection h with h
     subst h
     unfold rcommaV at hc
     split at hc
     ·cases hc
     ·split at hc
      ·cases hc
      ·injection hc with hc; injection hc with h1 h2; cases h2
    | ok y =>
     rw [hc] at h
     simp only at h
     have hy : y.l.length ≤ x.l.length := by
      unfold rcommaV at hc
      split at hc
      ·injection hc with hc; subst hc; exact Nat.le_refl _
      ·split at hc
       ·injection hc with hc; subst hc; show (x.l.drop 1).length ≤ _; rw [List.length_drop]; omega
       ·cases hc
     cases hz : (if obj = true then rkeyV en d n1 y ⟨0, k, x.items.length, 0, 0, 0, 0, false, false⟩ else .ok (y, ⟨0, k, x.items.length, 0, 0, 0, 0, false, false⟩)) with
     | error e =>
      rw [hz] at h
      injection h with h
      subst h
      cases obj with
      | false => rw [if_neg (by decide)] at hz; cases hz
      | true =>
       rw [if_pos rfl] at hz
       unfold rkeyV at hz
       split at hz
       ·injection hz with hz; injection hz with h1 h2; cases h2
       ·(repeat' split at hz) <;> first | (cases hz; done) | (injection hz with hz; injection hz with h1 h2; cases h2)
     | ok z =>
      rw [hz] at h
      obtain ⟨z, s⟩ := z
      simp only at h
      have hz2 : z.l.length ≤ y.l.length := by
       cases obj with
       | false => rw [if_neg (by decide)] at hz; injection hz with hz; injection hz with h1 h2; subst h1; exact Nat.le_refl _
       | true =>
        rw [if_pos rfl] at hz
        unfold rkeyV at hz
        split at hz
        ·cases hz
        ·rename_i t r hyl
         (repeat' split at hz) <;> first | (cases hz; done) | skip
         injection hz with hz
         injection hz with h1 h2
         subst h1
         show (r.drop 1).length ≤ _
         rw [hyl, List.length_drop, List.length_cons]; omega
      cases hv : rvalV en f z.l (n1 + z.dn.length) (s1 + z.ds.length) s (d + 1) with
      | error e =>
       rw [hv] at h
       injection h with h
       rw [h] at hv
       exact ih.1 _ _ _ _ _ (by omega) a hv
      | ok p =>
       rw [hv] at h
       obtain ⟨l, dn, ds⟩ := p
       have h3 := (rv_len en f).1 _ _ _ _ _ _ hv
       simp only at h3
       exact ih.2 _ _ _ _ _ _ (by show 2 * l.length + 2 ≤ f; omega) a h
end Go.Proofs.YtbdnamcjhndpjaaGreatDoor
