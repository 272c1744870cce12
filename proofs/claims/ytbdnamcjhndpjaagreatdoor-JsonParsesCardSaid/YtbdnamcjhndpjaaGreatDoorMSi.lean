/- The walk of the reference's value: a scalar whose node fails. -/
import Derived.Test.YtbdnamcjhndpjaaGreatDoorMSd
import Derived.Deep.RegionHeld3
import Derived.Deep.DeepCutAuto
import Derived.StillTailTactics
import Derived.IntWalk
set_option linter.unusedVariables false
set_option linter.unusedSimpArgs false
set_option linter.defProp false
set_option linter.constructorNameAsVariable false
namespace Go.Proofs.YtbdnamcjhndpjaaGreatDoor
open Go.RowKit
set_option maxRecDepth 100000 in
set_option maxHeartbeats 8000000 in
theorem pval_sc_bad (f : Nat) (kd0 : Int) (tx0 : List Nat) {w : World} {B : Nat} {k : RK} {vn vs : Value} {ncs : List Value} {lab : Nat → Option Nat} {st : RSt} {s : JSpan} {d : Nat} (h : RM w B k vn vs ncs lab st) (hb : RB2 k) (hin : RIn k st d) (hne : rvalV k.s.length (f + 1) (leftA k st.i) st.nodes.length st.spans.length s d ≠ .error (0, 0))
  (hk : 2 ≤ (tokAt k st.i).kind) (hsc : scalarV (tokAt k st.i) = some ⟨kd0, tx0, false, [], []⟩) (hbad : 32 < d ∨ 4096 ≤ st.nodes.length) :
  Calls Tryz.prog 13 #[.pointer (some ⟨B, 0, none⟩), .agg (spanC s).toArray, .int .i64 (d : Int)] w (RValR w B k (RF B vn vs lab) st d (rvalV k.s.length (f + 1) (leftA k st.i) st.nodes.length st.spans.length s d)) := by
 obtain ⟨R, hR⟩ : ∃ R, rvalV k.s.length (f + 1) (leftA k st.i) st.nodes.length st.spans.length s d = R := ⟨_, rfl⟩
 rw [hR] at hne ⊢
 have HNE := Lib.hid hne
 have HB := Lib.hid hb
 have HIN := Lib.hid hin
 have hbt := hb.tl
 have hii := hin.i
 have hin1 := hin.nod
 have hin2 := hin.spn
 have hin3 := hin.d
 have DT := ptoken_h h hb.toRB (by omega)
 have hty := (tokAt_by hb.toRB st.i).1
 have htk0 : (tokAt k st.i).kind ≠ 0 := by omega
 have htk1 : (tokAt k st.i).kind ≠ 1 := by omega
 have h91 : isV (leftA k st.i) [91] = false := by rw [tokAt_is]; simp [htk1]
 have h123 : isV (leftA k st.i) [123] = false := by rw [tokAt_is]; simp [htk1]
 have hk2 : ¬ ((tokAt k st.i).kind : Int) < 2 := by omega
 have hlt1 := (leftA_cons htk0).2
 have htm : tokAt k st.i ∈ k.ts := by
  have := (leftA_head hlt1).1
  exact List.mem_of_getElem? this
 have DS := rscal_any (tokAt k st.i) (hb.ok _ htm) (hb.nl _ htm htk1)
 rw [hsc] at DS
 have H91 := Lib.hid h91
 have H123 := Lib.hid h123
 have HSC := Lib.hid hsc
 obtain ⟨q, hq, hRq, hnq⟩ := rv_node_bad f (s := s) hin.err htk0 (fun h => htk1 h.1) hbad
 rw [hR] at hRq
 have HRV := Lib.hid hRq
 have HQ := Lib.hid hq
 have HNQ := Lib.hid hnq
 obtain ⟨t, ht⟩ : ∃ t, Hid (tokAt k st.i = t) := ⟨_, Lib.hid rfl⟩
 rw [ht.out] at DT hty hk2
 have HTY := Lib.hid hty
 obtain ⟨s1, hs1⟩ : ∃ s1, Hid (valS k st s = s1) := ⟨_, Lib.hid rfl⟩
 obtain ⟨F, hF⟩ : ∃ F, Hid (RF B vn vs lab = F) := ⟨_, Lib.hid rfl⟩
 have hrl : Hid (∀ g, F g → g < w.heap.size) := by show ∀ g, _; rw [← hF.out]; exact h.rfLt
 obtain ⟨W, hWe, HP, HBd, hlow⟩ := val_box w s
 have HWE := Lib.hid hWe
 rw [hF.out]
 show Calls _ _ #[.pointer (some ⟨B, 0, none⟩), .agg #[.int .i64 s.node, .int .i64 s.parent, .int .i64 s.entry, .int .i64 s.from_, .int .i64 s.to_, .int .i64 s.kf, .int .i64 s.kt, .bool s.alias_, .bool s.whole], .int .i64 (d : Int)] w _
 clear hne hR hb hin hty hWe hk hsc htk0 htk1 h91 h123 htm hRq hbad hq hnq
 go_enter Tryz.func13, Tryz.ntmps13
 go_upto_region 1 with (fail)
 have hW := h.below HBd
 rw [← HWE.out]
 clear HWE
 go_upto_region 2 with (first | (go_at_call 14; ((with_reducible refine (DT.out _ HBd).mono ?_)); rintro e w5 ⟨rfl, hb5⟩; have hX0 := Lib.hid (Arr.new w5 62 zTok)) | ((with_reducible show wpList _ _ _ (Oper.mk none (Op.store 62 (Operand.tmp 7) (Operand.tmp 13)) _ _ _ _ :: _) _ _); go_loud (refine wpList_sr rfl rfl 62 (.tmp 7) (.tmp 13) rfl (w5.heap.size) [.int .i64 (t.kind : Int), .int .i64 (t.from_ : Int), .int .i64 (t.to_ : Int), .string (mks t.text)] rfl rfl 62 _ hX0.out _ Tryz.sz62 (by first | rfl | simp) (by first | rfl | simp) (by first | rfl | simp [Value.oneCell']) ?_; intro w6 hr6 hg6 hz6)))
 have hb56 : Below W.heap.size W w6 := ((hb5.trans (((Below.refl w5.heap.size w5).alloc (Nat.le_refl _) (.cells zTok.toArray 62)).mono hb5.size)).grown hg6 (by have := hb5.size; simp; omega) (fun k e => by have := Option.some.inj e; have := hb5.size; omega))
 have hs5 := hb5.size
 have P6 : Arr w6 w.heap.size 38 (spanC s) := HP.out.keep hb56
 have x61 := hr6.out.cell' (i := 1) rfl
 have p63 := P6.cell' (i := 3) rfl
 have p68 := P6.cell' (i := 8) rfl
 have f63 := P6.frozen 3
 have f68 := P6.frozen 8
 obtain ⟨w7, hw7, P7, X7, hb07⟩ := val_two (fr := (t.from_ : Int)) P6 hr6.out (by omega) (HBd.trans (hb56.mono HBd.size))
 have h2 : ((spanC s).set 3 (.int .i64 (t.from_ : Int))).set 8 (.bool true) = spanC s1 := by rw [← hs1.out]; unfold valS; rw [ht.out]; rfl
 rw [h2] at P7
 have HW7 := Lib.hid hw7
 have h7 := h.below hb07
 have HP7 := Lib.hid P7
 have HX7 := Lib.hid X7
 have hXF : Hid (¬ F w5.heap.size) := by show ¬ _; intro hf; have := hrl.out _ hf; omega
 clear P7 X7 P6 DT h2 hw7
 go_upto_region 3 with (fail)
 rw [← HW7.out]
 clear HW7
 clear x61 p63 p68 f63 f68 hb56 hW h HBd
 obtain ⟨As, cs, hvs, _, _⟩ := own_slice h7.spn
 have c6 : w7.cell? ⟨B, 6, none⟩ = some (.slice As st.spans.length cs) := by have := h7.c6; rw [← hvs]; exact this
 clear hr6 hg6 hz6 hX0 hs5
 go_upto_region 4 with (fail)
 obtain ⟨st1, hst1⟩ : ∃ st1, Hid (valS1 k st s = st1) := ⟨_, Lib.hid rfl⟩
 go_cut [] (fun wx => ∃ vs', RM wx B k vn vs' ncs lab st1 ∧ PStep w7 wx F (RF B vn vs' lab))
 case first =>
  have hlt7 := h7.lt
  have d6 : (w7.alloc (.cells #[.int .i64 s1.node, .int .i64 s1.parent, .int .i64 s1.entry, .int .i64 s1.from_, .int .i64 s1.to_, .int .i64 s1.kf, .int .i64 s1.kt, .bool s1.alias_, .bool s1.whole] 38)).cell? ⟨B, 6, none⟩ = some (.slice As st.spans.length cs) := by
   have := (h7.par.alloc (.cells #[.int .i64 s1.node, .int .i64 s1.parent, .int .i64 s1.entry, .int .i64 s1.from_, .int .i64 s1.to_, .int .i64 s1.kf, .int .i64 s1.kt, .bool s1.alias_, .bool s1.whole] 38)).cell' (i := 6) rfl
   rw [← hvs]; exact this
  have x0 := HP7.out.cell' (i := 0) rfl
  have x1 := HP7.out.cell' (i := 1) rfl
  have x2 := HP7.out.cell' (i := 2) rfl
  have x3 := HP7.out.cell' (i := 3) rfl
  have x4 := HP7.out.cell' (i := 4) rfl
  have x5 := HP7.out.cell' (i := 5) rfl
  have x6 := HP7.out.cell' (i := 6) rfl
  have x7 := HP7.out.cell' (i := 7) rfl
  have x8 := HP7.out.cell' (i := 8) rfl
  have hownd : w7.drew.ownsRow B 38 9 (.slice As st.spans.length cs) st.spans.length (spansC st.spans) := by have := h7.spn; rw [hvs] at this; exact this
  go_region_law (refine step_apS rfl (.tmp 29) (.tmp 31) 26 rfl B 38 _ 9 _ Tryz.underlying26 Tryz.infoS38 rfl (by decide) _ st.spans.length (spansC st.spans) rfl (hownd.alloc _) ⟨w7.heap.size, 0, none⟩ _ [.int .i64 s1.node, .int .i64 s1.parent, .int .i64 s1.entry, .int .i64 s1.from_, .int .i64 s1.to_, .int .i64 s1.kf, .int .i64 s1.kt, .bool s1.alias_, .bool s1.whole] rfl rfl (cells_new _ _ _) rfl (by unfold maxLen; omega) (by omega) (by simp; omega) ?_; intro v3 w3 hown3 hgr3 hat3; obtain ⟨A3, c3, rfl, hc3, hm3⟩ := own_slice hown3; rw [← hvs] at hgr3 hat3; obtain ⟨P3, h8, hP8⟩ := RM.addSpan h7 s1 _ hown3 hgr3 hat3; have p6 := P3.cell' (i := 6) rfl; have q6 := P3.frozen 6; clear hgr3 hat3 hown3)
  all_goals
   have h9 : RM (w3.setCell ⟨B, 6, none⟩ (.slice A3 (st.spans.length + 1) c3)) B k vn (.slice A3 (st.spans.length + 1) c3) ncs lab st1 := by rw [← hst1.out]; unfold valS1; rw [hs1.out]; exact h8
   have hP9 := hP8
   rw [hF.out] at hP9
   have H9 := Lib.hid h9
   have HP9 := Lib.hid hP9
   clear h8 hP8 h9 hP9 p6 q6 P3 c6 d6 x0 x1 x2 x3 x4 x5 x6 x7 x8
   go_wp2_with (fail)
   go_meet
   exact ⟨_, H9.out, HP9.out⟩
 case rest =>
  obtain ⟨vs1, h8, hP8⟩ := hcut
  obtain ⟨w8, hw8⟩ : ∃ x, x = wc := ⟨_, rfl⟩
  subst hw8
  have X8 := hP8.arr HX7.out hXF.out
  have HX8 := Lib.hid X8
  have HPA : Hid (PStep w w8 F (RF B vn vs1 lab)) := (PStep.of_below hb07).trans hP8
  have i1 : st1.i = st.i := by rw [← hst1.out]; rfl
  have n1 : st1.nodes = st.nodes := by rw [← hst1.out]; rfl
  have e1 : st1.err = 0 := by rw [← hst1.out]; exact HIN.out.err
  have nl1 : st1.nodes.length = st.nodes.length := by rw [n1]
  have hiA : st1.i ≤ 10000000 := by omega
  have I1 := Lib.hid i1
  have N1 := Lib.hid n1
  have E1 := Lib.hid e1
  have NL1 := Lib.hid nl1
  have hXB1 : w5.heap.size < w8.heap.size := HX8.out.lt
  have hXN : Hid (¬ RF B vn vs1 lab w5.heap.size) := hP8.out HX7.out.lt hXF.out
  clear h7 X8 c6 hvs hP8 i1 n1 e1 nl1 hb07 HP7 HX7 hXF HP
  have D91 := pis_1 h8 HB.out.toRB hiA 91 (by omega) ⟨#[91]⟩ rfl
  rw [I1.out, H91.out] at D91
  have D123 : Hid (∀ w', Below w8.heap.size w8 w' → Hid (Calls Tryz.prog 29 #[.pointer (some ⟨B, 0, none⟩), .string ⟨#[123]⟩] w' (fun e w'' => e = .returned (.bool (isV (leftA k st.i) [123])) ∧ Below w'.heap.size w' w''))) := by
   show ∀ w', _
   intro w' hb'
   have := pis_1 (h8.below hb') HB.out.toRB hiA 123 (by omega) ⟨#[123]⟩ rfl
   rw [I1.out] at this
   exact this
  rw [H123.out] at D123
  have D7 : Hid (∀ w', Below w8.heap.size w8 w' → Calls Tryz.prog 30 #[.pointer (some ⟨B, 0, none⟩), .agg #[.int .i64 kd0, .string (mks tx0), .bool false, .slice none 0 0, .slice none 0 0], .int .i64 (d : Int)] w' (NodeR w' B k (RF B vn vs1 lab) vs1 lab st.nodes.length (nodeS k st1 d ⟨kd0, tx0, false, [], []⟩))) := by
   show ∀ w', _
   intro w' hb'
   have := pnode_any (h8.below hb') HB.out.toRB hiA (by have := NL1.out; omega) (kd0) tx0 d (by omega)
   rw [NL1.out] at this
   exact this
  have DS2 : Hid (∀ w', Calls Tryz.prog 33 #[.agg #[.int .i64 (t.kind : Int), .int .i64 (t.from_ : Int), .int .i64 (t.to_ : Int), .string (mks t.text)]] w' (fun e w'' => Below w'.heap.size w' w'' ∧ e = .returned (.tuple #[.agg #[.int .i64 kd0, .string (mks tx0), .bool false, .slice none 0 0, .slice none 0 0], .int .i64 0]))) := by
   show ∀ w', _
   intro w'
   have := DS w'
   rw [ht.out] at this
   exact this
  clear DS
  go_upto_region 7 with (first | (go_at_call 29; ((with_reducible refine D91.out.mono ?_)); rintro e w9 ⟨rfl, hb9⟩; have h9 := h8.below hb9) | (go_at_call 29; ((with_reducible refine (D123.out _ hb9).out.mono ?_)); rintro e w10 ⟨rfl, hb10⟩; have h10 := h9.below hb10; have X10 := (HX8.out.keep hb9).keep hb10; have x100 := X10.cell' (i := 0) rfl; have x101 := X10.cell' (i := 1) rfl; have x102 := X10.cell' (i := 2) rfl; have x103 := X10.cell' (i := 3) rfl) | (go_at_call 33; ((with_reducible refine (DS2.out _).mono ?_)); rintro e w12 ⟨hb12, rfl⟩; have hN0 := Lib.hid (Arr.new w12 41 zNode)) | ((with_reducible show wpList _ _ _ (Oper.mk none (Op.store 41 (Operand.tmp 10) (Operand.tmp 39)) _ _ _ _ :: _) _ _); go_loud (refine wpList_sr rfl rfl 41 (.tmp 10) (.tmp 39) rfl (w12.heap.size) [.int .i64 kd0, .string (mks tx0), .bool false, .slice none 0 0, .slice none 0 0] rfl rfl 41 _ hN0.out _ Tryz.sz41 (by first | rfl | simp) (by first | rfl | simp) (by first | rfl | simp [Value.oneCell']) ?_; intro w13 hr13 hg13 hz13)))
  have hb12' : Below w8.heap.size w8 w12 := (hb9.trans (hb10.mono hb9.size)).trans (hb12.mono (Nat.le_trans hb9.size hb10.size))
  have hb13 : Below w8.heap.size w8 w13 := ((hb12'.trans (((Below.refl w12.heap.size w12).alloc (Nat.le_refl _) (.cells zNode.toArray 41)).mono hb12'.size)).grown hg13 (by have := hb12'.size; simp; omega) (fun k e => by have := Option.some.inj e; have := hb12'.size; omega))
  have y0 := hr13.out.cell' (i := 0) rfl
  have y1 := hr13.out.cell' (i := 1) rfl
  have y2 := hr13.out.cell' (i := 2) rfl
  have y3 := hr13.out.cell' (i := 3) rfl
  have y4 := hr13.out.cell' (i := 4) rfl
  clear hN0 hg13 hz13 X10 h9 h10
  have hN1 := HNQ.out ⟨kd0, tx0, false, [], []⟩
  rw [hst1.out] at hN1
  obtain ⟨s2, hs2⟩ : ∃ s2, Hid (nodeS k st1 d ⟨kd0, tx0, false, [], []⟩ = s2) := ⟨_, Lib.hid rfl⟩
  rw [hs2.out] at D7 hN1
  have HN1 := Lib.hid hN1
  have i2 : s2.i = st.i := by rw [hN1]; exact I1.out
  have I2 := Lib.hid i2
  have hqn : ((q : Int) == 0) = false := by have := HQ.out; simp; omega
  clear hN1 i2
  go_upto_region 8 with (go_at_call 30; ((with_reducible refine (D7.out _ hb13).mono ?_)); rintro e w14 ⟨vn2, ncs2, rfl, h14, hP14⟩)
  have k15 : w14.cell? ⟨B, 1, none⟩ = some (.int .i64 (st.i : Int)) := by have := h14.c1; rw [show (parC k _ _ s2)[1] = Value.int .i64 (s2.i : Int) from rfl, I2.out] at this; exact this
  have f15 := h14.f 1
  have h16 := h14.setI (st.i + 1)
  rw [show ((st.i + 1 : Nat) : Int) = (st.i : Int) + 1 by omega] at h16
  have H16 := Lib.hid h16
  have c816 : (w14.setCell ⟨B, 1, none⟩ (.int .i64 ((st.i : Int) + 1))).cell? ⟨B, 8, none⟩ = some (.int .i64 (q : Int)) := by have := h16.c8; rw [HN1.out] at this; exact this
  clear h16
  go_wp2_with (fail)
  go_ret
  rw [HRV.out]
  refine ⟨st.nodes.length, _, rfl, RD.of H16.out (HPA.out.trans ((PStep.of_below hb13).trans (hP14.trans (pstep_set (.inl rfl) 1 _)))), ?_⟩
  rw [HN1.out]
  exact val_fl HIN.out HQ.out rfl rfl (D := [_]) (by simp) rfl (by rw [← hst1.out]; rfl) (by show st.i + 1 ≤ _; omega)
end Go.Proofs.YtbdnamcjhndpjaaGreatDoor
namespace Go.Proofs.YtbdnamcjhndpjaaGreatDoor
open Go.RowKit
set_option maxRecDepth 100000 in
set_option maxHeartbeats 8000000 in
theorem pval_sc_no (f : Nat) {w : World} {B : Nat} {k : RK} {vn vs : Value} {ncs : List Value} {lab : Nat → Option Nat} {st : RSt} {s : JSpan} {d : Nat} (h : RM w B k vn vs ncs lab st) (hb : RB2 k) (hin : RIn k st d) (hne : rvalV k.s.length (f + 1) (leftA k st.i) st.nodes.length st.spans.length s d ≠ .error (0, 0))
  (hk : 2 ≤ (tokAt k st.i).kind) (hsc : scalarV (tokAt k st.i) = none) :
  Calls Tryz.prog 13 #[.pointer (some ⟨B, 0, none⟩), .agg (spanC s).toArray, .int .i64 (d : Int)] w (RValR w B k (RF B vn vs lab) st d (rvalV k.s.length (f + 1) (leftA k st.i) st.nodes.length st.spans.length s d)) := by
 obtain ⟨R, hR⟩ : ∃ R, rvalV k.s.length (f + 1) (leftA k st.i) st.nodes.length st.spans.length s d = R := ⟨_, rfl⟩
 rw [hR] at hne ⊢
 have HNE := Lib.hid hne
 have HB := Lib.hid hb
 have HIN := Lib.hid hin
 have hbt := hb.tl
 have hii := hin.i
 have hin1 := hin.nod
 have hin2 := hin.spn
 have hin3 := hin.d
 have DT := ptoken_h h hb.toRB (by omega)
 have hty := (tokAt_by hb.toRB st.i).1
 have htk0 : (tokAt k st.i).kind ≠ 0 := by omega
 have htk1 : (tokAt k st.i).kind ≠ 1 := by omega
 have h91 : isV (leftA k st.i) [91] = false := by rw [tokAt_is]; simp [htk1]
 have h123 : isV (leftA k st.i) [123] = false := by rw [tokAt_is]; simp [htk1]
 have hk2 : ¬ ((tokAt k st.i).kind : Int) < 2 := by omega
 have hlt1 := (leftA_cons htk0).2
 have htm : tokAt k st.i ∈ k.ts := by
  have := (leftA_head hlt1).1
  exact List.mem_of_getElem? this
 have DS := rscal_any (tokAt k st.i) (hb.ok _ htm) (hb.nl _ htm htk1)
 rw [hsc] at DS
 have H91 := Lib.hid h91
 have H123 := Lib.hid h123
 have HSC := Lib.hid hsc
 obtain ⟨q, hq, hRq, hnq⟩ := rv_sc_bad f (s := s) hin.err htk0 htk1 hsc ⟨0, [], false, [], []⟩
 rw [hR] at hRq
 have HRV := Lib.hid hRq
 have HQ := Lib.hid hq
 have HNQ := Lib.hid hnq
 obtain ⟨t, ht⟩ : ∃ t, Hid (tokAt k st.i = t) := ⟨_, Lib.hid rfl⟩
 rw [ht.out] at DT hty hk2
 have HTY := Lib.hid hty
 obtain ⟨s1, hs1⟩ : ∃ s1, Hid (valS k st s = s1) := ⟨_, Lib.hid rfl⟩
 obtain ⟨F, hF⟩ : ∃ F, Hid (RF B vn vs lab = F) := ⟨_, Lib.hid rfl⟩
 have hrl : Hid (∀ g, F g → g < w.heap.size) := by show ∀ g, _; rw [← hF.out]; exact h.rfLt
 obtain ⟨W, hWe, HP, HBd, hlow⟩ := val_box w s
 have HWE := Lib.hid hWe
 rw [hF.out]
 show Calls _ _ #[.pointer (some ⟨B, 0, none⟩), .agg #[.int .i64 s.node, .int .i64 s.parent, .int .i64 s.entry, .int .i64 s.from_, .int .i64 s.to_, .int .i64 s.kf, .int .i64 s.kt, .bool s.alias_, .bool s.whole], .int .i64 (d : Int)] w _
 clear hne hR hb hin hty hWe hk hsc htk0 htk1 h91 h123 htm hRq hq hnq
 go_enter Tryz.func13, Tryz.ntmps13
 go_upto_region 1 with (fail)
 have hW := h.below HBd
 rw [← HWE.out]
 clear HWE
 go_upto_region 2 with (first | (go_at_call 14; ((with_reducible refine (DT.out _ HBd).mono ?_)); rintro e w5 ⟨rfl, hb5⟩; have hX0 := Lib.hid (Arr.new w5 62 zTok)) | ((with_reducible show wpList _ _ _ (Oper.mk none (Op.store 62 (Operand.tmp 7) (Operand.tmp 13)) _ _ _ _ :: _) _ _); go_loud (refine wpList_sr rfl rfl 62 (.tmp 7) (.tmp 13) rfl (w5.heap.size) [.int .i64 (t.kind : Int), .int .i64 (t.from_ : Int), .int .i64 (t.to_ : Int), .string (mks t.text)] rfl rfl 62 _ hX0.out _ Tryz.sz62 (by first | rfl | simp) (by first | rfl | simp) (by first | rfl | simp [Value.oneCell']) ?_; intro w6 hr6 hg6 hz6)))
 have hb56 : Below W.heap.size W w6 := ((hb5.trans (((Below.refl w5.heap.size w5).alloc (Nat.le_refl _) (.cells zTok.toArray 62)).mono hb5.size)).grown hg6 (by have := hb5.size; simp; omega) (fun k e => by have := Option.some.inj e; have := hb5.size; omega))
 have hs5 := hb5.size
 have P6 : Arr w6 w.heap.size 38 (spanC s) := HP.out.keep hb56
 have x61 := hr6.out.cell' (i := 1) rfl
 have p63 := P6.cell' (i := 3) rfl
 have p68 := P6.cell' (i := 8) rfl
 have f63 := P6.frozen 3
 have f68 := P6.frozen 8
 obtain ⟨w7, hw7, P7, X7, hb07⟩ := val_two (fr := (t.from_ : Int)) P6 hr6.out (by omega) (HBd.trans (hb56.mono HBd.size))
 have h2 : ((spanC s).set 3 (.int .i64 (t.from_ : Int))).set 8 (.bool true) = spanC s1 := by rw [← hs1.out]; unfold valS; rw [ht.out]; rfl
 rw [h2] at P7
 have HW7 := Lib.hid hw7
 have h7 := h.below hb07
 have HP7 := Lib.hid P7
 have HX7 := Lib.hid X7
 have hXF : Hid (¬ F w5.heap.size) := by show ¬ _; intro hf; have := hrl.out _ hf; omega
 clear P7 X7 P6 DT h2 hw7
 go_upto_region 3 with (fail)
 rw [← HW7.out]
 clear HW7
 clear x61 p63 p68 f63 f68 hb56 hW h HBd
 obtain ⟨As, cs, hvs, _, _⟩ := own_slice h7.spn
 have c6 : w7.cell? ⟨B, 6, none⟩ = some (.slice As st.spans.length cs) := by have := h7.c6; rw [← hvs]; exact this
 clear hr6 hg6 hz6 hX0 hs5
 go_upto_region 4 with (fail)
 obtain ⟨st1, hst1⟩ : ∃ st1, Hid (valS1 k st s = st1) := ⟨_, Lib.hid rfl⟩
 go_cut [] (fun wx => ∃ vs', RM wx B k vn vs' ncs lab st1 ∧ PStep w7 wx F (RF B vn vs' lab))
 case first =>
  have hlt7 := h7.lt
  have d6 : (w7.alloc (.cells #[.int .i64 s1.node, .int .i64 s1.parent, .int .i64 s1.entry, .int .i64 s1.from_, .int .i64 s1.to_, .int .i64 s1.kf, .int .i64 s1.kt, .bool s1.alias_, .bool s1.whole] 38)).cell? ⟨B, 6, none⟩ = some (.slice As st.spans.length cs) := by
   have := (h7.par.alloc (.cells #[.int .i64 s1.node, .int .i64 s1.parent, .int .i64 s1.entry, .int .i64 s1.from_, .int .i64 s1.to_, .int .i64 s1.kf, .int .i64 s1.kt, .bool s1.alias_, .bool s1.whole] 38)).cell' (i := 6) rfl
   rw [← hvs]; exact this
  have x0 := HP7.out.cell' (i := 0) rfl
  have x1 := HP7.out.cell' (i := 1) rfl
  have x2 := HP7.out.cell' (i := 2) rfl
  have x3 := HP7.out.cell' (i := 3) rfl
  have x4 := HP7.out.cell' (i := 4) rfl
  have x5 := HP7.out.cell' (i := 5) rfl
  have x6 := HP7.out.cell' (i := 6) rfl
  have x7 := HP7.out.cell' (i := 7) rfl
  have x8 := HP7.out.cell' (i := 8) rfl
  have hownd : w7.drew.ownsRow B 38 9 (.slice As st.spans.length cs) st.spans.length (spansC st.spans) := by have := h7.spn; rw [hvs] at this; exact this
  go_region_law (refine step_apS rfl (.tmp 29) (.tmp 31) 26 rfl B 38 _ 9 _ Tryz.underlying26 Tryz.infoS38 rfl (by decide) _ st.spans.length (spansC st.spans) rfl (hownd.alloc _) ⟨w7.heap.size, 0, none⟩ _ [.int .i64 s1.node, .int .i64 s1.parent, .int .i64 s1.entry, .int .i64 s1.from_, .int .i64 s1.to_, .int .i64 s1.kf, .int .i64 s1.kt, .bool s1.alias_, .bool s1.whole] rfl rfl (cells_new _ _ _) rfl (by unfold maxLen; omega) (by omega) (by simp; omega) ?_; intro v3 w3 hown3 hgr3 hat3; obtain ⟨A3, c3, rfl, hc3, hm3⟩ := own_slice hown3; rw [← hvs] at hgr3 hat3; obtain ⟨P3, h8, hP8⟩ := RM.addSpan h7 s1 _ hown3 hgr3 hat3; have p6 := P3.cell' (i := 6) rfl; have q6 := P3.frozen 6; clear hgr3 hat3 hown3)
  all_goals
   have h9 : RM (w3.setCell ⟨B, 6, none⟩ (.slice A3 (st.spans.length + 1) c3)) B k vn (.slice A3 (st.spans.length + 1) c3) ncs lab st1 := by rw [← hst1.out]; unfold valS1; rw [hs1.out]; exact h8
   have hP9 := hP8
   rw [hF.out] at hP9
   have H9 := Lib.hid h9
   have HP9 := Lib.hid hP9
   clear h8 hP8 h9 hP9 p6 q6 P3 c6 d6 x0 x1 x2 x3 x4 x5 x6 x7 x8
   go_wp2_with (fail)
   go_meet
   exact ⟨_, H9.out, HP9.out⟩
 case rest =>
  obtain ⟨vs1, h8, hP8⟩ := hcut
  obtain ⟨w8, hw8⟩ : ∃ x, x = wc := ⟨_, rfl⟩
  subst hw8
  have X8 := hP8.arr HX7.out hXF.out
  have HX8 := Lib.hid X8
  have HPA : Hid (PStep w w8 F (RF B vn vs1 lab)) := (PStep.of_below hb07).trans hP8
  have i1 : st1.i = st.i := by rw [← hst1.out]; rfl
  have n1 : st1.nodes = st.nodes := by rw [← hst1.out]; rfl
  have e1 : st1.err = 0 := by rw [← hst1.out]; exact HIN.out.err
  have nl1 : st1.nodes.length = st.nodes.length := by rw [n1]
  have hiA : st1.i ≤ 10000000 := by omega
  have I1 := Lib.hid i1
  have N1 := Lib.hid n1
  have E1 := Lib.hid e1
  have NL1 := Lib.hid nl1
  have hXB1 : w5.heap.size < w8.heap.size := HX8.out.lt
  have hXN : Hid (¬ RF B vn vs1 lab w5.heap.size) := hP8.out HX7.out.lt hXF.out
  clear h7 X8 c6 hvs hP8 i1 n1 e1 nl1 hb07 HP7 HX7 hXF HP
  have D91 := pis_1 h8 HB.out.toRB hiA 91 (by omega) ⟨#[91]⟩ rfl
  rw [I1.out, H91.out] at D91
  have D123 : Hid (∀ w', Below w8.heap.size w8 w' → Hid (Calls Tryz.prog 29 #[.pointer (some ⟨B, 0, none⟩), .string ⟨#[123]⟩] w' (fun e w'' => e = .returned (.bool (isV (leftA k st.i) [123])) ∧ Below w'.heap.size w' w''))) := by
   show ∀ w', _
   intro w' hb'
   have := pis_1 (h8.below hb') HB.out.toRB hiA 123 (by omega) ⟨#[123]⟩ rfl
   rw [I1.out] at this
   exact this
  rw [H123.out] at D123
  have D7 : Hid (∀ w', Below w8.heap.size w8 w' → Calls Tryz.prog 30 #[.pointer (some ⟨B, 0, none⟩), .agg #[.int .i64 0, .string ⟨#[]⟩, .bool false, .slice none 0 0, .slice none 0 0], .int .i64 (d : Int)] w' (NodeR w' B k (RF B vn vs1 lab) vs1 lab st.nodes.length (nodeS k st1 d ⟨0, [], false, [], []⟩))) := by
   show ∀ w', _
   intro w' hb'
   have := pnode_any (h8.below hb') HB.out.toRB hiA (by have := NL1.out; omega) (0) [] d (by omega)
   rw [NL1.out] at this
   exact this
  have DS2 : Hid (∀ w', Calls Tryz.prog 33 #[.agg #[.int .i64 (t.kind : Int), .int .i64 (t.from_ : Int), .int .i64 (t.to_ : Int), .string (mks t.text)]] w' (fun e w'' => Below w'.heap.size w' w'' ∧ e = .returned (.tuple #[.agg #[.int .i64 0, .string ⟨#[]⟩, .bool false, .slice none 0 0, .slice none 0 0], .int .i64 12]))) := by
   show ∀ w', _
   intro w'
   have := DS w'
   rw [ht.out] at this
   exact this
  clear DS
  go_upto_region 7 with (first | (go_at_call 29; ((with_reducible refine D91.out.mono ?_)); rintro e w9 ⟨rfl, hb9⟩; have h9 := h8.below hb9) | (go_at_call 29; ((with_reducible refine (D123.out _ hb9).out.mono ?_)); rintro e w10 ⟨rfl, hb10⟩; have h10 := h9.below hb10; have X10 := (HX8.out.keep hb9).keep hb10; have x100 := X10.cell' (i := 0) rfl; have x101 := X10.cell' (i := 1) rfl; have x102 := X10.cell' (i := 2) rfl; have x103 := X10.cell' (i := 3) rfl) | (go_at_call 33; ((with_reducible refine (DS2.out _).mono ?_)); rintro e w12 ⟨hb12, rfl⟩; have hN0 := Lib.hid (Arr.new w12 41 zNode)) | ((with_reducible show wpList _ _ _ (Oper.mk none (Op.store 41 (Operand.tmp 10) (Operand.tmp 39)) _ _ _ _ :: _) _ _); go_loud (refine wpList_sr rfl rfl 41 (.tmp 10) (.tmp 39) rfl (w12.heap.size) [.int .i64 0, .string ⟨#[]⟩, .bool false, .slice none 0 0, .slice none 0 0] rfl rfl 41 _ hN0.out _ Tryz.sz41 (by first | rfl | simp) (by first | rfl | simp) (by first | rfl | simp [Value.oneCell']) ?_; intro w13 hr13 hg13 hz13)))
  have hb12' : Below w8.heap.size w8 w12 := (hb9.trans (hb10.mono hb9.size)).trans (hb12.mono (Nat.le_trans hb9.size hb10.size))
  have hb13 : Below w8.heap.size w8 w13 := ((hb12'.trans (((Below.refl w12.heap.size w12).alloc (Nat.le_refl _) (.cells zNode.toArray 41)).mono hb12'.size)).grown hg13 (by have := hb12'.size; simp; omega) (fun k e => by have := Option.some.inj e; have := hb12'.size; omega))
  have y0 := hr13.out.cell' (i := 0) rfl
  have y1 := hr13.out.cell' (i := 1) rfl
  have y2 := hr13.out.cell' (i := 2) rfl
  have y3 := hr13.out.cell' (i := 3) rfl
  have y4 := hr13.out.cell' (i := 4) rfl
  clear hN0 hg13 hz13 X10 h9 h10
  have hN1 := HNQ.out
  rw [hst1.out] at hN1
  obtain ⟨s2, hs2⟩ : ∃ s2, Hid (nodeS k st1 d ⟨0, [], false, [], []⟩ = s2) := ⟨_, Lib.hid rfl⟩
  rw [hs2.out] at D7 hN1
  obtain ⟨s3, hs3⟩ : ∃ s3, Hid (failS k s2 12 = s3) := ⟨_, Lib.hid rfl⟩
  rw [hs3.out] at hN1
  have HN1 := Lib.hid hN1
  have i3 : s3.i = st.i := by rw [hN1]; exact I1.out
  have i2 : s2.i = st.i := by rw [← i3, ← hs3.out, failS_i]
  have hi2 : s2.i ≤ 1000000 := by omega
  have I3 := Lib.hid i3
  have hqn : ((q : Int) == 0) = false := by have := HQ.out; simp; omega
  clear hN1 i2 i3
  go_wp2_with (first | (go_at_call 30; ((with_reducible refine (D7.out _ hb13).mono ?_)); rintro e w14 ⟨vn2, ncs2, rfl, h14, hP14⟩; have D12 := pfail_h h14 HB.out.toRB (by omega) 12 12 rfl) | (go_at_call 15; ((with_reducible refine D12.out.mono ?_)); rintro e w15 ⟨rfl, h15, hP15⟩; rw [hs3.out] at h15; have k15 : w15.cell? ⟨B, 1, none⟩ = some (.int .i64 (st.i : Int)) := (by have := h15.c1; rw [show (parC k _ _ s3)[1] = Value.int .i64 (s3.i : Int) from rfl, I3.out] at this; exact this); have f15 := h15.f 1; have h16 := h15.setI (st.i + 1); rw [show ((st.i + 1 : Nat) : Int) = (st.i : Int) + 1 by omega] at h16; have H16 := Lib.hid h16; have c816 : (w15.setCell ⟨B, 1, none⟩ (.int .i64 ((st.i : Int) + 1))).cell? ⟨B, 8, none⟩ = some (.int .i64 (q : Int)) := (by have := h16.c8; rw [HN1.out] at this; exact this); clear h16))
  go_ret
  rw [HRV.out]
  refine ⟨st.nodes.length, _, rfl, RD.of H16.out (HPA.out.trans ((PStep.of_below hb13).trans (hP14.trans (hP15.trans (pstep_set (.inl rfl) 1 _))))), ?_⟩
  rw [HN1.out]
  exact val_fl HIN.out HQ.out rfl rfl (D := [_]) (by simp) rfl (by rw [← hst1.out]; rfl) (by show st.i + 1 ≤ _; omega)
end Go.Proofs.YtbdnamcjhndpjaaGreatDoor
