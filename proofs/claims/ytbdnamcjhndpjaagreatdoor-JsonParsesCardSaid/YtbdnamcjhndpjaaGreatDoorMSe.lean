/- The walk of entry of the reference's parser. -/
import Derived.Test.YtbdnamcjhndpjaaGreatDoorMSd
import Derived.Deep.RegionHeld3
import Derived.Deep.DeepCutAuto
set_option linter.unusedVariables false
set_option linter.unusedSimpArgs false
set_option linter.defProp false
set_option linter.constructorNameAsVariable false
namespace Go.Proofs.YtbdnamcjhndpjaaGreatDoor
open Go.RowKit
set_option maxRecDepth 100000 in
set_option maxHeartbeats 8000000 in
theorem pentry_any (f : Nat) (hV : RValH f) : REntH f := by
 intro w B k vn vs ncs lab st N S s kd x j d h hb hA hj hd hne
 obtain ⟨R, hR⟩ : ∃ R, entV k.s.length f d (N.length + 1) (S.length + 1) S.length x j = R := ⟨_, rfl⟩
 rw [hR] at hne ⊢
 have HNE := Lib.hid hne
 have HV := Lib.hid hV
 have HB := Lib.hid hb
 have hbt := hb.tl
 have hAi := hA.i
 have hil := hA.il
 have DT := ptoken_h h hb.toRB (by omega)
 have hby := (tokAt_by hb.toRB st.i).1
 obtain ⟨F, hF⟩ : ∃ F, Hid (RF B vn vs lab = F) := ⟨_, Lib.hid rfl⟩
 have hrl : Hid (∀ g, F g → g < w.heap.size) := by show ∀ g, _; rw [← hF.out]; exact h.rfLt
 have hb0 : Below w.heap.size w w := Below.refl _ _
 by_cases hk : (tokAt k st.i).kind = 2
 ·have hEL := Lib.hid (ent_law (g := f) (j := j) hA hk hd hby)
  rw [hR] at hEL
  have HA := Lib.hid hA
  generalize tokAt k st.i = t at *
  have hk2 : ((t.kind : Int) != 2) = false := by simp; omega
  have HK := Lib.hid hk
  clear hne hV hb hA hR hk
  rw [hF.out]
  go_enter Tryz.func55, Tryz.ntmps55
  go_upto_region 1 with (first | (go_at_call 14; ((with_reducible refine (DT.out _ hb0).mono ?_)); rintro e w5 ⟨rfl, hb5⟩; have hX0 := Lib.hid (Arr.new w5 62 zTok)) | ((with_reducible show wpList _ _ _ (Oper.mk none (Op.store 62 (Operand.tmp 10) (Operand.tmp 14)) _ _ _ _ :: _) _ _); go_loud (refine wpList_sr rfl rfl 62 (.tmp 10) (.tmp 14) rfl (w5.heap.size) [.int .i64 (t.kind : Int), .int .i64 (t.from_ : Int), .int .i64 (t.to_ : Int), .string (mks t.text)] rfl rfl 62 _ hX0.out _ Tryz.sz62 (by first | rfl | simp) (by first | rfl | simp) (by first | rfl | simp [Value.oneCell']) ?_; intro w6 hr6 hg6 hz6)))
  have hb6 : Below w.heap.size w w6 := (hb5.trans (((Below.refl w5.heap.size w5).alloc (Nat.le_refl _) (.cells zTok.toArray 62)).mono hb5.size)).grown hg6 (by have := hb5.size; simp; omega) (fun k e => by have := Option.some.inj e; have := hb5.size; omega)
  have h6 := h.below hb6
  have hP6 : PStep w w6 F F := PStep.of_below hb6
  have hp0 : ¬ F w5.heap.size := fun hf => by have := hrl.out _ hf; have := hb5.size; omega
  have x0 := hr6.out.cell' (i := 0) rfl
  have x3 := hr6.out.cell' (i := 3) rfl
  have D7 := pnode_any h6 HB.out.toRB (by omega) (by have := HA.out.nl; omega) 5 t.text (d + 1) (by omega)
  rw [show ((d + 1 : Nat) : Int) = (d : Int) + 1 by omega, hF.out] at D7
  have D7' := Lib.hid D7
  clear D7
  go_upto_region 4 with (go_at_call 30; ((with_reducible refine D7'.out.mono ?_)); rintro e w7 ⟨vn7, ncs7, rfl, h7, hP7⟩)
  have X7 := hP7.arr hr6.out hp0
  have y3 := X7.cell' (i := 3) rfl
  have hkl : x.ks.length ≤ 1000000 := by have h1 := HA.out.ks.1; have h2 := HA.out.kl; simp only at h1; omega
  have hn7 : (entS2 k st d t).nodes[N.length]? = some ⟨kd, [], false, x.keys, x.items⟩ := by
   show (st.nodes ++ [_])[N.length]? = _
   rw [List.getElem?_append_left (by have := HA.out.lens.1; omega)]
   exact HA.out.getN
  have hks7 : KeysOK (entS2 k st d t) ⟨kd, [], false, x.keys, x.items⟩ x.ks := HA.out.ks.mono rfl (fun m y hy => ⟨y, by show (st.nodes ++ [_])[m]? = _; rw [List.getElem?_append_left (List.getElem?_eq_some_iff.1 hy).1]; exact hy, rfl⟩)
  have hl7 : (entS2 k st d t).nodes.length ≤ 100000 := by show (st.nodes ++ [_]).length ≤ _; have := HA.out.nl; rw [List.length_append, List.length_singleton]; omega
  have h7' : RM w7 B k vn7 vs ncs7 lab (entS2 k st d t) := h7
  have DW := Lib.hid (ptwice_any h7' hn7 x.ks hks7 t.text hby hl7 hkl)
  obtain ⟨b, hbb⟩ : ∃ b, Hid (decide (t.text ∈ x.ks) = b) := ⟨_, Lib.hid rfl⟩
  rw [hbb.out] at DW hEL
  have hi2 : (entS2 k st d t).i = st.i := by unfold entS2 nodeS; simp only; (repeat' split) <;> simp [failS_i]
  have HN7 := Lib.hid hn7
  obtain ⟨F7, hF7⟩ : ∃ F7, Hid (RF B vn7 vs lab = F7) := ⟨_, Lib.hid rfl⟩
  rw [hF7.out] at hP7
  obtain ⟨s2, hs2⟩ : ∃ s2, Hid (entS2 k st d t = s2) := ⟨_, Lib.hid rfl⟩
  rw [hs2.out] at h7' hi2
  obtain ⟨s3, hs3⟩ : ∃ s3, Hid ((if b = true then failS k s2 8 else s2) = s3) := ⟨_, Lib.hid rfl⟩
  have hi3 : s3.i = st.i := by rw [← hs3.out]; split; rw [failS_i]; exact hi2; exact hi2
  have D8 := pfail_h h7' HB.out.toRB (by omega) 8 8 rfl
  rw [hF7.out] at D8
  clear h7 hn7 hks7 hl7 h6 DT hX0 x0 x3
  go_upto_if 31 with (go_at_call 79; ((with_reducible refine DW.out.mono ?_)); rintro e w8 ⟨rfl, rfl⟩)
  go_cut [] (fun wx => RM wx B k vn7 vs ncs7 lab s3 ∧ PStep w7 wx F7 F7)
  case first =>
   have e3 := hs3.out
   cases b with
   | true =>
    rw [if_pos rfl] at e3
    rw [e3] at D8
    clear e3
    go_wp2_with (go_at_call 15; ((with_reducible refine D8.out.mono ?_)); rintro e w8 ⟨rfl, h8, hp8⟩)
    go_meet
    exact ⟨h8, hp8⟩
   | false =>
    rw [if_neg (by decide)] at e3
    subst e3
    go_wp2_with (fail)
    go_meet
    exact ⟨h7', PStep.of_below (Below.refl _ _)⟩
  case rest =>
   obtain ⟨h8, hP8⟩ := hcut
   obtain ⟨w8, hw8⟩ : ∃ x, x = wc := ⟨_, rfl⟩
   subst hw8
   have c81 : w8.cell? ⟨B, 1, none⟩ = some (.int .i64 (st.i : Int)) := by have := h8.c1; rw [show ((parC k vn7 vs s3)[1]) = Value.int .i64 (s3.i : Int) from rfl, hi3] at this; exact this
   have f81 := h8.f 1
   have h9 := h8.setI (st.i + 1)
   rw [show ((st.i + 1 : Nat) : Int) = (st.i : Int) + 1 by omega] at h9
   have hP9 : PStep w8 (w8.setCell ⟨B, 1, none⟩ (.int .i64 ((st.i : Int) + 1))) F7 F7 := by have := pstep_set (w := w8) (vn := vn7) (vs := vs) (lab := lab) (g := B) (.inl rfl) 1 (.int .i64 ((st.i : Int) + 1)); rw [hF7.out] at this; exact this
   have H9 := Lib.hid h9
   have HP9 := Lib.hid hP9
   have c98 : (w8.setCell ⟨B, 1, none⟩ (.int .i64 ((st.i : Int) + 1))).cell? ⟨B, 8, none⟩ = some (.int .i64 (s3.err : Int)) := h9.c8
   have hlt8 := h8.lt
   clear h9 hP9 h7' D8 hi2
   go_upto_region 7 with (fail)
   generalize (w8.setCell ⟨B, 1, none⟩ (.int .i64 ((st.i : Int) + 1))) = w9 at *
   have hs4 : Hid ({ s3 with i := st.i + 1 } = entS4 k st d t b) := by show _ = _; unfold entS4; rw [hs2.out, hs3.out]
   obtain ⟨s5, hs5⟩ : ∃ s5, Hid (entS k st d t b = s5) := ⟨_, Lib.hid rfl⟩
   have h9' : RM w9 B k vn7 vs ncs7 lab (entS4 k st d t b) := by rw [← hs4.out]; exact H9.out
   have he4 : s3.err = (entS4 k st d t b).err := by rw [← hs4.out]
   have hi4 : (entS4 k st d t b).i = st.i + 1 := rfl
   rw [he4] at c98
   have e5 := hs5.out
   unfold entS at e5
   have hE5 := Lib.hid e5
   clear e5
   generalize entS4 k st d t b = s4 at *
   go_upto_if 45 with (fail)
   go_cut [] (fun wx => RM wx B k vn7 vs ncs7 lab s5 ∧ PStep w9 wx F7 F7)
   case first =>
    have e5 := hE5.out
    by_cases h4 : s4.err = 0
    ·rw [if_pos h4] at e5
     have D5 : Hid (Calls Tryz.prog 54 #[.pointer (some ⟨B, 0, none⟩), .string ⟨#[58]⟩] w9 (fun e w' => e = .returned (.tuple #[]) ∧ RM w' B k vn7 vs ncs7 lab (mustS k s4 [58]) ∧ PStep w9 w' (RF B vn7 vs lab) (RF B vn7 vs lab))) := pmust_any h9' HB.out.toRB (by omega) [58] (by intro y hy; simp at hy; omega)
     rw [e5, hF7.out] at D5
     have h4t : ((s4.err : Int) == 0) = true := by simp; omega
     clear e5 h4 c98 he4
     go_wp2_with (go_at_call 54; ((with_reducible refine D5.out.mono ?_)); rintro e wa ⟨rfl, ha, hpa⟩)
     go_meet
     exact ⟨ha, hpa⟩
    ·rw [if_neg h4] at e5
     have h4' : ((s4.err : Int) == 0) = false := by simp; omega
     subst e5
     clear h4
     go_wp2_with (fail)
     go_meet
     exact ⟨h9', PStep.of_below (Below.refl _ _)⟩
   case rest =>
    obtain ⟨ha, hPa⟩ := hcut
    obtain ⟨wa, hwa⟩ : ∃ x, x = wc := ⟨_, rfl⟩
    subst hwa
    have hPA := ((hP6.trans hP7).trans hP8).trans (HP9.out.trans hPa)
    have hPX := (hP7.trans hP8).trans (HP9.out.trans hPa)
    have ca8 : wa.cell? ⟨B, 8, none⟩ = some (.int .i64 (s5.err : Int)) := ha.c8
    rw [hs5.out] at hEL
    rcases hEL.out with ⟨q, hq1, hq2, hq3⟩ | ⟨hq1, hq2, hq3, hq4⟩
    ·have hq2' : ((s5.err : Int) != 0) = true := by simp; omega
     have HQ1 := Lib.hid hq1
     have HQ3 := Lib.hid hq3
     clear hq1 hq2 hq3 hEL he4
     go_wp2_with (fail)
     go_end0
     refine ⟨rfl, ?_⟩
     rw [HQ1.out]
     exact ⟨_, RD.of ha (by rw [hF7.out]; exact hPA), HQ3.out⟩
    ·have hky := HA.out.key hby hq3 hq4
     have HKY := Lib.hid hky
     have herr : s5.err = 0 := by rw [hq1]; exact HA.out.err
     have hq2' : ((s5.err : Int) != 0) = false := by rw [herr]; rfl
     have HQ2 := Lib.hid hq2
     rw [hq1] at ha
     obtain ⟨gn, cn, hvn, hcn, _⟩ := own_slice0 ha.nod (by show 0 < (st.nodes ++ [_]).length; simp)
     obtain ⟨vk, vi, hcs, hk2c, hk3c, hk4c, hk5c, _, _, _, hc3, _⟩ := ha.nodeCells hky.1
     obtain ⟨Ak, ck, hvk, hck1, hck2⟩ := own_slice hk2c
     subst hvk
     obtain ⟨L7, hL7⟩ : ∃ L7 : Nat, st.nodes.length + 1 = L7 := ⟨_, rfl⟩
     have hLn : (st.nodes ++ [(⟨5, t.text, false, [], []⟩ : GNode)]).length = L7 := by rw [List.length_append, List.length_singleton, hL7]
     have hvn2 : vn7 = .slice (some ⟨gn, 0, none⟩) L7 cn := by rw [hvn]; exact congrArg (fun n => Value.slice (some ⟨gn, 0, none⟩) n cn) hLn
     have hkl8 : x.keys.length ≤ 70000 := by have := HA.out.kl; omega
     have hlta := ha.lt
     have hnN : N.length < L7 := by have := HA.out.lens.1; omega
     have hnl' : (N.length : Int) < L7 := by omega
     have hk2d : wa.drew.ownsRow B 3 1 (.slice Ak x.keys.length ck) x.keys.length (I64 x.keys) := hk2c
     have hnod : wa.ownsRow B 41 5 (.slice (some ⟨gn, 0, none⟩) L7 cn) L7 ncs7 := by have := ha.nod; rw [hvn2] at this; rw [hLn] at this; exact this
     have haa := ha.below ((Below.refl _ _).alloc (Nat.le_refl _) (.cells #[.int .i64 (st.nodes.length : Int)] 3))
     have hnoda : (wa.alloc (.cells #[.int .i64 (st.nodes.length : Int)] 3)).ownsRow B 41 5 (.slice (some ⟨gn, 0, none⟩) L7 cn) L7 ncs7 := by have := haa.nod; rw [hvn2] at this; rw [hLn] at this; exact this
     have b4 : wa.cell? ⟨B, 4, none⟩ = some (.slice (some ⟨gn, 0, none⟩) L7 cn) := by have := ha.c4; rw [← hvn2]; exact this
     have i4 := (own_cell hnod hc3).1
     have d4 := (own_cell hnoda hc3).1
     obtain ⟨s6, hs6⟩ : ∃ s6, Hid ({ st with nodes := (st.nodes ++ [(⟨5, t.text, false, [], []⟩ : GNode)]).set N.length ⟨kd, [], false, x.keys ++ [(st.nodes.length : Int)], x.items⟩, i := st.i + 2 } = s6) := ⟨_, Lib.hid rfl⟩
     have HQ1 := Lib.hid hq1
     clear haa hnoda hEL hq1 hq2 hky he4
     go_upto_region 10 with (fail)
     go_cut [] (fun wx => ∃ vn8 ncs8 lab8, RM wx B k vn8 vs ncs8 lab8 s6 ∧ PStep wa wx F7 (RF B vn8 vs lab8))
     case first =>
      rw [hload_eq 39 (.tmp 68)]
      go_region_held3 (fun w' => w'.cell? ⟨B, 4, none⟩ = some (.slice (some ⟨gn, 0, none⟩) L7 cn)) (first | assumption | (have := RM.c4 (by assumption); exact this) | go_keep) (first | (refine step_apS rfl (.tmp 69) (.tmp 71) 39 rfl B 3 _ 1 _ Tryz.underlying39 Tryz.info3 rfl (by decide) _ x.keys.length (I64 x.keys) rfl (hk2d.alloc _) ⟨wa.heap.size, 0, none⟩ _ [.int .i64 (st.nodes.length : Int)] rfl rfl (cells_at _ _ _ _ (by first | rfl | simp)) rfl (by unfold maxLen; omega) (by omega) (by simp; omega) ?_; intro v3 w3 hown3 hgr3 hat3; obtain ⟨A3, c3, rfl, hc3', hm3⟩ := own_slice hown3; obtain ⟨P3, N3, h9, hP9⟩ := RM.addKeys ha HKY.out.1 hcs hk2c hk3c hk4c hk5c hvn (st.nodes.length : Int) _ hown3 hgr3 hat3; have p4 := P3.cell' (i := 4) rfl; rw [hvn2, hLn] at N3; have i3 := (own_cell N3 hc3).1; have q3 := (own_cell N3 hc3).2; have r4 : (w3.setCell ⟨gn, N.length * 5 + 3, none⟩ (.slice A3 (x.keys.length + 1) c3)).cell? ⟨B, 4, none⟩ = some (.slice (some ⟨gn, 0, none⟩) L7 cn) := (by have := h9.c4; rw [← hvn2]; exact this); clear hgr3 hat3 hown3))
      all_goals
       have H9' := Lib.hid h9
       have HP9' := Lib.hid hP9
       clear h9 hP9
      all_goals
       go_wp2_with (fail)
       go_meet
       have hr := H9'.out
       rw [hs6.out] at hr
       have hp := HP9'.out
       rw [hF7.out] at hp
       exact ⟨_, _, _, hr, hp⟩
     case rest =>
      obtain ⟨vn8, ncs8, lab8, hbk, hPb⟩ := hcut
      obtain ⟨wb, hwb⟩ : ∃ x, x = wc := ⟨_, rfl⟩
      subst hwb
      have HJ := Lib.hid hj
      clear hj
      have hA6 : RAt k N S kd s ⟨leftA k (st.i + 2), x.dn ++ [⟨5, t.text, false, [], []⟩], x.ds, x.ks ++ [t.text], x.keys ++ [(st.nodes.length : Int)], x.items⟩ s6 := by have := HKY.out.2; rw [hs6.out] at this; exact this
      have hi6 : s6.i = st.i + 2 := by rw [← hs6.out]
      have hn6 : s6.nodes.length = st.nodes.length + 1 := by rw [← hs6.out]; simp
      have hp6 : s6.spans = st.spans := by rw [← hs6.out]
      have hNX := HQ2.out
      rw [← hi6, ← hn6, ← hp6] at hNX
      have hrne : rvalV k.s.length f (leftA k s6.i) s6.nodes.length s6.spans.length ⟨0, (S.length : Int), (j : Int), 0, 0, (t.from_ : Int), (t.to_ : Int), false, false⟩ (d + 1) ≠ .error (0, 0) := by
       intro e; apply HNE.out; rw [hNX, e]
      have DV : Hid (Calls Tryz.prog 13 #[.pointer (some ⟨B, 0, none⟩), .agg #[.int .i64 0, .int .i64 (S.length : Int), .int .i64 (j : Int), .int .i64 0, .int .i64 0, .int .i64 (t.from_ : Int), .int .i64 (t.to_ : Int), .bool false, .bool false], .int .i64 ((d : Int) + 1)] wb (RValR wb B k (RF B vn8 vs lab8) s6 (d + 1) (rvalV k.s.length f (leftA k s6.i) s6.nodes.length s6.spans.length ⟨0, (S.length : Int), (j : Int), 0, 0, (t.from_ : Int), (t.to_ : Int), false, false⟩ (d + 1)))) := by
       have := HV.out wb B k vn8 vs ncs8 lab8 s6 ⟨0, (S.length : Int), (j : Int), 0, 0, (t.from_ : Int), (t.to_ : Int), false, false⟩ (d + 1) hbk HB.out ⟨hA6.err, hA6.i, hA6.nl, hA6.sl, by omega⟩ hrne
       rw [show ((d + 1 : Nat) : Int) = (d : Int) + 1 by omega] at this
       exact this
      obtain ⟨rv, hrv⟩ : ∃ rv, rvalV k.s.length f (leftA k s6.i) s6.nodes.length s6.spans.length ⟨0, (S.length : Int), (j : Int), 0, 0, (t.from_ : Int), (t.to_ : Int), false, false⟩ (d + 1) = rv := ⟨_, rfl⟩
      rw [hrv] at DV hNX
      have XB := (hPX.trans hPb).arr hr6.out hp0
      have b1 := XB.cell' (i := 1) rfl
      have b2 := XB.cell' (i := 2) rfl
      have HPB := Lib.hid (hPA.trans hPb)
      have HA6 := Lib.hid hA6
      have HN6 := Lib.hid hn6
      clear hrv hrne hA6 hi6 hn6 hp6 XB hPb hPX hPA hvn hvn2 hcs hk2c hk3c hk4c hk5c hc3 hck1 hck2 hLn hnl' hk2d hnod b4 i4 d4 ha ca8 hq2' herr
      cases rv with
      | error q =>
       have HQ := Lib.hid hNX
       clear hNX
       go_upto_region 12 with (go_at_call 13; ((with_reducible refine DV.out.mono ?_)); rintro e w9 ⟨xv, st8, rfl, ⟨vn9, vs9, ncs9, lab9, h9, hP9⟩, hFl9⟩)
       obtain ⟨hn9, hF9⟩ := HA6.out.fl hFl9
       obtain ⟨xw, hxw⟩ : ∃ xw : Int, ((xv : Nat) : Int) = xw := ⟨_, rfl⟩
       have hnl9 := hFl9.nl
       clear hFl9
       rw [hxw]
       have hnlt9 := (List.getElem?_eq_some_iff.1 hn9).1
       obtain ⟨go, co, hvo, hco, _⟩ := own_slice0 h9.nod (by omega)
       obtain ⟨vko, vio, hcso, hk2o, hk3o, hk4o, hk5o, _, _, _, _, hc4o⟩ := h9.nodeCells hn9
       obtain ⟨Ai, ci, hvi, hci1, hci2⟩ := own_slice hk3o
       subst hvi
       subst hvo
       have hil9 : x.items.length ≤ 70000 := by have := HA6.out.il; have := HA6.out.i; omega
       have hlt9 := h9.lt
       have hnl9' : (N.length : Int) < st8.nodes.length := by omega
       have hk3d : w9.drew.ownsRow B 3 1 (.slice Ai x.items.length ci) x.items.length (I64 x.items) := hk3o
       have h9a := h9.below ((Below.refl _ _).alloc (Nat.le_refl _) (.cells #[.int .i64 xw] 3))
       have b4 : w9.cell? ⟨B, 4, none⟩ = some (.slice (some ⟨go, 0, none⟩) st8.nodes.length co) := h9.c4
       have i4 := (own_cell h9.nod hc4o).1
       have d4 : (w9.alloc (.cells #[.int .i64 xw] 3)).cell? ⟨go, N.length * 5 + 4, none⟩ = some (.slice Ai x.items.length ci) := (own_cell h9a.nod hc4o).1
       clear h9a
       rw [hload_eq 39 (.tmp 101)]
       go_region_held3 (fun w' => w'.cell? ⟨B, 4, none⟩ = some (.slice (some ⟨go, 0, none⟩) st8.nodes.length co)) (first | assumption | exact RM.c4 (by assumption) | go_keep) (first | (refine step_apS rfl (.tmp 102) (.tmp 104) 39 rfl B 3 _ 1 _ Tryz.underlying39 Tryz.info3 rfl (by decide) _ x.items.length (I64 x.items) rfl (hk3d.alloc _) ⟨w9.heap.size, 0, none⟩ _ [.int .i64 xw] rfl rfl (cells_at _ _ _ _ (by first | rfl | simp)) rfl (by unfold maxLen; omega) (by omega) (by simp; omega) ?_; intro v3 w3 hown3 hgr3 hat3; obtain ⟨A3, c3, rfl, hc3, hm3⟩ := own_slice hown3; obtain ⟨P3, N3, ho, hPo⟩ := RM.addItems h9 hn9 hcso hk2o hk3o hk4o hk5o rfl xw _ hown3 hgr3 hat3; have p4 := P3.cell' (i := 4) rfl; have i3 := (own_cell N3 hc4o).1; have q3 := (own_cell N3 hc4o).2; clear hgr3 hat3 hown3))
       all_goals
        have HO := Lib.hid ho
        have HPO := Lib.hid hPo
        clear ho hPo
       all_goals
        go_wp2_with (fail)
        go_end0
        refine ⟨rfl, ?_⟩
        rw [HQ.out]
        rw [← hF.out] at *
        exact ⟨_, RD.of HO.out ((HPB.out.trans hP9).trans HPO.out), hF9 _⟩
      | ok p =>
       have HQ := Lib.hid hNX
       clear hNX
       go_upto_region 12 with (go_at_call 13; ((with_reducible refine DV.out.mono ?_)); rintro e w9 ⟨rfl, st8, ⟨vn9, vs9, ncs9, lab9, h9, hP9⟩, hOk9⟩)
       obtain ⟨hn9, hA9⟩ := HA6.out.ok hOk9
       obtain ⟨xw, hxw⟩ : ∃ xw : Int, ((s6.nodes.length : Nat) : Int) = xw := ⟨_, rfl⟩
       have hnl9 := hOk9.nl
       clear hOk9
       rw [hxw]
       rw [hxw] at hA9
       have hXW : xw = ((st.nodes.length + 1 : Nat) : Int) := by rw [← hxw, HN6.out]
       have HXW := Lib.hid hXW
       have HA9 := Lib.hid hA9
       clear hA9 hXW hxw
       have hnlt9 := (List.getElem?_eq_some_iff.1 hn9).1
       obtain ⟨go, co, hvo, hco, _⟩ := own_slice0 h9.nod (by omega)
       obtain ⟨vko, vio, hcso, hk2o, hk3o, hk4o, hk5o, _, _, _, _, hc4o⟩ := h9.nodeCells hn9
       obtain ⟨Ai, ci, hvi, hci1, hci2⟩ := own_slice hk3o
       subst hvi
       subst hvo
       have hil9 : x.items.length ≤ 70000 := by have := HA6.out.il; have := HA6.out.i; omega
       have hlt9 := h9.lt
       have hnl9' : (N.length : Int) < st8.nodes.length := by omega
       have hk3d : w9.drew.ownsRow B 3 1 (.slice Ai x.items.length ci) x.items.length (I64 x.items) := hk3o
       have h9a := h9.below ((Below.refl _ _).alloc (Nat.le_refl _) (.cells #[.int .i64 xw] 3))
       have b4 : w9.cell? ⟨B, 4, none⟩ = some (.slice (some ⟨go, 0, none⟩) st8.nodes.length co) := h9.c4
       have i4 := (own_cell h9.nod hc4o).1
       have d4 : (w9.alloc (.cells #[.int .i64 xw] 3)).cell? ⟨go, N.length * 5 + 4, none⟩ = some (.slice Ai x.items.length ci) := (own_cell h9a.nod hc4o).1
       clear h9a
       rw [hload_eq 39 (.tmp 101)]
       go_region_held3 (fun w' => w'.cell? ⟨B, 4, none⟩ = some (.slice (some ⟨go, 0, none⟩) st8.nodes.length co)) (first | assumption | exact RM.c4 (by assumption) | go_keep) (first | (refine step_apS rfl (.tmp 102) (.tmp 104) 39 rfl B 3 _ 1 _ Tryz.underlying39 Tryz.info3 rfl (by decide) _ x.items.length (I64 x.items) rfl (hk3d.alloc _) ⟨w9.heap.size, 0, none⟩ _ [.int .i64 xw] rfl rfl (cells_at _ _ _ _ (by first | rfl | simp)) rfl (by unfold maxLen; omega) (by omega) (by simp; omega) ?_; intro v3 w3 hown3 hgr3 hat3; obtain ⟨A3, c3, rfl, hc3, hm3⟩ := own_slice hown3; obtain ⟨P3, N3, ho, hPo⟩ := RM.addItems h9 hn9 hcso hk2o hk3o hk4o hk5o rfl xw _ hown3 hgr3 hat3; have p4 := P3.cell' (i := 4) rfl; have i3 := (own_cell N3 hc4o).1; have q3 := (own_cell N3 hc4o).2; clear hgr3 hat3 hown3))
       all_goals
        have HO := Lib.hid ho
        have HPO := Lib.hid hPo
        clear ho hPo
       all_goals
        go_wp2_with (fail)
        go_end0
        refine ⟨rfl, ?_⟩
        rw [HQ.out, HN6.out]
        have hA9 := HA9.out
        rw [HXW.out] at hA9
        have ho := HO.out
        rw [HXW.out] at ho
        rw [← hF.out] at *
        exact ⟨_, RD.of ho ((HPB.out.trans hP9).trans HPO.out), hA9⟩
 ·obtain ⟨hR2, hfl⟩ := ent_bad (g := f) (j := j) hA hk hd
  rw [hR] at hR2
  have HR2 := Lib.hid hR2
  have HFL := Lib.hid hfl
  generalize tokAt k st.i = t at *
  have hk2 : ((t.kind : Int) != 2) = true := by simp; omega
  clear hne hV hb hA hR hk hR2 hfl
  rw [hF.out]
  go_enter Tryz.func55, Tryz.ntmps55
  go_upto_region 1 with (first | (go_at_call 14; ((with_reducible refine (DT.out _ hb0).mono ?_)); rintro e w5 ⟨rfl, hb5⟩; have hX0 := Lib.hid (Arr.new w5 62 zTok)) | ((with_reducible show wpList _ _ _ (Oper.mk none (Op.store 62 (Operand.tmp 10) (Operand.tmp 14)) _ _ _ _ :: _) _ _); go_loud (refine wpList_sr rfl rfl 62 (.tmp 10) (.tmp 14) rfl (w5.heap.size) [.int .i64 (t.kind : Int), .int .i64 (t.from_ : Int), .int .i64 (t.to_ : Int), .string (mks t.text)] rfl rfl 62 _ hX0.out _ Tryz.sz62 (by first | rfl | simp) (by first | rfl | simp) (by first | rfl | simp [Value.oneCell']) ?_; intro w6 hr6 hg6 hz6)))
  have hb6 : Below w.heap.size w w6 := (hb5.trans (((Below.refl w5.heap.size w5).alloc (Nat.le_refl _) (.cells zTok.toArray 62)).mono hb5.size)).grown hg6 (by have := hb5.size; simp; omega) (fun k e => by have := Option.some.inj e; have := hb5.size; omega)
  have h6 := h.below hb6
  have x0 := hr6.out.cell' (i := 0) rfl
  have D4 := pfail_h h6 HB.out.toRB (by omega) 4 4 rfl
  go_wp2_with (go_at_call 15; ((with_reducible refine D4.out.mono ?_)); rintro e w7 ⟨rfl, h7, hp7⟩)
  go_end0
  refine ⟨rfl, ?_⟩
  rw [HR2.out]
  rw [← hF.out]
  exact ⟨_, RD.of h7 ((PStep.of_below hb6).trans hp7), HFL.out⟩
end Go.Proofs.YtbdnamcjhndpjaaGreatDoor
