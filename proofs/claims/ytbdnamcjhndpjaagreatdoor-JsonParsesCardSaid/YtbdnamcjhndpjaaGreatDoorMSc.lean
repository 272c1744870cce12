/- The walk of list of the reference's parser. -/
import Derived.Test.YtbdnamcjhndpjaaGreatDoorMSb
import Derived.Deep.RegionHeld3
set_option linter.unusedVariables false
set_option linter.unusedSimpArgs false
set_option linter.defProp false
set_option linter.constructorNameAsVariable false
namespace Go.Proofs.YtbdnamcjhndpjaaGreatDoor
open Go.RowKit
set_option maxRecDepth 100000 in
set_option maxHeartbeats 8000000 in
theorem plist_any (f : Nat) (hV : ∀ g, g < f → RValH g) : RItsH false f := by
 intro w B k vn vs ncs lab st N S s kd d h hb hat hd hne
 show Calls Tryz.prog 31 _ w _
 obtain ⟨R, hR⟩ : ∃ R, ritemsV k.s.length f false S.length d (N.length + 1) (S.length + 1) ⟨leftA k (st.i + 1), [], [], [], [], []⟩ = R := ⟨_, rfl⟩
 rw [hR] at hne ⊢
 have HNE := Lib.hid hne
 have HV := Lib.hid hV
 obtain ⟨F, hF⟩ : ∃ F, Hid (RF B vn vs lab = F) := ⟨_, Lib.hid rfl⟩
 rw [hF.out]
 have hbt := hb.tl
 have hbs := hb.sl
 have hai : st.i + 1 ≤ k.ts.length := hat.i
 have c1 : w.cell? ⟨B, 1, none⟩ = some (.int .i64 (st.i : Int)) := h.c1
 have f1 := h.f 1
 have h1 := h.setI (st.i + 1)
 have e1 : ((st.i + 1 : Nat) : Int) = (st.i : Int) + 1 := by omega
 rw [e1] at h1
 have hP1 : PStep w (w.setCell ⟨B, 1, none⟩ (.int .i64 ((st.i : Int) + 1))) (RF B vn vs lab) (RF B vn vs lab) := pstep_set (.inl rfl) 1 _
 rw [hF.out] at hP1
 have HAT := Lib.hid hat
 have H1 := Lib.hid h1
 have HR := Lib.hid hR
 have HB := Lib.hid hb
 clear e1 h hne hV hat hR h1 hb
 go_enter Tryz.func31, Tryz.ntmps31
 go_upto_region 1 with (fail)
 generalize (w.setCell ⟨B, 1, none⟩ (.int .i64 ((st.i : Int) + 1))) = W at *
 go_wp2_with (fail)
 go_loopw [8] (fun jv wr => ∃ (j : Nat) (stx : RSt) (vn' vs' : Value) (ncs' : List Value) (lab' : Nat → Option Nat), jv = .int .i64 (j : Int) ∧ RM wr B k vn' vs' ncs' lab' stx ∧ PStep w wr F (RF B vn' vs' lab') ∧
  Hid ((∃ x g, g ≤ f ∧ RAt k N S kd s x stx ∧ x.items.length = j ∧ ritemsV k.s.length g false S.length d (N.length + 1) (S.length + 1) x = R) ∨ (∃ q, RFl k N S (d + 1) q stx ∧ R = .error q))) (fun jv _ => 100000 - (intOf jv).toNat)
 case atStart => exact ⟨0, _, _, _, _, _, rfl, H1.out, by rw [hF.out]; exact hP1, Lib.hid (.inl ⟨_, f, Nat.le_refl _, HAT.out, rfl, HR.out⟩)⟩
 case round =>
  obtain ⟨j, stx, vn', vs', ncs', lab', rfl, hM, hPx, hrx⟩ := hrel
  have hlt := hM.lt
  have m1 : wr.cell? ⟨B, 1, none⟩ = some (.int .i64 (stx.i : Int)) := hM.c1
  have n1 := hM.f 1
  rcases hrx.out with ⟨x, g, hg, hA, hj, hRx⟩ | ⟨q, hfl, hRq⟩
  ·cases g with
   | zero => exact absurd (by rw [← hRx, ritemsV]) HNE.out
   | succ g =>
    have m8 := hM.e0 hA.err
    have hil := hA.il
    have hAi := hA.i
    have D93 := pis_1 hM HB.out.toRB (by omega) 93 (by omega) ⟨#[93]⟩ rfl
    have hj' : j ≤ 70000 := by omega
    by_cases hc : isV (leftA k stx.i) [93] = true
    ·rw [hc] at D93
     have hlt2 := isV_lt hc
     rw [hA.left] at hc
     have hRok : R = .ok x := by rw [← hRx]; exact rits_close hc
     have HRO := Lib.hid hRok
     have HA := Lib.hid hA
     clear hRok hRx hc hA hrx
     have hb0 : Below wr.heap.size wr wr := Below.refl _ _
     rcases Nat.eq_zero_or_pos j with rfl | hjp
     ·go_wp2_with (go_at_call 29; ((with_reducible refine D93.out.mono ?_)); rintro e w5 ⟨rfl, hb5⟩; have h5 := hM.below hb5; have f51 := h5.f 1; have k51 : w5.cell? ⟨B, 1, none⟩ = some (.int .i64 (stx.i : Int)) := h5.c1)
      go_end0
      have h6 := h5.setI (stx.i + 1)
      rw [show ((stx.i + 1 : Nat) : Int) = (stx.i : Int) + 1 by omega] at h6
      refine ⟨rfl, ?_⟩
      rw [HRO.out]
      exact ⟨_, stx, RD.of h6 ((hPx.trans (PStep.of_below hb5)).trans (pstep_set (.inl rfl) 1 _)), HA.out, rfl, hlt2⟩
     ·have hjp' : (0 : Int) < (j : Int) := by omega
      go_wp2_with (go_at_call 29; ((with_reducible refine D93.out.mono ?_)); rintro e w5 ⟨rfl, hb5⟩; have h5 := hM.below hb5; have f51 := h5.f 1; have k51 : w5.cell? ⟨B, 1, none⟩ = some (.int .i64 (stx.i : Int)) := h5.c1)
      go_end0
      have h6 := h5.setI (stx.i + 1)
      rw [show ((stx.i + 1 : Nat) : Int) = (stx.i : Int) + 1 by omega] at h6
      refine ⟨rfl, ?_⟩
      rw [HRO.out]
      exact ⟨_, stx, RD.of h6 ((hPx.trans (PStep.of_below hb5)).trans (pstep_set (.inl rfl) 1 _)), HA.out, rfl, hlt2⟩
    ·have hcf : isV (leftA k stx.i) [93] = false := by simpa using hc
     rw [hcf] at D93
     have hcx : ¬ isV x.l [93] = true := by rw [← hA.left]; exact hc
     have HA := Lib.hid hA
     have HRX := Lib.hid hRx
     have HCX := Lib.hid hcx
     have HJ := Lib.hid hj
     by_cases hbad : ¬ j = 0 ∧ ¬ isV (leftA k stx.i) [44] = true
     ·obtain ⟨hj0, h44⟩ := hbad
      have hjp' : (0 : Int) < (j : Int) := by omega
      have hfl := hA.must h44 (d := d + 1) (by omega)
      have hRq : R = .error (offV k.s.length x.l, 4) := by rw [← hRx]; exact rits_comma hcx (by omega) (by rw [← hA.left]; exact h44)
      have HFL := Lib.hid hfl
      have HRQ := Lib.hid hRq
      have herr : (mustS k stx [44]).err = 4 := hfl.err
      have hb0 : Below wr.heap.size wr wr := Below.refl _ _
      clear hrx hA hRx hcx hj hc hcf hfl hRq h44
      go_wp2_with (first | (go_at_call 29; ((with_reducible refine D93.out.mono ?_)); rintro e w5 ⟨rfl, hb5⟩; have h5 := hM.below hb5; have DM : Hid (Calls Tryz.prog 54 #[.pointer (some ⟨B, 0, none⟩), .string ⟨#[44]⟩] w5 (fun e w' => e = .returned (.tuple #[]) ∧ RM w' B k vn' vs' ncs' lab' (mustS k stx [44]) ∧ PStep w5 w' (RF B vn' vs' lab') (RF B vn' vs' lab'))) := pmust_any h5 HB.out.toRB (by omega) [44] (by intro y hy; simp at hy; omega)) | (go_at_call 54; ((with_reducible refine DM.out.mono ?_)); rintro e w6 ⟨rfl, h6, hb6⟩; have k86 : w6.cell? ⟨B, 8, none⟩ = some (.int .i64 4) := (by have := h6.c8; rw [show ((parC k vn' vs' (mustS k stx [44]))[8]) = Value.int .i64 (((mustS k stx [44]).err : Nat) : Int) from rfl, herr] at this; exact this)))
      go_roundw
      case rel => exact ⟨j + 1, _, _, _, _, _, i64e (by omega), h6, (hPx.trans (PStep.of_below hb5)).trans hb6, Lib.hid (.inr ⟨_, HFL.out, HRQ.out⟩)⟩
      case measure => first | (simp [intOf]; done) | (simp [intOf]; omega)
     ·have hjc : x.items.length = 0 ∨ isV x.l [44] = true := by
       rw [← hA.left]
       by_cases h0 : j = 0
       ·left; omega
       ·right
        by_cases h4 : isV (leftA k stx.i) [44] = true
        ·exact h4
        ·exact absurd ⟨h0, h4⟩ hbad
      have HJC := Lib.hid hjc
      have hj44 : ¬ j = 0 → isV (leftA k stx.i) [44] = true := by
       intro h0
       rcases hjc with e | e
       ·omega
       ·rw [hA.left]; exact e
      have HJ44 := Lib.hid hj44
      have he0 := hA.err
      clear hrx hA hRx hcx hj hc hcf hbad hjc hj44
      have hst : ∃ w7 s1, True := ⟨wr, stx, trivial⟩
      clear hst
      rcases Nat.eq_zero_or_pos j with rfl | hjp
      ·go_upto_region 8 with (go_at_call 29; ((with_reducible refine D93.out.mono ?_)); rintro e w7 ⟨rfl, hb5⟩; have h7 := hM.below hb5; have k85 := h7.e0 he0)
       have hp7 := PStep.of_below (F := RF B vn' vs' lab') hb5
       have hA1 : RAt k N S kd s { x with l := if x.items.length = 0 then x.l else x.l.drop 1 } stx := by rw [if_pos HJ.out]; exact HA.out
       obtain ⟨s1, hs1⟩ : ∃ s1, stx = s1 := ⟨_, rfl⟩
       have h7' := h7
       rw [hs1] at h7' hA1
       clear h7 hs1 k85 D93
       all_goals 
        have hNX := list_next hA1 HCX.out HJC.out HRX.out
        rw [HJ.out] at hNX
        have z0 : ((0 : Nat) : Int) = 0 := rfl
        rw [z0] at hNX
        clear z0
        have hrne : rvalV k.s.length g (leftA k s1.i) s1.nodes.length s1.spans.length ⟨0, (S.length : Int), (0 : Int), 0, 0, 0, 0, false, false⟩ (d + 1) ≠ .error (0, 0) := by
         intro e; apply HNE.out; rw [hNX, e]
        have DV : Hid (Calls Tryz.prog 13 #[.pointer (some ⟨B, 0, none⟩), .agg #[.int .i64 0, .int .i64 (S.length : Int), .int .i64 (0 : Int), .int .i64 0, .int .i64 0, .int .i64 0, .int .i64 0, .bool false, .bool false], .int .i64 ((d : Int) + 1)] w7 (RValR w7 B k (RF B vn' vs' lab') s1 (d + 1) (rvalV k.s.length g (leftA k s1.i) s1.nodes.length s1.spans.length ⟨0, (S.length : Int), (0 : Int), 0, 0, 0, 0, false, false⟩ (d + 1)))) := by
         have := HV.out g (by omega) w7 B k vn' vs' ncs' lab' s1 ⟨0, (S.length : Int), (0 : Int), 0, 0, 0, 0, false, false⟩ (d + 1) h7' HB.out ⟨hA1.err, hA1.i, hA1.nl, hA1.sl, by omega⟩ hrne
         rw [show ((d + 1 : Nat) : Int) = (d : Int) + 1 by omega] at this
         exact this
        obtain ⟨rv, hrv⟩ : ∃ rv, rvalV k.s.length g (leftA k s1.i) s1.nodes.length s1.spans.length ⟨0, (S.length : Int), (0 : Int), 0, 0, 0, 0, false, false⟩ (d + 1) = rv := ⟨_, rfl⟩
        rw [hrv] at DV hNX
        clear hrv hrne
        cases rv with
        | error q =>
         have HQ := Lib.hid hNX
         have HA1 := Lib.hid hA1
         clear hNX hA1
         go_upto_region 9 with (go_at_call 13; ((with_reducible refine DV.out.mono ?_)); rintro e w8 ⟨xv, st8, rfl, ⟨vn8, vs8, ncs8, lab8, h8, hP8⟩, hFl8⟩)
         obtain ⟨hn8, hF8⟩ := HA1.out.fl hFl8
         obtain ⟨xw, hxw⟩ : ∃ xw : Int, ((xv : Nat) : Int) = xw := ⟨_, rfl⟩
         have hnl8 := hFl8.nl
         clear hFl8
         rw [hxw]
         have hnlt := (List.getElem?_eq_some_iff.1 hn8).1
         obtain ⟨gn, cn, hvn, hcn, _⟩ := own_slice0 h8.nod (by omega)
         obtain ⟨vk, vi, hcs, hk2, hk3, hk4, hk5, _, _, _, _, hc4⟩ := h8.nodeCells hn8
         obtain ⟨Ai, ci, hvi, hci1, hci2⟩ := own_slice hk3
         subst hvi
         subst hvn
         have hil8 : x.items.length ≤ 70000 := by have := HJ.out; omega
         have hlt8 := h8.lt
         have hnl' : (N.length : Int) < st8.nodes.length := by omega
         have hk3d : w8.drew.ownsRow B 3 1 (.slice Ai x.items.length ci) x.items.length (I64 x.items) := hk3
         have h8a := h8.below ((Below.refl _ _).alloc (Nat.le_refl _) (.cells #[.int .i64 xw] 3))
         have b4 : w8.cell? ⟨B, 4, none⟩ = some (.slice (some ⟨gn, 0, none⟩) st8.nodes.length cn) := h8.c4
         have i4 := (own_cell h8.nod hc4).1
         have d4 : (w8.alloc (.cells #[.int .i64 xw] 3)).cell? ⟨gn, N.length * 5 + 4, none⟩ = some (.slice Ai x.items.length ci) := (own_cell h8a.nod hc4).1
         clear h8a
         rw [hload_eq 39 (.tmp 70)]
         go_region_held3 (fun w' => w'.cell? ⟨B, 4, none⟩ = some (.slice (some ⟨gn, 0, none⟩) st8.nodes.length cn)) (first | assumption | exact RM.c4 (by assumption) | go_keep) (first | (refine step_apS rfl (.tmp 71) (.tmp 73) 39 rfl B 3 _ 1 _ Tryz.underlying39 Tryz.info3 rfl (by decide) _ x.items.length (I64 x.items) rfl (hk3d.alloc _) ⟨w8.heap.size, 0, none⟩ _ [.int .i64 xw] rfl rfl (cells_at _ _ _ _ (by first | rfl | simp)) rfl (by unfold maxLen; omega) (by omega) (by simp; omega) ?_; intro v3 w3 hown3 hgr3 hat3; obtain ⟨A3, c3, rfl, hc3, hm3⟩ := own_slice hown3; obtain ⟨P3, N3, h9, hP9⟩ := RM.addItems h8 hn8 hcs hk2 hk3 hk4 hk5 rfl xw _ hown3 hgr3 hat3; have p4 := P3.cell' (i := 4) rfl; have i3 := (own_cell N3 hc4).1; have q3 := (own_cell N3 hc4).2; clear hgr3 hat3 hown3))
         all_goals
          have H9 := Lib.hid h9
          have HP9 := Lib.hid hP9
          clear h9 hP9
         all_goals
          go_wp2_with (fail)
          go_roundw
          case rel => exact ⟨0 + 1, _, _, _, _, _, i64e (by omega), H9.out, ((hPx.trans hp7).trans hP8).trans HP9.out, Lib.hid (.inr ⟨q, hF8 _, HQ.out⟩)⟩
          case measure => first | (simp [intOf]; done) | (simp [intOf]; omega)
        | ok p =>
         have HQ := Lib.hid hNX
         have HA1 := Lib.hid hA1
         clear hNX hA1
         go_upto_region 9 with (go_at_call 13; ((with_reducible refine DV.out.mono ?_)); rintro e w8 ⟨rfl, st8, ⟨vn8, vs8, ncs8, lab8, h8, hP8⟩, hOk8⟩)
         obtain ⟨hn8, hA8⟩ := HA1.out.ok hOk8
         obtain ⟨xw, hxw⟩ : ∃ xw : Int, ((s1.nodes.length : Nat) : Int) = xw := ⟨_, rfl⟩
         have hnl8 := hOk8.nl
         clear hOk8
         rw [hxw]
         have hnlt := (List.getElem?_eq_some_iff.1 hn8).1
         obtain ⟨gn, cn, hvn, hcn, _⟩ := own_slice0 h8.nod (by omega)
         obtain ⟨vk, vi, hcs, hk2, hk3, hk4, hk5, _, _, _, _, hc4⟩ := h8.nodeCells hn8
         obtain ⟨Ai, ci, hvi, hci1, hci2⟩ := own_slice hk3
         subst hvi
         subst hvn
         have hil8 : x.items.length ≤ 70000 := by have := HJ.out; omega
         have hlt8 := h8.lt
         have hnl' : (N.length : Int) < st8.nodes.length := by omega
         have hk3d : w8.drew.ownsRow B 3 1 (.slice Ai x.items.length ci) x.items.length (I64 x.items) := hk3
         have h8a := h8.below ((Below.refl _ _).alloc (Nat.le_refl _) (.cells #[.int .i64 xw] 3))
         have b4 : w8.cell? ⟨B, 4, none⟩ = some (.slice (some ⟨gn, 0, none⟩) st8.nodes.length cn) := h8.c4
         have i4 := (own_cell h8.nod hc4).1
         have d4 : (w8.alloc (.cells #[.int .i64 xw] 3)).cell? ⟨gn, N.length * 5 + 4, none⟩ = some (.slice Ai x.items.length ci) := (own_cell h8a.nod hc4).1
         clear h8a
         rw [hxw] at hA8
         have HA8 := Lib.hid hA8
         clear hA8
         rw [hload_eq 39 (.tmp 70)]
         go_region_held3 (fun w' => w'.cell? ⟨B, 4, none⟩ = some (.slice (some ⟨gn, 0, none⟩) st8.nodes.length cn)) (first | assumption | exact RM.c4 (by assumption) | go_keep) (first | (refine step_apS rfl (.tmp 71) (.tmp 73) 39 rfl B 3 _ 1 _ Tryz.underlying39 Tryz.info3 rfl (by decide) _ x.items.length (I64 x.items) rfl (hk3d.alloc _) ⟨w8.heap.size, 0, none⟩ _ [.int .i64 xw] rfl rfl (cells_at _ _ _ _ (by first | rfl | simp)) rfl (by unfold maxLen; omega) (by omega) (by simp; omega) ?_; intro v3 w3 hown3 hgr3 hat3; obtain ⟨A3, c3, rfl, hc3, hm3⟩ := own_slice hown3; obtain ⟨P3, N3, h9, hP9⟩ := RM.addItems h8 hn8 hcs hk2 hk3 hk4 hk5 rfl xw _ hown3 hgr3 hat3; have p4 := P3.cell' (i := 4) rfl; have i3 := (own_cell N3 hc4).1; have q3 := (own_cell N3 hc4).2; clear hgr3 hat3 hown3))
         all_goals
          have H9 := Lib.hid h9
          have HP9 := Lib.hid hP9
          clear h9 hP9
         all_goals
          go_wp2_with (fail)
          go_roundw
          case rel =>
           refine ⟨0 + 1, _, _, _, _, _, i64e (by omega), H9.out, ((hPx.trans hp7).trans hP8).trans HP9.out, Lib.hid (.inl ⟨_, g, by omega, HA8.out, ?_, ?_⟩)⟩
           ·show (x.items ++ [_]).length = 0 + 1
            rw [List.length_append, List.length_singleton, HJ.out]
           ·have := HQ.out; rw [hxw] at this; exact this.symm
          case measure => first | (simp [intOf]; done) | (simp [intOf]; omega)
      ·have hjp' : (0 : Int) < (j : Int) := by omega
       have h44 := HJ44.out (by omega)
       have hms : mustS k stx [44] = { stx with i := stx.i + 1 } := by unfold mustS; rw [if_pos h44]
       have HMS := Lib.hid hms
       clear hms
       go_upto_region 8 with (first | (go_at_call 29; ((with_reducible refine D93.out.mono ?_)); rintro e w5 ⟨rfl, hb5⟩; have h5 := hM.below hb5; have DM : Hid (Calls Tryz.prog 54 #[.pointer (some ⟨B, 0, none⟩), .string ⟨#[44]⟩] w5 (fun e w' => e = .returned (.tuple #[]) ∧ RM w' B k vn' vs' ncs' lab' (mustS k stx [44]) ∧ PStep w5 w' (RF B vn' vs' lab') (RF B vn' vs' lab'))) := pmust_any h5 HB.out.toRB (by omega) [44] (by intro y hy; simp at hy; omega)) | (go_at_call 54; ((with_reducible refine DM.out.mono ?_)); rintro e w7 ⟨rfl, h7, hb6⟩; have k85 := h7.e0 (by rw [HMS.out]; exact he0)))
       have hp7 := (PStep.of_below (F := RF B vn' vs' lab') hb5).trans hb6
       have hA1 : RAt k N S kd s { x with l := if x.items.length = 0 then x.l else x.l.drop 1 } (mustS k stx [44]) := by rw [if_neg (by rw [HJ.out]; omega), HMS.out]; exact HA.out.comma h44
       obtain ⟨s1, hs1⟩ : ∃ s1, mustS k stx [44] = s1 := ⟨_, rfl⟩
       have h7' := h7
       rw [hs1] at h7' hA1
       clear h7 hs1 k85 D93 DM h5 HMS h44 hb6
       all_goals 
        have hNX := list_next hA1 HCX.out HJC.out HRX.out
        rw [HJ.out] at hNX
        have hrne : rvalV k.s.length g (leftA k s1.i) s1.nodes.length s1.spans.length ⟨0, (S.length : Int), (j : Int), 0, 0, 0, 0, false, false⟩ (d + 1) ≠ .error (0, 0) := by
         intro e; apply HNE.out; rw [hNX, e]
        have DV : Hid (Calls Tryz.prog 13 #[.pointer (some ⟨B, 0, none⟩), .agg #[.int .i64 0, .int .i64 (S.length : Int), .int .i64 (j : Int), .int .i64 0, .int .i64 0, .int .i64 0, .int .i64 0, .bool false, .bool false], .int .i64 ((d : Int) + 1)] w7 (RValR w7 B k (RF B vn' vs' lab') s1 (d + 1) (rvalV k.s.length g (leftA k s1.i) s1.nodes.length s1.spans.length ⟨0, (S.length : Int), (j : Int), 0, 0, 0, 0, false, false⟩ (d + 1)))) := by
         have := HV.out g (by omega) w7 B k vn' vs' ncs' lab' s1 ⟨0, (S.length : Int), (j : Int), 0, 0, 0, 0, false, false⟩ (d + 1) h7' HB.out ⟨hA1.err, hA1.i, hA1.nl, hA1.sl, by omega⟩ hrne
         rw [show ((d + 1 : Nat) : Int) = (d : Int) + 1 by omega] at this
         exact this
        obtain ⟨rv, hrv⟩ : ∃ rv, rvalV k.s.length g (leftA k s1.i) s1.nodes.length s1.spans.length ⟨0, (S.length : Int), (j : Int), 0, 0, 0, 0, false, false⟩ (d + 1) = rv := ⟨_, rfl⟩
        rw [hrv] at DV hNX
        clear hrv hrne
        cases rv with
        | error q =>
         have HQ := Lib.hid hNX
         have HA1 := Lib.hid hA1
         clear hNX hA1
         go_upto_region 9 with (go_at_call 13; ((with_reducible refine DV.out.mono ?_)); rintro e w8 ⟨xv, st8, rfl, ⟨vn8, vs8, ncs8, lab8, h8, hP8⟩, hFl8⟩)
         obtain ⟨hn8, hF8⟩ := HA1.out.fl hFl8
         obtain ⟨xw, hxw⟩ : ∃ xw : Int, ((xv : Nat) : Int) = xw := ⟨_, rfl⟩
         have hnl8 := hFl8.nl
         clear hFl8
         rw [hxw]
         have hnlt := (List.getElem?_eq_some_iff.1 hn8).1
         obtain ⟨gn, cn, hvn, hcn, _⟩ := own_slice0 h8.nod (by omega)
         obtain ⟨vk, vi, hcs, hk2, hk3, hk4, hk5, _, _, _, _, hc4⟩ := h8.nodeCells hn8
         obtain ⟨Ai, ci, hvi, hci1, hci2⟩ := own_slice hk3
         subst hvi
         subst hvn
         have hil8 : x.items.length ≤ 70000 := by have := HJ.out; omega
         have hlt8 := h8.lt
         have hnl' : (N.length : Int) < st8.nodes.length := by omega
         have hk3d : w8.drew.ownsRow B 3 1 (.slice Ai x.items.length ci) x.items.length (I64 x.items) := hk3
         have h8a := h8.below ((Below.refl _ _).alloc (Nat.le_refl _) (.cells #[.int .i64 xw] 3))
         have b4 : w8.cell? ⟨B, 4, none⟩ = some (.slice (some ⟨gn, 0, none⟩) st8.nodes.length cn) := h8.c4
         have i4 := (own_cell h8.nod hc4).1
         have d4 : (w8.alloc (.cells #[.int .i64 xw] 3)).cell? ⟨gn, N.length * 5 + 4, none⟩ = some (.slice Ai x.items.length ci) := (own_cell h8a.nod hc4).1
         clear h8a
         rw [hload_eq 39 (.tmp 70)]
         go_region_held3 (fun w' => w'.cell? ⟨B, 4, none⟩ = some (.slice (some ⟨gn, 0, none⟩) st8.nodes.length cn)) (first | assumption | exact RM.c4 (by assumption) | go_keep) (first | (refine step_apS rfl (.tmp 71) (.tmp 73) 39 rfl B 3 _ 1 _ Tryz.underlying39 Tryz.info3 rfl (by decide) _ x.items.length (I64 x.items) rfl (hk3d.alloc _) ⟨w8.heap.size, 0, none⟩ _ [.int .i64 xw] rfl rfl (cells_at _ _ _ _ (by first | rfl | simp)) rfl (by unfold maxLen; omega) (by omega) (by simp; omega) ?_; intro v3 w3 hown3 hgr3 hat3; obtain ⟨A3, c3, rfl, hc3, hm3⟩ := own_slice hown3; obtain ⟨P3, N3, h9, hP9⟩ := RM.addItems h8 hn8 hcs hk2 hk3 hk4 hk5 rfl xw _ hown3 hgr3 hat3; have p4 := P3.cell' (i := 4) rfl; have i3 := (own_cell N3 hc4).1; have q3 := (own_cell N3 hc4).2; clear hgr3 hat3 hown3))
         all_goals
          have H9 := Lib.hid h9
          have HP9 := Lib.hid hP9
          clear h9 hP9
         all_goals
          go_wp2_with (fail)
          go_roundw
          case rel => exact ⟨j + 1, _, _, _, _, _, i64e (by omega), H9.out, ((hPx.trans hp7).trans hP8).trans HP9.out, Lib.hid (.inr ⟨q, hF8 _, HQ.out⟩)⟩
          case measure => first | (simp [intOf]; done) | (simp [intOf]; omega)
        | ok p =>
         have HQ := Lib.hid hNX
         have HA1 := Lib.hid hA1
         clear hNX hA1
         go_upto_region 9 with (go_at_call 13; ((with_reducible refine DV.out.mono ?_)); rintro e w8 ⟨rfl, st8, ⟨vn8, vs8, ncs8, lab8, h8, hP8⟩, hOk8⟩)
         obtain ⟨hn8, hA8⟩ := HA1.out.ok hOk8
         obtain ⟨xw, hxw⟩ : ∃ xw : Int, ((s1.nodes.length : Nat) : Int) = xw := ⟨_, rfl⟩
         have hnl8 := hOk8.nl
         clear hOk8
         rw [hxw]
         have hnlt := (List.getElem?_eq_some_iff.1 hn8).1
         obtain ⟨gn, cn, hvn, hcn, _⟩ := own_slice0 h8.nod (by omega)
         obtain ⟨vk, vi, hcs, hk2, hk3, hk4, hk5, _, _, _, _, hc4⟩ := h8.nodeCells hn8
         obtain ⟨Ai, ci, hvi, hci1, hci2⟩ := own_slice hk3
         subst hvi
         subst hvn
         have hil8 : x.items.length ≤ 70000 := by have := HJ.out; omega
         have hlt8 := h8.lt
         have hnl' : (N.length : Int) < st8.nodes.length := by omega
         have hk3d : w8.drew.ownsRow B 3 1 (.slice Ai x.items.length ci) x.items.length (I64 x.items) := hk3
         have h8a := h8.below ((Below.refl _ _).alloc (Nat.le_refl _) (.cells #[.int .i64 xw] 3))
         have b4 : w8.cell? ⟨B, 4, none⟩ = some (.slice (some ⟨gn, 0, none⟩) st8.nodes.length cn) := h8.c4
         have i4 := (own_cell h8.nod hc4).1
         have d4 : (w8.alloc (.cells #[.int .i64 xw] 3)).cell? ⟨gn, N.length * 5 + 4, none⟩ = some (.slice Ai x.items.length ci) := (own_cell h8a.nod hc4).1
         clear h8a
         rw [hxw] at hA8
         have HA8 := Lib.hid hA8
         clear hA8
         rw [hload_eq 39 (.tmp 70)]
         go_region_held3 (fun w' => w'.cell? ⟨B, 4, none⟩ = some (.slice (some ⟨gn, 0, none⟩) st8.nodes.length cn)) (first | assumption | exact RM.c4 (by assumption) | go_keep) (first | (refine step_apS rfl (.tmp 71) (.tmp 73) 39 rfl B 3 _ 1 _ Tryz.underlying39 Tryz.info3 rfl (by decide) _ x.items.length (I64 x.items) rfl (hk3d.alloc _) ⟨w8.heap.size, 0, none⟩ _ [.int .i64 xw] rfl rfl (cells_at _ _ _ _ (by first | rfl | simp)) rfl (by unfold maxLen; omega) (by omega) (by simp; omega) ?_; intro v3 w3 hown3 hgr3 hat3; obtain ⟨A3, c3, rfl, hc3, hm3⟩ := own_slice hown3; obtain ⟨P3, N3, h9, hP9⟩ := RM.addItems h8 hn8 hcs hk2 hk3 hk4 hk5 rfl xw _ hown3 hgr3 hat3; have p4 := P3.cell' (i := 4) rfl; have i3 := (own_cell N3 hc4).1; have q3 := (own_cell N3 hc4).2; clear hgr3 hat3 hown3))
         all_goals
          have H9 := Lib.hid h9
          have HP9 := Lib.hid hP9
          clear h9 hP9
         all_goals
          go_wp2_with (fail)
          go_roundw
          case rel =>
           refine ⟨j + 1, _, _, _, _, _, i64e (by omega), H9.out, ((hPx.trans hp7).trans hP8).trans HP9.out, Lib.hid (.inl ⟨_, g, by omega, HA8.out, ?_, ?_⟩)⟩
           ·show (x.items ++ [_]).length = j + 1
            rw [List.length_append, List.length_singleton, HJ.out]
           ·have := HQ.out; rw [hxw] at this; exact this.symm
          case measure => first | (simp [intOf]; done) | (simp [intOf]; omega)
  ·have he : stx.err ≠ 0 := by rw [hfl.err]; exact hfl.ne
   have he' : ((stx.err : Int) == 0) = false := by simp; omega
   have m8 : wr.cell? ⟨B, 8, none⟩ = some (.int .i64 (stx.err : Int)) := hM.c8
   have hfi := hfl.i
   have HFL := Lib.hid hfl
   have HRQ := Lib.hid hRq
   clear hrx hfl hRq he
   go_wp2_with (fail)
   go_end0
   have h6 := hM.setI (stx.i + 1)
   rw [show ((stx.i + 1 : Nat) : Int) = (stx.i : Int) + 1 by omega] at h6
   refine ⟨rfl, ?_⟩
   rw [HRQ.out]
   refine ⟨_, RD.of h6 (hPx.trans (pstep_set (.inl rfl) 1 _)), ⟨HFL.out.err, HFL.out.ne, HFL.out.at_, HFL.out.nod, HFL.out.spn, HFL.out.nl, HFL.out.sl, ?_⟩⟩
   show stx.i + 1 ≤ _
   omega
end Go.Proofs.YtbdnamcjhndpjaaGreatDoor
namespace Go.Proofs.YtbdnamcjhndpjaaGreatDoor
open Go.RowKit
def entV (en g d n1 s1 k : Nat) (y : RLoop) (j : Nat) : Except PErr RLoop :=
 match rkeyV en d n1 y ⟨0, (k : Int), (j : Int), 0, 0, 0, 0, false, false⟩ with
 | .error e => .error e
 | .ok z => match rvalV en g z.1.l (n1 + z.1.dn.length) (s1 + z.1.ds.length) z.2 (d + 1) with
  | .error e => .error e
  | .ok p => .ok ⟨p.1, z.1.dn ++ p.2.1, z.1.ds ++ p.2.2, z.1.ks, z.1.keys, z.1.items ++ [((n1 + z.1.dn.length : Nat) : Int)]⟩
theorem rits_goE {en g k d n1 s1 : Nat} {x : RLoop} (h : ¬ isV x.l [125] = true) (hj : x.items.length = 0 ∨ isV x.l [44] = true) :
  ritemsV en (g + 1) true k d n1 s1 x = match entV en g d n1 s1 k { x with l := if x.items.length = 0 then x.l else x.l.drop 1 } x.items.length with
   | .error e => .error e
   | .ok x' => ritemsV en g true k d n1 s1 x' := by
 rw [ritemsV]
 simp only [if_true]
 rw [if_neg h]
 unfold rcommaV entV
 by_cases h0 : x.items.length = 0
 ·rw [if_pos h0, if_pos h0]
  simp only
  cases rkeyV en d n1 x ⟨0, (k : Int), (x.items.length : Int), 0, 0, 0, 0, false, false⟩ with
  | error e => rfl
  | ok z =>
   simp only
   cases rvalV en g z.1.l (n1 + z.1.dn.length) (s1 + z.1.ds.length) z.2 (d + 1) with
   | error e => rfl
   | ok p => rfl
 ·have h1 : isV x.l [44] = true := by rcases hj with e | e; exact absurd e h0; exact e
  rw [if_neg h0, if_neg h0, if_pos h1]
  simp only
  cases rkeyV en d n1 { x with l := x.l.drop 1 } ⟨0, (k : Int), (x.items.length : Int), 0, 0, 0, 0, false, false⟩ with
  | error e => rfl
  | ok z =>
   simp only
   cases rvalV en g z.1.l (n1 + z.1.dn.length) (s1 + z.1.ds.length) z.2 (d + 1) with
   | error e => rfl
   | ok p => rfl
def REntR (w : World) (B : Nat) (k : RK) (F : Nat → Prop) (N : List GNode) (S : List JSpan) (kd : Int) (s : JSpan) (d : Nat) (r : Except PErr RLoop) (e : Ending) (w' : World) : Prop :=
 e = .returned (.tuple #[]) ∧ match r with
 | .ok x => ∃ st', RD w w' B k F st' ∧ RAt k N S kd s x st'
 | .error q => ∃ st', RD w w' B k F st' ∧ RFl k N S (d + 1) q st'
def REntH (f : Nat) : Prop := ∀ (w : World) (B : Nat) (k : RK) (vn vs : Value) (ncs : List Value) (lab : Nat → Option Nat) (st : RSt) (N : List GNode) (S : List JSpan) (s : JSpan) (kd : Int) (x : RLoop) (j d : Nat), RM w B k vn vs ncs lab st → RB2 k →
 RAt k N S kd s x st → x.items.length = j → d ≤ 32 → entV k.s.length f d (N.length + 1) (S.length + 1) S.length x j ≠ .error (0, 0) →
 Calls Tryz.prog 55 #[.pointer (some ⟨B, 0, none⟩), .int .i64 (N.length : Int), .int .i64 (S.length : Int), .int .i64 (j : Int), .int .i64 (d : Int)] w
  (REntR w B k (RF B vn vs lab) N S kd s d (entV k.s.length f d (N.length + 1) (S.length + 1) S.length x j))
theorem rkey_items {en d n1 : Nat} {y : RLoop} {s : JSpan} {z : RLoop × JSpan} (h : rkeyV en d n1 y s = .ok z) : z.1.items = y.items := by
 unfold rkeyV at h
 split at h
 ·cases h
 ·(repeat' split at h) <;> first | (cases h; done) | (cases h; rfl)
theorem ent_len {en g d n1 s1 k j : Nat} {y x' : RLoop} (h : entV en g d n1 s1 k y j = .ok x') : x'.items.length = y.items.length + 1 := by
 unfold entV at h
 cases hk : rkeyV en d n1 y ⟨0, (k : Int), (j : Int), 0, 0, 0, 0, false, false⟩ with
 | error e => rw [hk] at h; cases h
 | ok z =>
  rw [hk] at h
  simp only at h
  cases hv : rvalV en g z.1.l (n1 + z.1.dn.length) (s1 + z.1.ds.length) z.2 (d + 1) with
  | error e => rw [hv] at h; cases h
  | ok p =>
   rw [hv] at h
   injection h with h
   subst h
   show (z.1.items ++ [_]).length = _
   rw [List.length_append, List.length_singleton, rkey_items hk]
set_option maxRecDepth 100000 in
set_option maxHeartbeats 8000000 in
theorem pentries_any (f : Nat) (hV : ∀ g, g < f → REntH g) : RItsH true f := by
 intro w B k vn vs ncs lab st N S s kd d h hb hat hd hne
 show Calls Tryz.prog 32 _ w _
 obtain ⟨R, hR⟩ : ∃ R, ritemsV k.s.length f true S.length d (N.length + 1) (S.length + 1) ⟨leftA k (st.i + 1), [], [], [], [], []⟩ = R := ⟨_, rfl⟩
 rw [hR] at hne ⊢
 have HNE := Lib.hid hne
 have HV := Lib.hid hV
 obtain ⟨F, hF⟩ : ∃ F, Hid (RF B vn vs lab = F) := ⟨_, Lib.hid rfl⟩
 rw [hF.out]
 have hbt := hb.tl
 have hbs := hb.sl
 have hai : st.i + 1 ≤ k.ts.length := hat.i
 have c1 : w.cell? ⟨B, 1, none⟩ = some (.int .i64 (st.i : Int)) := h.c1
 have f1 := h.f 1
 have h1 := h.setI (st.i + 1)
 have e1 : ((st.i + 1 : Nat) : Int) = (st.i : Int) + 1 := by omega
 rw [e1] at h1
 have hP1 : PStep w (w.setCell ⟨B, 1, none⟩ (.int .i64 ((st.i : Int) + 1))) (RF B vn vs lab) (RF B vn vs lab) := pstep_set (.inl rfl) 1 _
 rw [hF.out] at hP1
 have HAT := Lib.hid hat
 have H1 := Lib.hid h1
 have HR := Lib.hid hR
 have HB := Lib.hid hb
 clear e1 h hne hV hat hR h1 hb
 go_enter Tryz.func32, Tryz.ntmps32
 go_upto_region 1 with (fail)
 generalize (w.setCell ⟨B, 1, none⟩ (.int .i64 ((st.i : Int) + 1))) = W at *
 go_wp2_with (fail)
 go_loopw [8] (fun jv wr => ∃ (j : Nat) (stx : RSt) (vn' vs' : Value) (ncs' : List Value) (lab' : Nat → Option Nat), jv = .int .i64 (j : Int) ∧ RM wr B k vn' vs' ncs' lab' stx ∧ PStep w wr F (RF B vn' vs' lab') ∧
  Hid ((∃ x g, g ≤ f ∧ RAt k N S kd s x stx ∧ x.items.length = j ∧ ritemsV k.s.length g true S.length d (N.length + 1) (S.length + 1) x = R) ∨ (∃ q, RFl k N S (d + 1) q stx ∧ R = .error q))) (fun jv _ => 100000 - (intOf jv).toNat)
 case atStart => exact ⟨0, _, _, _, _, _, rfl, H1.out, by rw [hF.out]; exact hP1, Lib.hid (.inl ⟨_, f, Nat.le_refl _, HAT.out, rfl, HR.out⟩)⟩
 case round =>
  obtain ⟨j, stx, vn', vs', ncs', lab', rfl, hM, hPx, hrx⟩ := hrel
  have hlt := hM.lt
  have m1 : wr.cell? ⟨B, 1, none⟩ = some (.int .i64 (stx.i : Int)) := hM.c1
  have n1 := hM.f 1
  rcases hrx.out with ⟨x, g, hg, hA, hj, hRx⟩ | ⟨q, hfl, hRq⟩
  ·cases g with
   | zero => exact absurd (by rw [← hRx, ritemsV]) HNE.out
   | succ g =>
    have m8 := hM.e0 hA.err
    have hil := hA.il
    have hAi := hA.i
    have D93 := pis_1 hM HB.out.toRB (by omega) 125 (by omega) ⟨#[125]⟩ rfl
    have hj' : j ≤ 70000 := by omega
    by_cases hc : isV (leftA k stx.i) [125] = true
    ·rw [hc] at D93
     have hlt2 := isV_lt hc
     rw [hA.left] at hc
     have hRok : R = .ok x := by rw [← hRx]; exact rits_close hc
     have HRO := Lib.hid hRok
     have HA := Lib.hid hA
     clear hRok hRx hc hA hrx
     have hb0 : Below wr.heap.size wr wr := Below.refl _ _
     rcases Nat.eq_zero_or_pos j with rfl | hjp
     ·go_wp2_with (go_at_call 29; ((with_reducible refine D93.out.mono ?_)); rintro e w5 ⟨rfl, hb5⟩; have h5 := hM.below hb5; have f51 := h5.f 1; have k51 : w5.cell? ⟨B, 1, none⟩ = some (.int .i64 (stx.i : Int)) := h5.c1)
      go_end0
      have h6 := h5.setI (stx.i + 1)
      rw [show ((stx.i + 1 : Nat) : Int) = (stx.i : Int) + 1 by omega] at h6
      refine ⟨rfl, ?_⟩
      rw [HRO.out]
      exact ⟨_, stx, RD.of h6 ((hPx.trans (PStep.of_below hb5)).trans (pstep_set (.inl rfl) 1 _)), HA.out, rfl, hlt2⟩
     ·have hjp' : (0 : Int) < (j : Int) := by omega
      go_wp2_with (go_at_call 29; ((with_reducible refine D93.out.mono ?_)); rintro e w5 ⟨rfl, hb5⟩; have h5 := hM.below hb5; have f51 := h5.f 1; have k51 : w5.cell? ⟨B, 1, none⟩ = some (.int .i64 (stx.i : Int)) := h5.c1)
      go_end0
      have h6 := h5.setI (stx.i + 1)
      rw [show ((stx.i + 1 : Nat) : Int) = (stx.i : Int) + 1 by omega] at h6
      refine ⟨rfl, ?_⟩
      rw [HRO.out]
      exact ⟨_, stx, RD.of h6 ((hPx.trans (PStep.of_below hb5)).trans (pstep_set (.inl rfl) 1 _)), HA.out, rfl, hlt2⟩
    ·have hcf : isV (leftA k stx.i) [125] = false := by simpa using hc
     rw [hcf] at D93
     have hcx : ¬ isV x.l [125] = true := by rw [← hA.left]; exact hc
     have HA := Lib.hid hA
     have HRX := Lib.hid hRx
     have HCX := Lib.hid hcx
     have HJ := Lib.hid hj
     by_cases hbad : ¬ j = 0 ∧ ¬ isV (leftA k stx.i) [44] = true
     ·obtain ⟨hj0, h44⟩ := hbad
      have hjp' : (0 : Int) < (j : Int) := by omega
      have hfl := hA.must h44 (d := d + 1) (by omega)
      have hRq : R = .error (offV k.s.length x.l, 4) := by rw [← hRx]; exact rits_comma hcx (by omega) (by rw [← hA.left]; exact h44)
      have HFL := Lib.hid hfl
      have HRQ := Lib.hid hRq
      have herr : (mustS k stx [44]).err = 4 := hfl.err
      have hb0 : Below wr.heap.size wr wr := Below.refl _ _
      clear hrx hA hRx hcx hj hc hcf hfl hRq h44
      go_wp2_with (first | (go_at_call 29; ((with_reducible refine D93.out.mono ?_)); rintro e w5 ⟨rfl, hb5⟩; have h5 := hM.below hb5; have DM : Hid (Calls Tryz.prog 54 #[.pointer (some ⟨B, 0, none⟩), .string ⟨#[44]⟩] w5 (fun e w' => e = .returned (.tuple #[]) ∧ RM w' B k vn' vs' ncs' lab' (mustS k stx [44]) ∧ PStep w5 w' (RF B vn' vs' lab') (RF B vn' vs' lab'))) := pmust_any h5 HB.out.toRB (by omega) [44] (by intro y hy; simp at hy; omega)) | (go_at_call 54; ((with_reducible refine DM.out.mono ?_)); rintro e w6 ⟨rfl, h6, hb6⟩; have k86 : w6.cell? ⟨B, 8, none⟩ = some (.int .i64 4) := (by have := h6.c8; rw [show ((parC k vn' vs' (mustS k stx [44]))[8]) = Value.int .i64 (((mustS k stx [44]).err : Nat) : Int) from rfl, herr] at this; exact this)))
      go_roundw
      case rel => exact ⟨j + 1, _, _, _, _, _, i64e (by omega), h6, (hPx.trans (PStep.of_below hb5)).trans hb6, Lib.hid (.inr ⟨_, HFL.out, HRQ.out⟩)⟩
      case measure => first | (simp [intOf]; done) | (simp [intOf]; omega)
     ·have hjc : x.items.length = 0 ∨ isV x.l [44] = true := by
       rw [← hA.left]
       by_cases h0 : j = 0
       ·left; omega
       ·right
        by_cases h4 : isV (leftA k stx.i) [44] = true
        ·exact h4
        ·exact absurd ⟨h0, h4⟩ hbad
      have HJC := Lib.hid hjc
      have hj44 : ¬ j = 0 → isV (leftA k stx.i) [44] = true := by
       intro h0
       rcases hjc with e | e
       ·omega
       ·rw [hA.left]; exact e
      have HJ44 := Lib.hid hj44
      have he0 := hA.err
      clear hrx hA hRx hcx hj hc hcf hbad hjc hj44
      have hst : ∃ w7 s1, True := ⟨wr, stx, trivial⟩
      clear hst
      rcases Nat.eq_zero_or_pos j with rfl | hjp
      ·go_upto_region 8 with (go_at_call 29; ((with_reducible refine D93.out.mono ?_)); rintro e w7 ⟨rfl, hb5⟩; have h7 := hM.below hb5; have k85 := h7.e0 he0)
       have hp7 := PStep.of_below (F := RF B vn' vs' lab') hb5
       have hA1 : RAt k N S kd s { x with l := if x.items.length = 0 then x.l else x.l.drop 1 } stx := by rw [if_pos HJ.out]; exact HA.out
       obtain ⟨s1, hs1⟩ : ∃ s1, stx = s1 := ⟨_, rfl⟩
       have h7' := h7
       rw [hs1] at h7' hA1
       clear h7 hs1 k85 D93
       all_goals 
        have hNX : R = match entV k.s.length g d (N.length + 1) (S.length + 1) S.length { x with l := if x.items.length = 0 then x.l else x.l.drop 1 } 0 with
          | .error e => .error e
          | .ok x' => ritemsV k.s.length g true S.length d (N.length + 1) (S.length + 1) x' := by
         rw [← HRX.out, rits_goE HCX.out HJC.out, HJ.out]
        have hrne : entV k.s.length g d (N.length + 1) (S.length + 1) S.length { x with l := if x.items.length = 0 then x.l else x.l.drop 1 } 0 ≠ .error (0, 0) := by
         intro e; apply HNE.out; rw [hNX, e]
        have DV := Lib.hid (HV.out g (by omega) w7 B k vn' vs' ncs' lab' s1 N S s kd _ 0 d h7' HB.out hA1 HJ.out hd hrne)
        obtain ⟨rv, hrv⟩ : ∃ rv, entV k.s.length g d (N.length + 1) (S.length + 1) S.length { x with l := if x.items.length = 0 then x.l else x.l.drop 1 } 0 = rv := ⟨_, rfl⟩
        rw [hrv] at DV hNX
        have HRV := Lib.hid hrv
        have z0 : ((0 : Nat) : Int) = 0 := rfl
        rw [z0] at DV
        clear z0
        have HA1 := Lib.hid hA1
        clear hrv hrne hA1
        cases rv with
        | error q =>
         have HQ := Lib.hid hNX
         clear hNX
         go_wp2_with (go_at_call 55; ((with_reducible refine DV.out.mono ?_)); rintro e w8 ⟨rfl, st8, ⟨vn8, vs8, ncs8, lab8, h8, hP8⟩, hFl8⟩)
         go_roundw
         case rel => exact ⟨0 + 1, _, _, _, _, _, i64e (by omega), h8, (hPx.trans hp7).trans hP8, Lib.hid (.inr ⟨q, hFl8, HQ.out⟩)⟩
         case measure => first | (simp [intOf]; done) | (simp [intOf]; omega)
        | ok x2 =>
         have HQ := Lib.hid hNX
         clear hNX
         go_wp2_with (go_at_call 55; ((with_reducible refine DV.out.mono ?_)); rintro e w8 ⟨rfl, st8, ⟨vn8, vs8, ncs8, lab8, h8, hP8⟩, hA8⟩)
         go_roundw
         case rel => exact ⟨0 + 1, _, _, _, _, _, i64e (by omega), h8, (hPx.trans hp7).trans hP8, Lib.hid (.inl ⟨_, g, by omega, hA8, by rw [ent_len HRV.out, HJ.out], HQ.out.symm⟩)⟩
         case measure => first | (simp [intOf]; done) | (simp [intOf]; omega)
      ·have hjp' : (0 : Int) < (j : Int) := by omega
       have h44 := HJ44.out (by omega)
       have hms : mustS k stx [44] = { stx with i := stx.i + 1 } := by unfold mustS; rw [if_pos h44]
       have HMS := Lib.hid hms
       clear hms
       go_upto_region 8 with (first | (go_at_call 29; ((with_reducible refine D93.out.mono ?_)); rintro e w5 ⟨rfl, hb5⟩; have h5 := hM.below hb5; have DM : Hid (Calls Tryz.prog 54 #[.pointer (some ⟨B, 0, none⟩), .string ⟨#[44]⟩] w5 (fun e w' => e = .returned (.tuple #[]) ∧ RM w' B k vn' vs' ncs' lab' (mustS k stx [44]) ∧ PStep w5 w' (RF B vn' vs' lab') (RF B vn' vs' lab'))) := pmust_any h5 HB.out.toRB (by omega) [44] (by intro y hy; simp at hy; omega)) | (go_at_call 54; ((with_reducible refine DM.out.mono ?_)); rintro e w7 ⟨rfl, h7, hb6⟩; have k85 := h7.e0 (by rw [HMS.out]; exact he0)))
       have hp7 := (PStep.of_below (F := RF B vn' vs' lab') hb5).trans hb6
       have hA1 : RAt k N S kd s { x with l := if x.items.length = 0 then x.l else x.l.drop 1 } (mustS k stx [44]) := by rw [if_neg (by rw [HJ.out]; omega), HMS.out]; exact HA.out.comma h44
       obtain ⟨s1, hs1⟩ : ∃ s1, mustS k stx [44] = s1 := ⟨_, rfl⟩
       have h7' := h7
       rw [hs1] at h7' hA1
       clear h7 hs1 k85 D93 DM h5 HMS h44 hb6
       all_goals 
        have hNX : R = match entV k.s.length g d (N.length + 1) (S.length + 1) S.length { x with l := if x.items.length = 0 then x.l else x.l.drop 1 } j with
          | .error e => .error e
          | .ok x' => ritemsV k.s.length g true S.length d (N.length + 1) (S.length + 1) x' := by
         rw [← HRX.out, rits_goE HCX.out HJC.out, HJ.out]
        have hrne : entV k.s.length g d (N.length + 1) (S.length + 1) S.length { x with l := if x.items.length = 0 then x.l else x.l.drop 1 } j ≠ .error (0, 0) := by
         intro e; apply HNE.out; rw [hNX, e]
        have DV := Lib.hid (HV.out g (by omega) w7 B k vn' vs' ncs' lab' s1 N S s kd _ j d h7' HB.out hA1 HJ.out hd hrne)
        obtain ⟨rv, hrv⟩ : ∃ rv, entV k.s.length g d (N.length + 1) (S.length + 1) S.length { x with l := if x.items.length = 0 then x.l else x.l.drop 1 } j = rv := ⟨_, rfl⟩
        rw [hrv] at DV hNX
        have HRV := Lib.hid hrv
        have HA1 := Lib.hid hA1
        clear hrv hrne hA1
        cases rv with
        | error q =>
         have HQ := Lib.hid hNX
         clear hNX
         go_wp2_with (go_at_call 55; ((with_reducible refine DV.out.mono ?_)); rintro e w8 ⟨rfl, st8, ⟨vn8, vs8, ncs8, lab8, h8, hP8⟩, hFl8⟩)
         go_roundw
         case rel => exact ⟨j + 1, _, _, _, _, _, i64e (by omega), h8, (hPx.trans hp7).trans hP8, Lib.hid (.inr ⟨q, hFl8, HQ.out⟩)⟩
         case measure => first | (simp [intOf]; done) | (simp [intOf]; omega)
        | ok x2 =>
         have HQ := Lib.hid hNX
         clear hNX
         go_wp2_with (go_at_call 55; ((with_reducible refine DV.out.mono ?_)); rintro e w8 ⟨rfl, st8, ⟨vn8, vs8, ncs8, lab8, h8, hP8⟩, hA8⟩)
         go_roundw
         case rel => exact ⟨j + 1, _, _, _, _, _, i64e (by omega), h8, (hPx.trans hp7).trans hP8, Lib.hid (.inl ⟨_, g, by omega, hA8, by rw [ent_len HRV.out, HJ.out], HQ.out.symm⟩)⟩
         case measure => first | (simp [intOf]; done) | (simp [intOf]; omega)
  ·have he : stx.err ≠ 0 := by rw [hfl.err]; exact hfl.ne
   have he' : ((stx.err : Int) == 0) = false := by simp; omega
   have m8 : wr.cell? ⟨B, 8, none⟩ = some (.int .i64 (stx.err : Int)) := hM.c8
   have hfi := hfl.i
   have HFL := Lib.hid hfl
   have HRQ := Lib.hid hRq
   clear hrx hfl hRq he
   go_wp2_with (fail)
   go_end0
   have h6 := hM.setI (stx.i + 1)
   rw [show ((stx.i + 1 : Nat) : Int) = (stx.i : Int) + 1 by omega] at h6
   refine ⟨rfl, ?_⟩
   rw [HRQ.out]
   refine ⟨_, RD.of h6 (hPx.trans (pstep_set (.inl rfl) 1 _)), ⟨HFL.out.err, HFL.out.ne, HFL.out.at_, HFL.out.nod, HFL.out.spn, HFL.out.nl, HFL.out.sl, ?_⟩⟩
   show stx.i + 1 ≤ _
   omega
end Go.Proofs.YtbdnamcjhndpjaaGreatDoor
