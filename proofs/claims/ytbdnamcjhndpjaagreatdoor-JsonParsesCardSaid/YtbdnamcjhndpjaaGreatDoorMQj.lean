/- The walk of next of the reference's lexer. -/
import Derived.Test.YtbdnamcjhndpjaaGreatDoorMQi
import Derived.Test.YtbdnamcjhndpjaaGreatDoorMQh
import Derived.Test.YtbdnamcjhndpjaaGreatDoorMH
import Derived.Deep.DeepCutAuto
import Derived.Deep.RegionHeld3
set_option linter.unusedVariables false
set_option linter.unusedSimpArgs false
set_option linter.defProp false
set_option linter.constructorNameAsVariable false
namespace Go.Proofs.YtbdnamcjhndpjaaGreatDoor
open Go.RowKit
def stepV (s : List Nat) (st : LSt) (l : List Nat) : Except (Nat × Nat) (Nat × List JTok × List JNote) :=
 if isBlank (l.getD 0 0) then .ok (1, st.toks, st.notes) else if commV l = 0 then tokO st (tokV l) else comO s st (commV l)
theorem comm_ne {l : List Nat} (h : hasP [47, 47] l = true ∨ hasP [47, 42] l = true) : commV l ≠ 0 := by
 intro h0
 unfold commV at h0
 by_cases h1 : hasP [47, 47] l = true
 ·rw [if_pos h1] at h0
  obtain ⟨hl, g0, g1⟩ := hasP2_len h1
  cases hi : idxB 10 l with
  | none => rw [hi] at h0; simp only at h0; omega
  | some n =>
   rw [hi] at h0
   simp only at h0
   obtain ⟨n1, n2⟩ := idxB_at hi
   have : n = 0 := by omega
   subst this
   omega
 ·rw [if_neg h1, if_pos (h.resolve_left h1)] at h0
  cases hi : idxP 42 47 (l.drop 2) with
  | none => rw [hi] at h0; simp at h0
  | some n => rw [hi] at h0; simp only at h0; omega
theorem comm_no {l : List Nat} (h1 : hasP [47, 47] l = false) (h2 : hasP [47, 42] l = false) : commV l = 0 := by
 unfold commV
 rw [if_neg (by rw [h1]; simp), if_neg (by rw [h2]; simp)]
theorem blank_cases (c : Nat) : (c = 9 ∧ isBlank c = true) ∨ (c = 10 ∧ isBlank c = true) ∨ (c = 13 ∧ isBlank c = true) ∨ (c = 32 ∧ isBlank c = true) ∨
  (isBlank c = false ∧ ((c : Int) == 9) = false ∧ ((c : Int) == 10) = false ∧ ((c : Int) == 13) = false ∧ ((c : Int) == 32) = false) := by
 unfold isBlank
 by_cases h1 : c = 9
 ·simp [h1]
 by_cases h2 : c = 10
 ·simp [h2]
 by_cases h3 : c = 13
 ·simp [h3]
 by_cases h4 : c = 32
 ·simp [h4]
 simp [h1, h2, h3, h4]
 omega
theorem punct_cases (c : Nat) : (((c : Int) == 123) = true ∧ isPunct c = true) ∨ (((c : Int) == 123) = false ∧ ((c : Int) == 125) = true ∧ isPunct c = true) ∨ (((c : Int) == 123) = false ∧ ((c : Int) == 125) = false ∧ ((c : Int) == 91) = true ∧ isPunct c = true) ∨
  (((c : Int) == 123) = false ∧ ((c : Int) == 125) = false ∧ ((c : Int) == 91) = false ∧ ((c : Int) == 93) = true ∧ isPunct c = true) ∨ (((c : Int) == 123) = false ∧ ((c : Int) == 125) = false ∧ ((c : Int) == 91) = false ∧ ((c : Int) == 93) = false ∧ ((c : Int) == 58) = true ∧ isPunct c = true) ∨
  (((c : Int) == 123) = false ∧ ((c : Int) == 125) = false ∧ ((c : Int) == 91) = false ∧ ((c : Int) == 93) = false ∧ ((c : Int) == 58) = false ∧ ((c : Int) == 44) = true ∧ isPunct c = true) ∨
  (((c : Int) == 123) = false ∧ ((c : Int) == 125) = false ∧ ((c : Int) == 91) = false ∧ ((c : Int) == 93) = false ∧ ((c : Int) == 58) = false ∧ ((c : Int) == 44) = false ∧ isPunct c = false) := by
 unfold isPunct
 by_cases h1 : c = 123
 ·simp [h1]
 by_cases h2 : c = 125
 ·simp [h2]
 by_cases h3 : c = 91
 ·simp [h3]
 by_cases h4 : c = 93
 ·simp [h4]
 by_cases h5 : c = 58
 ·simp [h5]
 by_cases h6 : c = 44
 ·simp [h6]
 simp [h1, h2, h3, h4, h5, h6]
 omega
set_option maxRecDepth 100000 in
set_option maxHeartbeats 8000000 in
theorem lnext_any {w : World} {B g : Nat} {s : List Nat} {vt vn : Value} {st : LSt} (h : LM w B g s vt vn st) (hs : By s) (hB : B ≤ w.heap.size) (he : st.err = 0) (hi : st.i < s.length) (hl : s.length ≤ 65536) (hv : VU (s.drop st.i)) (htk : st.toks.length ≤ 1000000) (htn : st.notes.length ≤ 1000000) :
  Calls Tryz.prog 28 #[.pointer (some ⟨g, 0, none⟩)] w (LexR w B g s (OutS s st (stepV s st (s.drop st.i)))) := by
 rcases byte_at s hs st.i (by omega) with ⟨h1, _⟩ | ⟨c, t, hct, ht, hc, hlt, hg⟩
 ·omega
 obtain ⟨l, hl0⟩ : ∃ l, s.drop st.i = l := ⟨_, rfl⟩
 have HL0 := Lib.hid hl0
 have hlt' : (st.i : Int) < s.length := by omega
 have hgd : (s.drop st.i).getD 0 0 = c := by rw [hct]; rfl
 generalize hoo : OutS s st (stepV s st (s.drop st.i)) = PO
 have HO : Hid (OutS s st (if isBlank c then .ok (1, st.toks, st.notes) else if commV l = 0 then tokO st (tokV l) else comO s st (commV l)) = PO) := by
  show _ = _
  rw [← hoo]
  unfold stepV
  rw [hgd, hl0]
 have hcm : ∀ W, LM W B g s vt vn st → (hasP [47, 47] l = true ∨ hasP [47, 42] l = true) → Hid (Calls Tryz.prog 48 #[.pointer (some ⟨g, 0, none⟩)] W (LexR W B g s (OutS s st (comO s st (commV l))))) := by
  intro W hW hp
  have := lcomm_any hW hs (Nat.le_trans hW.lo (Nat.le_of_lt hW.lt)) he hi hl htn (by rw [hl0]; exact hp)
  rw [hl0] at this
  exact this
 have hsq : ∀ W, LM W B g s vt vn st → (letB c || numB c) = true → Hid (Calls Tryz.prog 52 #[.pointer (some ⟨g, 0, none⟩)] W (LexR W B g s (OutS s st (tokO st (seqV l))))) := by
  intro W hW hp
  have := lseq_any hW hs (Nat.le_trans hW.lo (Nat.le_of_lt hW.lt)) he hi hl htk c t hct hp
  rw [hl0] at this
  exact this
 have htx : c = 34 → ∀ W, LM W B g s vt vn st → Hid (Calls Tryz.prog 49 #[.pointer (some ⟨g, 0, none⟩)] W (LexR W B g s (OutT s st (quotV l)))) := by
  intro h34 W hW
  have hq : Hid (textG (s.length - (st.i + 1)) (s.drop (st.i + 1)) 1 [] = quotV l) := by
   show _ = _
   have h5 := hct
   rw [h34] at h5
   have h6 := quotV_text (t := t) (by rw [← h5]; exact hs.drop _) (by rw [← h5]; exact hv)
   rw [← hl0, h5, h6, ← ht, List.length_drop]
  exact ltext_any hW hs (Nat.le_trans hW.lo (Nat.le_of_lt hW.lt)) he hi (by omega) htk _ hq
 have hta : l.take 1 = [c] := by rw [← hl0, hct]; rfl
 have htv : tokV l = if isPunct c then (⟨1, 0, 1, [c]⟩, 0) else if c = 34 then (⟨2, 0, (quotV l).2.1, (quotV l).1⟩, (quotV l).2.2) else if letB c || numB c then seqV l else (noTok, 4) := by
  unfold tokV
  rw [← hl0, hgd, hl0, hta]
 have HCM := Lib.hid hcm
 have HSQ := Lib.hid hsq
 have HTX := Lib.hid htx
 have HTV := Lib.hid htv
 have D1 := has_h g s [47, 47] hs (by intro c hc; simp at hc; omega) st.i (by omega) (by omega) (by decide) (by decide)
 have D2 := has_h g s [47, 42] hs (by intro c hc; simp at hc; omega) st.i (by omega) (by omega) (by decide) (by decide)
 rw [hl0, ← lit_sl] at D1
 rw [hl0, ← lit_st] at D2
 clear hoo hcm hsq htx htv hct ht hgd hl0 hta hv
 have c0 := h.c0
 have c1 := h.c1
 have hlo := h.lo
 go_enter Tryz.func28, Tryz.ntmps28
 go_upto_region 0 with (fail)
 go_quiet (fail)
 have hL1 := h.drewN nq
 have hb1 : Below B w (w.drewN nq) := Below.drewN' (Below.refl _ _) nq
 clear h c0 c1 hg
 generalize w.drewN nq = W1 at *
 have c0 := hL1.c0
 have c1 := hL1.c1
 rcases blank_cases c with ⟨rfl, hbk⟩ | ⟨rfl, hbk⟩ | ⟨rfl, hbk⟩ | ⟨rfl, hbk⟩ | ⟨hbk, n1, n2, n3, n4⟩
 ·have f1 := hL1.f 1
  have hL3 := hL1.setI (st.i + 1)
  have hb3 := hb1.setCell hlo (p := ⟨g, 1, none⟩) (.int .i64 ((st.i + 1 : Nat) : Int))
  have e1 : ((st.i + 1 : Nat) : Int) = (st.i : Int) + 1 := by omega
  rw [e1] at hL3 hb3
  have HL3 := Lib.hid hL3
  have HB3 := Lib.hid hb3
  have HBK := Lib.hid hbk
  clear e1 hL3 hb3 hbk
  go_wp2_with (fail)
  go_end0
  refine ⟨rfl, _, _, _, HL3.out, ?_, HB3.out⟩
  rw [← HO.out, if_pos HBK.out]
  rfl
 ·have f1 := hL1.f 1
  have hL3 := hL1.setI (st.i + 1)
  have hb3 := hb1.setCell hlo (p := ⟨g, 1, none⟩) (.int .i64 ((st.i + 1 : Nat) : Int))
  have e1 : ((st.i + 1 : Nat) : Int) = (st.i : Int) + 1 := by omega
  rw [e1] at hL3 hb3
  have HL3 := Lib.hid hL3
  have HB3 := Lib.hid hb3
  have HBK := Lib.hid hbk
  clear e1 hL3 hb3 hbk
  go_wp2_with (fail)
  go_end0
  refine ⟨rfl, _, _, _, HL3.out, ?_, HB3.out⟩
  rw [← HO.out, if_pos HBK.out]
  rfl
 ·have f1 := hL1.f 1
  have hL3 := hL1.setI (st.i + 1)
  have hb3 := hb1.setCell hlo (p := ⟨g, 1, none⟩) (.int .i64 ((st.i + 1 : Nat) : Int))
  have e1 : ((st.i + 1 : Nat) : Int) = (st.i : Int) + 1 := by omega
  rw [e1] at hL3 hb3
  have HL3 := Lib.hid hL3
  have HB3 := Lib.hid hb3
  have HBK := Lib.hid hbk
  clear e1 hL3 hb3 hbk
  go_wp2_with (fail)
  go_end0
  refine ⟨rfl, _, _, _, HL3.out, ?_, HB3.out⟩
  rw [← HO.out, if_pos HBK.out]
  rfl
 ·have f1 := hL1.f 1
  have hL3 := hL1.setI (st.i + 1)
  have hb3 := hb1.setCell hlo (p := ⟨g, 1, none⟩) (.int .i64 ((st.i + 1 : Nat) : Int))
  have e1 : ((st.i + 1 : Nat) : Int) = (st.i : Int) + 1 := by omega
  rw [e1] at hL3 hb3
  have HL3 := Lib.hid hL3
  have HB3 := Lib.hid hb3
  have HBK := Lib.hid hbk
  clear e1 hL3 hb3 hbk
  go_wp2_with (fail)
  go_end0
  refine ⟨rfl, _, _, _, HL3.out, ?_, HB3.out⟩
  rw [← HO.out, if_pos HBK.out]
  rfl
 ·have hbk' : ¬ (isBlank c = true) := by rw [hbk]; simp
  have HO2 : Hid (OutS s st (if commV l = 0 then tokO st (tokV l) else comO s st (commV l)) = PO) := by have h := HO.out; rw [if_neg hbk'] at h; exact h
  clear hbk hbk' HO
  obtain ⟨b1, hb1e⟩ : ∃ b, hasP [47, 47] l = b := ⟨_, rfl⟩
  have HB1 := Lib.hid hb1e
  rw [hb1e] at D1
  clear hb1e
  cases b1 with
  | true =>
   have hf := Lib.hid (comm_ne (l := l) (.inl HB1.out))
   go_upto_region 5 with (go_at_call 47; ((with_reducible refine (D1.out _ c0 c1).mono ?_)); rintro e w5 ⟨rfl, n5, rfl⟩)
   have hL5 := hL1.drewN n5
   have hb5 : Below B w (W1.drewN n5) := Below.drewN' hb1 n5
   clear hL1 hb1 c0 c1
   generalize W1.drewN n5 = W5 at *
   have DC := HCM.out W5 hL5 (.inl HB1.out)
   go_wp2_with (go_at_call 48; ((with_reducible refine DC.out.mono ?_)); rintro e w8 ⟨rfl, vt8, vn8, st8, hL8, hP8, hb8⟩)
   go_end0
   refine ⟨rfl, _, _, _, hL8, ?_, hb5.trans hb8⟩
   rw [← HO2.out, if_neg hf.out]
   exact hP8
  | false =>
   obtain ⟨b2, hb2e⟩ : ∃ b, hasP [47, 42] l = b := ⟨_, rfl⟩
   have HB2 := Lib.hid hb2e
   rw [hb2e] at D2
   clear hb2e
   cases b2 with
   | true =>
    have hf := Lib.hid (comm_ne (l := l) (.inr HB2.out))
    go_upto_region 5 with (first | (go_at_call 47; ((with_reducible refine (D1.out _ c0 c1).mono ?_)); rintro e w5 ⟨rfl, n5, rfl⟩; have hL5 := hL1.drewN n5; have c0' := hL5.c0; have c1' := hL5.c1) | (go_at_call 47; ((with_reducible refine (D2.out _ c0' c1').mono ?_)); rintro e w6 ⟨rfl, n6, rfl⟩))
    have hL6 := hL1.drewN (n5 + n6)
    have hb6 : Below B w (W1.drewN (n5 + n6)) := Below.drewN' hb1 (n5 + n6)
    clear hL1 hb1 c0 c1 hL5 c0' c1'
    generalize W1.drewN (n5 + n6) = W5 at *
    have DC := HCM.out W5 hL6 (.inr HB2.out)
    go_wp2_with (go_at_call 48; ((with_reducible refine DC.out.mono ?_)); rintro e w8 ⟨rfl, vt8, vn8, st8, hL8, hP8, hb8⟩)
    go_end0
    refine ⟨rfl, _, _, _, hL8, ?_, hb6.trans hb8⟩
    rw [← HO2.out, if_neg hf.out]
    exact hP8
   | false =>
    have hf := comm_no HB1.out HB2.out
    have HO3 : Hid (OutS s st (tokO st (if isPunct c then (⟨1, 0, 1, [c]⟩, 0) else if c = 34 then (⟨2, 0, (quotV l).2.1, (quotV l).1⟩, (quotV l).2.2) else if letB c || numB c then seqV l else (noTok, 4))) = PO) := by
     have h := HO2.out; rw [if_pos hf, HTV.out] at h; exact h
    clear hf HTV HCM HO2
    go_upto_region 6 with (first | (go_at_call 47; ((with_reducible refine (D1.out _ c0 c1).mono ?_)); rintro e w5 ⟨rfl, n5, rfl⟩; have hL5 := hL1.drewN n5; have c0' := hL5.c0; have c1' := hL5.c1) | (go_at_call 47; ((with_reducible refine (D2.out _ c0' c1').mono ?_)); rintro e w6 ⟨rfl, n6, rfl⟩))
    have hL6 := hL1.drewN (n5 + n6)
    have hb6 : Below B w (W1.drewN (n5 + n6)) := Below.drewN' hb1 (n5 + n6)
    clear hL1 hb1 c0 c1 hL5 c0' c1' D1 D2 n1 n2 n3 n4
    generalize W1.drewN (n5 + n6) = W3 at *
    obtain ⟨pb, hpb⟩ : ∃ b, Hid (isPunct c = b) := ⟨_, Lib.hid rfl⟩
    go_cut [49] (fun v wx => v = .bool pb ∧ W3 = wx)
    case first =>
     rcases punct_cases c with ⟨p1, hp⟩ | ⟨p1, p2, hp⟩ | ⟨p1, p2, p3, hp⟩ | ⟨p1, p2, p3, p4, hp⟩ | ⟨p1, p2, p3, p4, p5, hp⟩ | ⟨p1, p2, p3, p4, p5, p6, hp⟩ | ⟨p1, p2, p3, p4, p5, p6, hp⟩
     all_goals
      have hpp : pb = _ := hpb.out.symm.trans hp
      subst hpp
      clear hp
      go_wp2_with fail
      go_meet
      exact ⟨rfl, rfl⟩
    case rest =>
     obtain ⟨rfl, rfl⟩ := hcut
     have c0 := hL6.c0
     have c1 := hL6.c1
     cases pb with
     | true =>
      have HO4 : Hid (OutS s st (tokO st (⟨1, 0, 1, [c]⟩, 0)) = PO) := by have h := HO3.out; rw [if_pos hpb.out] at h; exact h
      have f1 := hL6.f 1
      have hL7 := hL6.setI (st.i + 1)
      have hb7 := hb6.setCell hlo (p := ⟨g, 1, none⟩) (.int .i64 ((st.i + 1 : Nat) : Int))
      have e1 : ((st.i + 1 : Nat) : Int) = (st.i : Int) + 1 := by omega
      rw [e1] at hL7 hb7
      clear HO3 hpb HSQ HTX
      go_upto_region 8 with (fail)
      clear c0 c1 f1
      generalize (W3.setCell ⟨g, 1, none⟩ (.int .i64 ((st.i : Int) + 1))) = W4 at *
      have hB4 : B ≤ W4.heap.size := Nat.le_trans hlo (Nat.le_of_lt hL7.lt)
      have hL5 := hL7.below ((Below.refl W4.heap.size W4).alloc (Nat.le_refl _) (.cells #[.int .u8 (c : Int)] 5))
      have hb5 := hb7.alloc hB4 (.cells #[.int .u8 (c : Int)] 5)
      have hcv : (convert 103 9 (.slice (some ⟨W4.heap.size, 0, none⟩) 1 1)).run Tryz.prog (W4.alloc (.cells #[.int .u8 (c : Int)] 5)) = .ok (.string (mks [c])) (W4.alloc (.cells #[.int .u8 (c : Int)] 5)) := conv_cells [c] W4
      have hcv2 : (convert 103 9 (.slice (some ⟨W4.heap.size, 0, none⟩) 1 1)).run Tryz.prog (W4.alloc (.cells #[.int .u8 (c : Int)] 5)).drew = .ok (.string (mks [c])) (W4.alloc (.cells #[.int .u8 (c : Int)] 5)).drew := conv_cells [c] W4.drew
      have hwr : IntKind.i64.wrap (st.i : Int) = (st.i : Int) := IntWalk.i64_in _ (by omega)
      have c0 := hL7.c0
      have c1 : W4.cell? ⟨g, 1, none⟩ = some (.int .i64 ((st.i : Int) + 1)) := hL7.c1
      have c2 := hL7.c2
      have d0 := hL5.c0
      have d1 : (W4.alloc (.cells #[.int .u8 (c : Int)] 5)).cell? ⟨g, 1, none⟩ = some (.int .i64 ((st.i : Int) + 1)) := hL5.c1
      have d2 := hL5.c2
      have e2 := (hL5.par.alloc (.cells #[.int .i64 1, .int .i64 (st.i : Int), .int .i64 ((st.i : Int) + 1), .string (mks [c])] 62)).cell' (i := 2) rfl
      have hTd : (W4.alloc (.cells #[.int .u8 (c : Int)] 5)).drew.ownsRow B 62 4 _ st.toks.length (toksC st.toks) := hL5.tok; have hBW : B ≤ (W4.alloc (.cells #[.int .u8 (c : Int)] 5)).heap.size := Nat.le_trans hL5.lo (Nat.le_of_lt hL5.lt); rw [hload_eq 55 (.tmp 82)]; rw [hconv_eq 103 9 (.tmp 94)]; go_region_held3 (fun w' => w'.cell? ⟨g, 0, none⟩ = some (.string (mks s)) ∧ w'.cell? ⟨g, 1, none⟩ = some (.int .i64 ((st.i : Int) + 1))) (first | exact ⟨by assumption, by assumption⟩ | exact ⟨LM.c0 (by assumption), LM.c1 (by assumption)⟩ | go_keep) (first | (refine step_apS rfl (.tmp 83) (.tmp 97) 55 rfl B 62 _ 4 _ Tryz.underlying55 Tryz.infoS62 rfl (by decide) _ st.toks.length (toksC st.toks) rfl (hTd.alloc _) ⟨W4.heap.size + 1, 0, none⟩ _ [.int .i64 1, .int .i64 (st.i : Int), .int .i64 ((st.i : Int) + 1), .string (mks [c])] rfl rfl (cells_at _ _ _ _ (by first | rfl | simp)) rfl (by unfold maxLen; omega) (by omega) (by simp; omega) ?_; intro v3 w3 hown3 hgr3 hat3; obtain ⟨A3, c3, rfl, hc3, hm3⟩ := own_slice hown3; obtain ⟨P3, hL3, hB3⟩ := LM.pushT hL5 ⟨1, st.i, st.i + 1, [c]⟩ _ hown3 hgr3 hat3; have p0 := P3.cell' (i := 0) rfl; have p1 := P3.cell' (i := 1) rfl; have p3 := P3.cell' (i := 2) rfl; have q3 := P3.frozen 2; clear hgr3 hat3 hown3))
      all_goals
       go_wp2_with (fail)
       go_end0
       refine ⟨rfl, _, _, _, hL3, ?_, hb5.trans hB3⟩
       rw [← HO4.out]
       rfl
     | false =>
      have HO4 : Hid (OutS s st (tokO st (if c = 34 then (⟨2, 0, (quotV l).2.1, (quotV l).1⟩, (quotV l).2.2) else if letB c || numB c then seqV l else (noTok, 4))) = PO) := by
       have h := HO3.out; rw [if_neg (by rw [hpb.out]; simp)] at h; exact h
      clear HO3 hpb
      by_cases h34 : c = 34
      ·have h34' : ((c : Int) == 34) = true := by simp; omega
       have HO5 : Hid (OutS s st (tokO st (⟨2, 0, (quotV l).2.1, (quotV l).1⟩, (quotV l).2.2)) = PO) := by have h := HO4.out; rw [if_pos h34] at h; exact h
       have DT := HTX.out h34 W3 hL6
       clear h34 HO4
       go_wp2_with (go_at_call 49; ((with_reducible refine DT.out.mono ?_)); rintro e w8 ⟨rfl, vt8, vn8, st8, hL8, hP8, hb8⟩)
       go_end0
       refine ⟨rfl, _, _, _, hL8, ?_, hb6.trans hb8⟩
       rw [← HO5.out]
       rcases hP8 with ⟨q1, q2⟩ | ⟨q1, q2, q3, q4⟩
       ·unfold tokO; rw [if_pos q1]; exact q2
       ·unfold tokO; rw [if_neg q1]; exact ⟨q1, q2, q3, q4⟩
      ·have h34' : ((c : Int) == 34) = false := by simp; omega
       have HO5 : Hid (OutS s st (tokO st (if letB c || numB c then seqV l else (noTok, 4))) = PO) := by have h := HO4.out; rw [if_neg h34] at h; exact h
       have DL := isL_h c hc
       have DN := isN_h c hc
       clear h34 HO4 HTX
       cases hln : (letB c || numB c) with
       | true =>
        have HO6 : Hid (OutS s st (tokO st (seqV l)) = PO) := by have h := HO5.out; rw [if_pos hln] at h; exact h
        have DS := HSQ.out W3 hL6 hln
        clear HO5
        cases hlb : letB c
        all_goals
         rw [hlb] at DL hln
         simp only [Bool.false_or, Bool.true_or] at hln
         try rw [hln] at DN
         clear hlb hln
         go_wp2_with (first | (go_at_call 50; ((with_reducible refine (DL.out _).mono ?_)); rintro e wn ⟨rfl, rfl⟩) | (go_at_call 51; ((with_reducible refine (DN.out _).mono ?_)); rintro e wn ⟨rfl, rfl⟩) | (go_at_call 52; ((with_reducible refine DS.out.mono ?_)); rintro e w8 ⟨rfl, vt8, vn8, st8, hL8, hP8, hb8⟩))
         go_end0
         refine ⟨rfl, _, _, _, hL8, ?_, hb6.trans hb8⟩
         rw [← HO6.out]
         exact hP8
       | false =>
        have HO6 : Hid (OutS s st (tokO st (noTok, 4)) = PO) := by have h := HO5.out; rw [if_neg (by rw [hln]; simp)] at h; exact h
        rw [Bool.or_eq_false_iff] at hln
        rw [hln.1] at DL
        rw [hln.2] at DN
        have D4 := lfail_h hL6 (Nat.le_trans hlo (Nat.le_of_lt hL6.lt)) 4 4 rfl st.i
        clear hln HO5 HSQ
        go_wp2_with (first | (go_at_call 50; ((with_reducible refine (DL.out _).mono ?_)); rintro e wn ⟨rfl, rfl⟩) | (go_at_call 51; ((with_reducible refine (DN.out _).mono ?_)); rintro e wn ⟨rfl, rfl⟩) | (go_at_call 53; ((with_reducible refine D4.out.mono ?_)); rintro e w8 ⟨rfl, hL8, hb8⟩))
        go_end0
        refine ⟨rfl, _, _, _, hL8, ?_, hb6.trans hb8⟩
        rw [← HO6.out]
        exact ⟨by decide, rfl, rfl, by show st.i ≤ _; omega⟩
end Go.Proofs.YtbdnamcjhndpjaaGreatDoor
