/- The walk of comment of the reference's lexer. -/
import Derived.Test.YtbdnamcjhndpjaaGreatDoorMQh
import Derived.Deep.RegionHeld3
set_option linter.unusedVariables false
set_option linter.unusedSimpArgs false
set_option linter.defProp false
set_option linter.constructorNameAsVariable false
namespace Go.Proofs.YtbdnamcjhndpjaaGreatDoor
open Go.RowKit
def hload (t : TypeId) (x : Operand) : Op := .load t x
@[go_sem] theorem hload_is (t : TypeId) (x : Operand) : hload t x = .load t x := rfl
theorem hload_eq (t : TypeId) (x : Operand) : Op.load t x = hload t x := rfl
def hconv (s t : TypeId) (x : Operand) : Op := .convert s t x
@[go_sem] theorem hconv_is (s t : TypeId) (x : Operand) : hconv s t x = .convert s t x := rfl
theorem hconv_eq (s t : TypeId) (x : Operand) : Op.convert s t x = hconv s t x := rfl
def comO (s : List Nat) (st : LSt) (n : Int) : Except (Nat × Nat) (Nat × List JTok × List JNote) :=
 if n < 0 then .error (st.i, 4) else .ok (n.toNat, st.toks, st.notes ++ [⟨st.i, st.i + n.toNat, (s.drop st.i).take n.toNat⟩])
theorem has_h (g : Nat) (s p : List Nat) (hs : By s) (hp : By p) (i : Nat) (hi : i ≤ 4294967296) (hl : s.length ≤ 4294967296) (hpl : p.length ≤ 100) (hp1 : 1 ≤ p.length) : Hid (∀ w, w.cell? ⟨g, 0, none⟩ = some (.string (mks s)) → w.cell? ⟨g, 1, none⟩ = some (.int .i64 (i : Int)) →
  Calls Tryz.prog 47 #[.pointer (some ⟨g, 0, none⟩), .string (mks p)] w (QuietR w (.bool (hasP p (s.drop i))))) := fun w c0 c1 => has_any w g s p hs hp i hi hl hpl hp1 c0 c1
theorem lit_sl : (ByteArray.mk #[47, 47] : ByteArray) = mks [47, 47] := by simp [mks]
theorem lit_st : (ByteArray.mk #[47, 42] : ByteArray) = mks [47, 42] := by simp [mks]
theorem lit_en : (ByteArray.mk #[42, 47] : ByteArray) = mks [42, 47] := by simp [mks]
theorem idxB_step {l : List Nat} {k N : Nat} (h : (match idxB 10 (l.drop k) with | some n => k + n | none => l.length) = N) (hk : k ≤ l.length) :
  (k = l.length ∧ k = N) ∨ (∃ x, l[k]? = some x ∧ x = 10 ∧ k = N) ∨ (∃ x, l[k]? = some x ∧ x ≠ 10 ∧ k < l.length ∧ (match idxB 10 (l.drop (k + 1)) with | some n => k + 1 + n | none => l.length) = N) := by
 by_cases hlt : k < l.length
 ·obtain ⟨x, hx⟩ : ∃ x, l[k]? = some x := ⟨_, List.getElem?_eq_getElem hlt⟩
  rw [drop_cons hx, idxB] at h
  by_cases h10 : x = 10
  ·rw [if_pos h10] at h
   exact .inr (.inl ⟨x, hx, h10, by simpa using h⟩)
  ·rw [if_neg h10] at h
   refine .inr (.inr ⟨x, hx, h10, hlt, ?_⟩)
   cases hi : idxB 10 (l.drop (k + 1)) with
   | none => rw [hi] at h; exact h
   | some n => rw [hi] at h; have h2 : k + (n + 1) = N := h; show k + 1 + n = N; omega
 ·have : k = l.length := by omega
  subst this
  rw [List.drop_length] at h
  exact .inl ⟨rfl, h⟩
theorem idxP_step {l : List Nat} {k : Nat} {o : Option Nat} (h : (idxP 42 47 (l.drop k)).map (k + ·) = o) (hk : k ≤ l.length) :
  (k = l.length ∧ o = none) ∨ (k < l.length ∧ hasP [42, 47] (l.drop k) = true ∧ o = some k ∧ k + 2 ≤ l.length) ∨ (k < l.length ∧ hasP [42, 47] (l.drop k) = false ∧ (idxP 42 47 (l.drop (k + 1))).map (k + 1 + ·) = o) := by
 by_cases hlt : k < l.length
 ·obtain ⟨x, hx⟩ : ∃ x, l[k]? = some x := ⟨_, List.getElem?_eq_getElem hlt⟩
  have hd := drop_cons hx
  rw [hd, idxP] at h
  by_cases hc : x = 42 ∧ (l.drop (k + 1)).head? = some 47
  ·rw [if_pos hc] at h
   obtain ⟨y, hy⟩ : ∃ t, l.drop (k + 1) = 47 :: t := by
    cases h2 : l.drop (k + 1) with
    | nil => rw [h2] at hc; simp at hc
    | cons a t => rw [h2] at hc; simp at hc; exact ⟨t, by rw [hc.2]⟩
   refine .inr (.inl ⟨hlt, ?_, by simpa using h.symm, ?_⟩)
   ·rw [hd, hy, hc.1]; simp [hasP]
   ·have := congrArg List.length hy
    rw [List.length_drop, List.length_cons] at this
    omega
  ·rw [if_neg hc] at h
   refine .inr (.inr ⟨hlt, ?_, ?_⟩)
   ·rw [hd]
    unfold hasP
    rw [decide_eq_false_iff_not]
    intro he
    apply hc
    cases h2 : l.drop (k + 1) with
    | nil => rw [h2] at he; simp at he
    | cons a t => rw [h2] at he; simp at he; exact ⟨he.1, by rw [he.2]; rfl⟩
   ·rw [← h]
    cases idxP 42 47 (l.drop (k + 1)) with
    | none => rfl
    | some n => simp; omega
 ·have : k = l.length := by omega
  subst this
  rw [List.drop_length] at h
  exact .inl ⟨rfl, by rw [← h]; rfl⟩
theorem quiet_left2 {P : Program} {f : FuncId} {args : Array Value} {w : World} {n : Nat} {v : Value}
  (h : Calls P f args (w.drewN n) (QuietR (w.drewN n) v)) : Calls P f args (w.drewN n) fun e w' => e = .returned v ∧ ∃ m, w' = w.drewN m :=
 h.mono fun _ _ ⟨he, m, hm⟩ => ⟨he, by subst hm; exact q2 _ _ _⟩
theorem byte_of {s : List Nat} (hs : By s) {i x : Nat} (h : s[i]? = some x) : x < 256 ∧ ∃ hlt : i < s.length, ((mks s)[i]'(by rw [size_mks]; exact hlt)).toNat = x :=
 ⟨hs.get h, (List.getElem?_eq_some_iff.1 h).1, get_mks h (hs.get h) _⟩
theorem comm_line {l : List Nat} {N : Nat} (h1 : hasP [47, 47] l = true) (h : (match idxB 10 l with | some n => n | none => l.length) = N) : commV l = (N : Int) := by
 unfold commV
 rw [if_pos h1, ← h]
 cases idxB 10 l <;> rfl
def comB (o : Option Nat) : Int := match o with | some k => ((k + 2 : Nat) : Int) | none => -1
theorem comm_block {l : List Nat} {o : Option Nat} (h1 : hasP [47, 47] l = false) (h2 : hasP [47, 42] l = true) (h : (idxP 42 47 (l.drop 2)).map (2 + ·) = o) : commV l = comB o := by
 unfold commV
 rw [if_neg (by rw [h1]; simp), if_pos h2, ← h]
 cases idxP 42 47 (l.drop 2) with
 | none => rfl
 | some n => simp [comB]; omega
set_option maxRecDepth 100000 in
set_option maxHeartbeats 8000000 in
theorem lcomm_any {w : World} {B g : Nat} {s : List Nat} {vt vn : Value} {st : LSt} (h : LM w B g s vt vn st) (hs : By s) (hB : B ≤ w.heap.size) (he : st.err = 0) (hi : st.i < s.length) (hl : s.length ≤ 65536) (htk : st.notes.length ≤ 1000000)
  (hp : hasP [47, 47] (s.drop st.i) = true ∨ hasP [47, 42] (s.drop st.i) = true) :
  Calls Tryz.prog 48 #[.pointer (some ⟨g, 0, none⟩)] w (LexR w B g s (OutS s st (comO s st (commV (s.drop st.i))))) := by
 obtain ⟨l, hl0⟩ : ∃ l, s.drop st.i = l := ⟨_, rfl⟩
 have hdr : ∀ k, s.drop (st.i + k) = l.drop k := fun k => by rw [← hl0, List.drop_drop]
 have HDR := Lib.hid hdr
 have hll : l.length = s.length - st.i := by rw [← hl0, List.length_drop]
 have HL0 := Lib.hid hl0
 have D1 := has_h g s [47, 47] hs (by intro c hc; simp at hc; omega) st.i (by omega) (by omega) (by decide) (by decide)
 rw [hl0] at hp D1 ⊢
 rw [← lit_sl] at D1
 clear hdr hl0
 have hco : comO s st (commV l) = if commV l < 0 then .error (st.i, 4) else .ok ((commV l).toNat, st.toks, st.notes ++ [⟨st.i, st.i + (commV l).toNat, l.take (commV l).toNat⟩]) := by unfold comO; rw [HL0.out]
 rw [hco]
 clear hco
 obtain ⟨cv, hcv⟩ : ∃ x, commV l = x := ⟨_, rfl⟩
 have HCV := Lib.hid hcv
 rw [hcv]
 generalize hoo : OutS s st (if cv < 0 then .error (st.i, 4) else .ok (cv.toNat, st.toks, st.notes ++ [⟨st.i, st.i + cv.toNat, l.take cv.toNat⟩])) = PO
 have HO := Lib.hid hoo
 clear hcv hoo
 have c0 := h.c0
 have c1 := h.c1
 have hlo := h.lo
 obtain ⟨b1, hb1⟩ : ∃ b, hasP [47, 47] l = b := ⟨_, rfl⟩
 have HB1 := Lib.hid hb1
 rw [hb1] at D1
 clear hb1
 have HP := Lib.hid hp
 clear hp
 go_enter Tryz.func48, Tryz.ntmps48
 go_upto_if 8 with (go_at_call 47; ((with_reducible refine (D1.out _ c0 c1).mono ?_)); rintro e w5 ⟨rfl, n5, rfl⟩)
 have hL5 := h.drewN n5
 have hb5 : Below B w (w.drewN n5) := Below.drewN' (Below.refl _ _) n5
 have hB5 : B ≤ (w.drewN n5).heap.size := hB
 clear c0 c1 h
 generalize w.drewN n5 = W5 at *
 go_cut [] (fun wx => ∃ n, LM wx B g s vt vn { st with i := st.i + n } ∧ Below B w wx ∧ Hid (cv = (n : Int)) ∧ n ≤ l.length)
 case first =>
  cases b1 with
  | true =>
   obtain ⟨N, hN⟩ : ∃ N, (match idxB 10 l with | some n => n | none => l.length) = N := ⟨_, rfl⟩
   have hcn : cv = (N : Int) := by rw [← HCV.out]; exact comm_line HB1.out hN
   have HN0 : Hid ((match idxB 10 (l.drop 0) with | some n => 0 + n | none => l.length) = N) := by
    show _ = _
    rw [List.drop_zero, ← hN]
    cases idxB 10 l <;> simp
   have HCN := Lib.hid hcn
   clear hN hcn
   go_wp2_with (fail)
   go_loopw [] (fun wr => ∃ k, k ≤ l.length ∧ LM wr B g s vt vn { st with i := st.i + k } ∧ Below B w wr ∧ Hid ((match idxB 10 (l.drop k) with | some n => k + n | none => l.length) = N)) (fun wr => lexN g s.length wr)
   case atStart => exact ⟨0, by omega, hL5, hb5, HN0⟩
   case round =>
    obtain ⟨k, hk, hL, hb, hq⟩ := hrel
    clear HN0 hL5 hb5
    have hms := lexN_of hL s.length
    have HMS := Lib.hid hms
    clear hms
    obtain ⟨i1, hi1⟩ : ∃ i1, st.i + k = i1 := ⟨_, rfl⟩
    rw [hi1] at hL HMS
    have c0 := hL.c0
    have c1 := hL.c1
    have hlk : ∀ x, l[k]? = some x → s[i1]? = some x := fun x hx => by rw [← HL0.out, List.getElem?_drop, hi1] at hx; exact hx
    rcases idxB_step hq.out hk with ⟨h1, h2⟩ | ⟨x, hx, h1, h2⟩ | ⟨x, hx, h1, h2, h3⟩
    ·have hge : ¬ (i1 : Int) < s.length := by omega
     have hd : decide ((i1 : Int) < s.length) = false := by simpa using hge
     subst h2
     clear hq hlk h1
     go_upto_region 2 with (fail)
     go_quiet (fail)
     have hL1 := hL.drewN nq
     have hb1 : Below B w (wr.drewN nq) := Below.drewN' hb nq
     clear hL hb c0 c1
     generalize wr.drewN nq = W1 at *
     go_wp2_with fail
     go_meet
     exact ⟨k, by rw [hi1]; exact hL1, hb1, HCN, hk⟩
    ·have hsx := hlk x hx
     obtain ⟨hxb, hlt, hg⟩ := byte_of hs hsx
     have hlt' : (i1 : Int) < s.length := by omega
     have hd : decide ((i1 : Int) < s.length) = true := by simpa using hlt'
     have hx10 : ((x : Int) != 10) = false := by simp; omega
     subst h2
     clear hq hlk h1 hx hsx
     go_upto_region 2 with (fail)
     go_quiet (fail)
     have hL1 := hL.drewN nq
     have hb1 : Below B w (wr.drewN nq) := Below.drewN' hb nq
     clear hL hb c0 c1
     generalize wr.drewN nq = W1 at *
     go_wp2_with fail
     go_meet
     exact ⟨k, by rw [hi1]; exact hL1, hb1, HCN, hk⟩
    ·have hsx := hlk x hx
     obtain ⟨hxb, hlt, hg⟩ := byte_of hs hsx
     have hlt' : (i1 : Int) < s.length := by omega
     have hd : decide ((i1 : Int) < s.length) = true := by simpa using hlt'
     have hx10 : ((x : Int) != 10) = true := by simp; omega
     have H3 := Lib.hid h3
     clear hq hlk h1 hx hsx h3
     go_upto_region 2 with (fail)
     go_quiet (fail)
     have hL1 := hL.drewN nq
     have hb1 : Below B w (wr.drewN nq) := Below.drewN' hb nq
     clear hL hb c0 c1
     generalize wr.drewN nq = W1 at *
     have c1 := hL1.c1
     have f1 := hL1.f 1
     have hL3 := hL1.setI (i1 + 1)
     have hb3 := hb1.setCell hlo (p := ⟨g, 1, none⟩) (.int .i64 ((i1 + 1 : Nat) : Int))
     have e1 : ((i1 + 1 : Nat) : Int) = (i1 : Int) + 1 := by omega
     rw [e1] at hL3 hb3
     have HL3 := Lib.hid hL3
     have HB3 := Lib.hid hb3
     clear e1 hL3 hb3
     go_wp2_with (fail)
     go_roundw
     case rel =>
      refine ⟨k + 1, by omega, ?_, HB3.out, H3⟩
      rw [show st.i + (k + 1) = i1 + 1 by omega]
      exact HL3.out
     case measure =>
      rw [lexN_of HL3.out, HMS.out]
      simp only [he, if_true]
      omega
  | false =>
   have h2 : hasP [47, 42] l = true := HP.out.elim (fun h => absurd (h.symm.trans HB1.out) (by simp)) id
   obtain ⟨o, ho⟩ : ∃ o, (idxP 42 47 (l.drop 2)).map (2 + ·) = o := ⟨_, rfl⟩
   have hcn : cv = comB o := by rw [← HCV.out]; exact comm_block HB1.out h2 ho
   have HCN := Lib.hid hcn
   have hl2 : 2 ≤ l.length := by
    unfold hasP at h2
    have h3 := of_decide_eq_true h2
    have h4 := congrArg List.length h3
    rw [List.length_take] at h4
    simp at h4
    omega
   have HO0 := Lib.hid ho
   clear ho hcn h2
   have c1 := hL5.c1
   have f1 := hL5.f 1
   have hL6 := hL5.setI (st.i + 2)
   have hb6 := hb5.setCell hlo (p := ⟨g, 1, none⟩) (.int .i64 ((st.i + 2 : Nat) : Int))
   have e2 : ((st.i + 2 : Nat) : Int) = (st.i : Int) + 2 := by omega
   rw [e2] at hL6 hb6
   have HL6 := Lib.hid hL6
   have HB6 := Lib.hid hb6
   clear e2 hL6 hb6 hL5 hb5
   go_wp2_with (fail)
   generalize (W5.setCell ⟨g, 1, none⟩ (.int .i64 ((st.i : Int) + 2))) = W6 at *
   clear c1 f1
   go_loopw [] (fun wr => ∃ k, k ≤ l.length ∧ LM wr B g s vt vn { st with i := st.i + k } ∧ Below B w wr ∧ Hid ((idxP 42 47 (l.drop k)).map (k + ·) = o)) (fun wr => lexN g s.length wr)
   case atStart => exact ⟨2, hl2, HL6.out, HB6.out, HO0⟩
   case round =>
    obtain ⟨k, hk, hL, hb, hq⟩ := hrel
    clear HL6 HB6 HO0
    have hms := lexN_of hL s.length
    have HMS := Lib.hid hms
    clear hms
    obtain ⟨i1, hi1⟩ : ∃ i1, st.i + k = i1 := ⟨_, rfl⟩
    have DH := has_h g s [42, 47] hs (by intro c hc; simp at hc; omega) i1 (by omega) (by omega) (by decide) (by decide)
    have hdk := HDR.out k
    rw [hi1] at hL HMS hdk
    rw [hdk, ← lit_en] at DH
    have c0 := hL.c0
    have c1 := hL.c1
    clear hdk
    rcases idxP_step hq.out hk with ⟨h1, rfl⟩ | ⟨h1, h2, rfl, h4⟩ | ⟨h1, h2, h3⟩
    ·have hge : ¬ (i1 : Int) < s.length := by omega
     have hd : decide ((i1 : Int) < s.length) = false := by simpa using hge
     have hsi : ((i1 : Int) == s.length) = true := by simp; omega
     clear hq h1
     go_upto_region 5 with (fail)
     go_quiet (fail)
     have hL1 := hL.drewN nq
     have hb1 : Below B w (wr.drewN nq) := Below.drewN' hb nq
     clear hL hb c0 c1
     generalize wr.drewN nq = W1 at *
     have c0 := hL1.c0
     have c1 := hL1.c1
     go_upto_region 7 with (fail)
     go_quiet (fail)
     have hL2 := hL1.drewN nq
     have hb2 : Below B w (W1.drewN nq) := Below.drewN' hb1 nq
     clear hL1 hb1 c0 c1
     generalize W1.drewN nq = W2 at *
     have D4 := lfail_h hL2 (Nat.le_trans hlo (Nat.le_of_lt hL2.lt)) 4 4 rfl st.i
     go_wp2_with (go_at_call 53; ((with_reducible refine D4.out.mono ?_)); rintro e w8 ⟨rfl, hL8, hb8⟩)
     go_end0
     refine ⟨rfl, _, _, _, hL8, ?_, hb2.trans hb8⟩
     rw [← HO.out, HCN.out]
     exact ⟨by decide, rfl, rfl, by show i1 ≤ _; omega⟩
    ·have hlt' : (i1 : Int) < s.length := by omega
     have hd : decide ((i1 : Int) < s.length) = true := by simpa using hlt'
     have hsi : ((i1 : Int) == s.length) = false := by simp; omega
     rw [h2] at DH
     clear hq h2
     go_upto_region 5 with (fail)
     go_quiet ((go_at_call 47; exact quiet_left2 (DH.out _ c0 c1)))
     have hL1 := hL.drewN nq
     have hb1 : Below B w (wr.drewN nq) := Below.drewN' hb nq
     clear hL hb c0 c1
     generalize wr.drewN nq = W1 at *
     have c0 := hL1.c0
     have c1 := hL1.c1
     go_upto_region 7 with (fail)
     go_quiet (fail)
     have hL2 := hL1.drewN nq
     have hb2 : Below B w (W1.drewN nq) := Below.drewN' hb1 nq
     clear hL1 hb1 c0 c1
     generalize W1.drewN nq = W2 at *
     have c1 := hL2.c1
     have f1 := hL2.f 1
     have hL3 := hL2.setI (i1 + 2)
     have hb3 := hb2.setCell hlo (p := ⟨g, 1, none⟩) (.int .i64 ((i1 + 2 : Nat) : Int))
     have e2 : ((i1 + 2 : Nat) : Int) = (i1 : Int) + 2 := by omega
     rw [e2] at hL3 hb3
     have HL3 := Lib.hid hL3
     have HB3 := Lib.hid hb3
     clear e2 hL3 hb3
     go_wp2_with (fail)
     go_meet
     exact ⟨k + 2, by rw [show st.i + (k + 2) = i1 + 2 by omega]; exact HL3.out, HB3.out, HCN, h4⟩
    ·have hlt' : (i1 : Int) < s.length := by omega
     have hd : decide ((i1 : Int) < s.length) = true := by simpa using hlt'
     rw [h2] at DH
     have H3 := Lib.hid h3
     clear hq h2 h3
     go_upto_region 5 with (fail)
     go_quiet ((go_at_call 47; exact quiet_left2 (DH.out _ c0 c1)))
     have hL1 := hL.drewN nq
     have hb1 : Below B w (wr.drewN nq) := Below.drewN' hb nq
     clear hL hb c0 c1
     generalize wr.drewN nq = W1 at *
     have c1 := hL1.c1
     have f1 := hL1.f 1
     have hL3 := hL1.setI (i1 + 1)
     have hb3 := hb1.setCell hlo (p := ⟨g, 1, none⟩) (.int .i64 ((i1 + 1 : Nat) : Int))
     have e1 : ((i1 + 1 : Nat) : Int) = (i1 : Int) + 1 := by omega
     rw [e1] at hL3 hb3
     have HL3 := Lib.hid hL3
     have HB3 := Lib.hid hb3
     clear e1 hL3 hb3
     go_wp2_with (fail)
     go_roundw
     case rel =>
      refine ⟨k + 1, by omega, ?_, HB3.out, H3⟩
      rw [show st.i + (k + 1) = i1 + 1 by omega]
      exact HL3.out
     case measure =>
      rw [lexN_of HL3.out, HMS.out]
      simp only [he, if_true]
      omega
 case rest =>
  obtain ⟨n, hL6, hb6, hcn, hnl⟩ := hcut
  obtain ⟨w6, hw6⟩ : ∃ x, x = wc := ⟨_, rfl⟩
  subst hw6
  clear hL5 hb5 hB5 HP
  obtain ⟨i1, hi1⟩ : ∃ i1, st.i + n = i1 := ⟨_, rfl⟩
  rw [hi1] at hL6
  have htx : (s.take i1).drop st.i = l.take n := by rw [← hi1, ← take_drop_eq, HL0.out]
  obtain ⟨tx, htx2⟩ : ∃ tx, l.take n = tx := ⟨_, rfl⟩
  rw [htx2] at htx
  have HTX := Lib.hid htx
  have HTX2 := Lib.hid htx2
  clear htx htx2
  have c0 := hL6.c0
  have c1 := hL6.c1
  have c3 := hL6.c3
  have k0 : (st.i : Int) ≤ i1 := by omega
  have k1 : (i1 : Int) ≤ s.length := by omega
  have d1 := (hL6.par.alloc (.cells #[.int .i64 (st.i : Int), .int .i64 (i1 : Int), .string (mks ((s.take i1).drop st.i))] 67)).cell' (i := 1) rfl
  have d3 := (hL6.par.alloc (.cells #[.int .i64 (st.i : Int), .int .i64 (i1 : Int), .string (mks ((s.take i1).drop st.i))] 67)).cell' (i := 3) rfl
  have d0 := (hL6.par.alloc (.cells #[.int .i64 (st.i : Int), .int .i64 (i1 : Int), .string (mks ((s.take i1).drop st.i))] 67)).cell' (i := 0) rfl
  clear HDR HL0 D1 HB1 HCV hll
  go_upto_region 10 with (fail)
  have hTd : w6.drew.ownsRow B 67 3 _ st.notes.length (notesC st.notes) := hL6.note; have hBW : B ≤ w6.heap.size := Nat.le_trans hL6.lo (Nat.le_of_lt hL6.lt); rw [hload_eq 27 (.tmp 90)]; go_region_held3 (fun w' => w'.cell? ⟨g, 0, none⟩ = some (.string (mks s)) ∧ w'.cell? ⟨g, 1, none⟩ = some (.int .i64 (i1 : Int))) (first | exact ⟨by assumption, by assumption⟩ | exact ⟨LM.c0 (by assumption), LM.c1 (by assumption)⟩ | go_keep) (first | (refine step_apS rfl (.tmp 91) (.tmp 108) 27 rfl B 67 _ 3 _ Tryz.underlying27 Tryz.infoS67 rfl (by decide) _ st.notes.length (notesC st.notes) rfl (hTd.alloc _) ⟨w6.heap.size, 0, none⟩ _ [.int .i64 (st.i : Int), .int .i64 (i1 : Int), .string (mks ((s.take i1).drop st.i))] rfl rfl (cells_at _ _ _ _ (by first | rfl | simp)) rfl (by unfold maxLen; omega) (by omega) (by simp; omega) ?_; intro v3 w3 hown3 hgr3 hat3; obtain ⟨A3, c3, rfl, hc3, hm3⟩ := own_slice hown3; obtain ⟨P3, hL3, hB3⟩ := LM.pushN hL6 ⟨st.i, i1, (s.take i1).drop st.i⟩ _ hown3 hgr3 hat3; have p0 := P3.cell' (i := 0) rfl; have p1 := P3.cell' (i := 1) rfl; have p3 := P3.cell' (i := 3) rfl; have q3 := P3.frozen 3; clear hgr3 hat3 hown3))
  all_goals
   go_wp2_with (fail)
   go_end0
   refine ⟨rfl, _, _, _, hL3, ?_, hb6.trans hB3⟩
   rw [← HO.out, hcn.out, if_neg (by omega), Int.toNat_natCast, HTX2.out, hi1, HTX.out]
   show _ = _
   rw [hi1]
end Go.Proofs.YtbdnamcjhndpjaaGreatDoor
