/- The walk of text of the reference's lexer. -/
import Derived.Test.YtbdnamcjhndpjaaGreatDoorMQf
import Derived.Test.YtbdnamcjhndpjaaGreatDoorMO
import Derived.Test.YtbdnamcjhndpjaaGreatDoorMQc
import Derived.Test.YtbdnamcjhndpjaaGreatDoorMQe
import Derived.Deep.CutRange
import Derived.Deep.DeepCutAuto
set_option linter.unusedVariables false
set_option linter.unusedSimpArgs false
set_option linter.defProp false
set_option linter.constructorNameAsVariable false
namespace Go.Proofs.YtbdnamcjhndpjaaGreatDoor
open Go.RowKit
def OutT (s : List Nat) (st : LSt) (q : List Nat × Nat × Nat) (st' : LSt) : Prop :=
  (q.2.2 = 0 ∧ st' = { st with i := st.i + q.2.1, toks := st.toks ++ [⟨2, st.i, st.i + q.2.1, q.1⟩] }) ∨ (q.2.2 ≠ 0 ∧ st'.err = q.2.2 ∧ st'.at_ = st.i + q.2.1 ∧ st'.i ≤ s.length + 20)
def TextI (w : World) (B g : Nat) (s : List Nat) (st : LSt) (q : List Nat × Nat × Nat) (sv : Value) (wr : World) : Prop :=
  ∃ acc vt vn st', sv = .string (mks acc) ∧ LM wr B g s vt vn st' ∧ Below B w wr ∧
    ((∃ p f, st' = { st with i := st.i + p } ∧ 1 ≤ p ∧ st.i + p ≤ s.length ∧ s.length ≤ st.i + p + f ∧ acc.length ≤ 4 * p ∧ Hid (textG f (s.drop (st.i + p)) p acc = q)) ∨
     (st'.err ≠ 0 ∧ st'.err = q.2.2 ∧ st'.at_ = st.i + q.2.1 ∧ st'.i ≤ s.length + 20))
theorem text_end {f p : Nat} {acc : List Nat} {q : List Nat × Nat × Nat} (h : textG f [] p acc = q) : q = ([], 0, 4) := by rw [textG_end] at h; exact h.symm
theorem text_cases {f p c : Nat} {l t acc : List Nat} {q : List Nat × Nat × Nat} (hl : l = c :: t) (hf : l.length ≤ f) (h : textG f l p acc = q) :
    (c = 34 ∧ q = (acc, p + 1, 0)) ∨ (c ≠ 34 ∧ c < 32 ∧ q = ([], p, 4)) ∨ (c = 92 ∧ (escV l).2.2 = 0 ∧ ∃ f', f = f' + 1 ∧ textG f' (l.drop (escV l).2.1.toNat) (p + (escV l).2.1.toNat) (acc ++ encL (escV l).1) = q) ∨
    (c = 92 ∧ (escV l).2.2 ≠ 0 ∧ q = ([], p, (escV l).2.2.toNat)) ∨ (c ≠ 34 ∧ ¬ c < 32 ∧ c ≠ 92 ∧ ∃ f', f = f' + 1 ∧ textG f' t (p + 1) (acc ++ [c]) = q) := by
  obtain ⟨f, rfl⟩ : ∃ f', f = f' + 1 := ⟨f - 1, by rw [hl] at hf; simp at hf; omega⟩
  have e0 : l.getD 0 0 = c := by rw [hl]; rfl
  have e1 : l.drop 1 = t := by rw [hl]; rfl
  rw [textG, if_neg (by rw [hl]; simp), e0, e1] at h
  by_cases h34 : c = 34
  · rw [if_pos h34] at h; exact .inl ⟨h34, h.symm⟩
  rw [if_neg h34] at h
  by_cases h32 : c < 32
  · rw [if_pos h32] at h; exact .inr (.inl ⟨h34, h32, h.symm⟩)
  rw [if_neg h32] at h
  by_cases h92 : c = 92
  · rw [if_pos h92] at h
    by_cases he : (escV l).2.2 = 0
    · rw [if_pos he] at h; exact .inr (.inr (.inl ⟨h92, he, f, rfl, h⟩))
    · rw [if_neg he] at h; exact .inr (.inr (.inr (.inl ⟨h92, he, h.symm⟩)))
  · rw [if_neg h92] at h; exact .inr (.inr (.inr (.inr ⟨h34, h32, h92, f, rfl, h⟩)))
theorem escP_len {x : Int × Int × Int} {st st' : LSt} {t : List Nat} (h : EscP x st t st') : t.length ≤ 4 := by
  rcases h with ⟨_, rfl, _⟩ | ⟨_, rfl, _⟩
  · exact (encL_by _).2
  · simp
set_option maxRecDepth 100000 in
set_option maxHeartbeats 8000000 in
theorem ltext_any {w : World} {B g : Nat} {s : List Nat} {vt vn : Value} {st : LSt} (h : LM w B g s vt vn st) (hs : By s) (hB : B ≤ w.heap.size) (he : st.err = 0) (hi : st.i < s.length) (hl : s.length ≤ 100000) (htk : st.toks.length ≤ 1000000)
    (q : List Nat × Nat × Nat) (hq : Hid (textG (s.length - (st.i + 1)) (s.drop (st.i + 1)) 1 [] = q)) :
    Calls Tryz.prog 49 #[.pointer (some ⟨g, 0, none⟩)] w (LexR w B g s (OutT s st q)) := by
  have c1 := h.c1
  have f1 := h.f 1
  have hL0 := h.setI (st.i + 1)
  have hb0 : Below B w (w.setCell ⟨g, 1, none⟩ (.int .i64 ((st.i + 1 : Nat) : Int))) := (Below.refl _ _).setCell h.lo _
  have e1 : ((st.i + 1 : Nat) : Int) = (st.i : Int) + 1 := by omega
  rw [e1] at hL0 hb0
  have HB0 := Lib.hid hb0
  have HL0 := Lib.hid hL0
  have hlo := h.lo
  clear e1 hL0 hb0 h
  go_enter Tryz.func49, Tryz.ntmps49
  go_wp2_with (fail)
  have HI0 : Hid (TextI w B g s st q (.string ⟨#[]⟩) (w.setCell ⟨g, 1, none⟩ (.int .i64 ((st.i : Int) + 1)))) := ⟨[], vt, vn, _, rfl, HL0.out, HB0.out, .inl ⟨1, _, rfl, Nat.le_refl _, by omega, by omega, by simp, hq⟩⟩
  clear HL0 HB0 c1 f1 hq
  generalize (w.setCell ⟨g, 1, none⟩ (.int .i64 ((st.i : Int) + 1))) = W0 at *
  go_loopw [3] (fun sv wr => TextI w B g s st q sv wr) (fun _ wr => lexN g s.length wr)
  case atStart => exact HI0.out
  case round =>
    clear HI0
    obtain ⟨acc, vt1, vn1, st1, rfl, hL, hb, hrel⟩ := hrel
    have hms := lexN_of hL s.length
    rcases hrel with ⟨p, f, rfl, hp1, hp2, hp3, hal, hq⟩ | ⟨h1, h2, h3, h4⟩
    · obtain ⟨i1, hi1⟩ : ∃ i1, st.i + p = i1 := ⟨_, rfl⟩
      rw [hi1] at hL hms hp2 hp3 hq
      have c0 := hL.c0
      have c1 := hL.c1
      have c4 := hL.e0 he
      have hB1 : B ≤ wr.heap.size := Nat.le_trans hlo (Nat.le_of_lt hL.lt)
      rcases byte_at s hs i1 hp2 with ⟨h2, h3⟩ | ⟨c, t, h2, h3, hc, hlt, hg⟩
      · have hqe := hq.out
        rw [h3] at hqe
        have hqv := text_end hqe
        subst hqv
        have hd : decide ((i1 : Int) < s.length) = false := by simp; omega
        have hlt : ¬ (i1 : Int) < s.length := by omega
        clear h2 h3 hqe hq hms
        go_upto_region 3 with (fail)
        go_quiet (fail)
        have hL1 := hL.drewN nq
        have hb1 : Below B w (wr.drewN nq) := Below.drewN' hb nq
        have hB2 : B ≤ (wr.drewN nq).heap.size := hB1
        clear c0 c1 c4
        generalize wr.drewN nq = W1 at *
        have c4 := hL1.e0 he
        have D4 := lfail_h hL1 hB2 4 4 rfl st.i
        go_wp2_with (go_at_call 53; ((with_reducible refine D4.out.mono ?_)); rintro e w8 ⟨rfl, hL8, hb8⟩)
        go_end0
        exact ⟨rfl, _, _, _, hL8, .inr ⟨by decide, rfl, rfl, by show i1 ≤ _; omega⟩, hb1.trans hb8⟩
      · have hd : decide ((i1 : Int) < s.length) = true := by simp; omega
        have hlt' : (i1 : Int) < s.length := by omega
        have hcs := text_cases h2 (by rw [List.length_drop]; omega) hq.out
        have HCS := Lib.hid hcs
        have H2 := Lib.hid h2
        have H3 := Lib.hid h3
        clear h2 h3 hcs hq
        go_upto_region 3 with (fail)
        go_quiet (fail)
        have hL1 := hL.drewN nq
        have hb1 : Below B w (wr.drewN nq) := Below.drewN' hb nq
        have hB2 : B ≤ (wr.drewN nq).heap.size := hB1
        clear c0 c1 c4
        clear hL hb
        have HMS := Lib.hid hms
        clear hms
        generalize wr.drewN nq = W1 at *
        have c0 := hL1.c0
        have c1 := hL1.c1
        go_upto_region 4 with (fail)
        go_quiet (fail)
        have hL2 := hL1.drewN nq
        have hb2 : Below B w (W1.drewN nq) := Below.drewN' hb1 nq
        have hB3 : B ≤ (W1.drewN nq).heap.size := hB2
        clear c0 c1 hL1 hb1 hB2 hg
        generalize W1.drewN nq = W2 at *
        have c0 := hL2.c0
        have c1 := hL2.c1
        have f1 := hL2.f 1
        rcases HCS.out with ⟨k1, rfl⟩ | ⟨k1, k2, rfl⟩ | ⟨k1, k2, f', rfl, hq⟩ | ⟨k1, k2, rfl⟩ | ⟨k1, k2, k3, f', rfl, hq⟩
        · have k1' : ((c : Int) == 34) = true := by simp; omega
          have hL3 := hL2.setI (i1 + 1)
          have hb3 := hb2.setCell hlo (p := ⟨g, 1, none⟩) (.int .i64 ((i1 + 1 : Nat) : Int))
          have e1 : ((i1 + 1 : Nat) : Int) = (i1 : Int) + 1 := by omega
          rw [e1] at hL3 hb3
          have HL3 := Lib.hid hL3
          have HB3 := Lib.hid hb3
          clear e1 hL3 hb3 k1 HCS HMS
          go_upto_region 7 with (fail)
          generalize (W2.setCell ⟨g, 1, none⟩ (.int .i64 ((i1 : Int) + 1))) = W3 at *
          clear c0 c1 f1
          have c1 : W3.cell? ⟨g, 1, none⟩ = some (.int .i64 ((i1 : Int) + 1)) := HL3.out.c1
          have c2 := HL3.out.c2
          have d1 : (W3.alloc (.cells #[.int .i64 2, .int .i64 (st.i : Int), .int .i64 ((i1 : Int) + 1), .string (mks acc)] 62)).cell? ⟨g, 1, none⟩ = some (.int .i64 ((i1 : Int) + 1)) := (HL3.out.par.alloc _).cell' (i := 1) rfl
          have d2 : (W3.alloc (.cells #[.int .i64 2, .int .i64 (st.i : Int), .int .i64 ((i1 : Int) + 1), .string (mks acc)] 62)).cell? ⟨g, 2, none⟩ = some vt1 := (HL3.out.par.alloc _).cell' (i := 2) rfl
          have hTd : W3.drew.ownsRow B 62 4 _ st.toks.length (toksC st.toks) := HL3.out.tok; have hBW : B ≤ W3.heap.size := Nat.le_trans HL3.out.lo (Nat.le_of_lt HL3.out.lt); go_region_law (refine step_apS rfl (.tmp 55) (.tmp 63) 55 rfl B 62 _ 4 _ Tryz.underlying55 Tryz.infoS62 rfl (by decide) _ st.toks.length (toksC st.toks) rfl (hTd.alloc _) ⟨W3.heap.size, 0, none⟩ _ [.int .i64 2, .int .i64 (st.i : Int), .int .i64 ((i1 : Int) + 1), .string (mks acc)] rfl rfl (cells_new _ _ _) rfl (by unfold maxLen; omega) (by omega) (by simp; omega) ?_; intro v3 w3 hown3 hgr3 hat3; obtain ⟨A3, c3, rfl, hc3, hm3⟩ := own_slice hown3; obtain ⟨P3, hL3, hB3⟩ := LM.pushT HL3.out ⟨2, st.i, i1 + 1, acc⟩ _ hown3 hgr3 hat3; have p3 := P3.cell' (i := 2) rfl; have q3 := P3.frozen 2; clear hgr3 hat3 hown3)
          all_goals
            go_wp2_with (fail)
            go_end0
            exact ⟨rfl, _, _, _, hL3, .inl ⟨rfl, by show _ = _; simp; omega⟩, HB3.out.trans hB3⟩
        · have k1' : ((c : Int) == 34) = false := by simp; omega
          have k2' : (c : Int) < 32 := by omega
          have D4 := lfail_h hL2 hB3 4 4 rfl i1
          clear k1 k2 HCS HMS
          go_wp2_with (go_at_call 53; ((with_reducible refine D4.out.mono ?_)); rintro e w8 ⟨rfl, hL8, hb8⟩)
          go_end0
          exact ⟨rfl, _, _, _, hL8, .inr ⟨by show (4 : Nat) ≠ 0; decide, rfl, hi1.symm, by show i1 ≤ _; omega⟩, hb2.trans hb8⟩
        · have k0' : ((c : Int) == 34) = false := by simp; omega
          have k1' : ¬ (c : Int) < 32 := by omega
          have k2' : ((c : Int) == 92) = true := by simp; omega
          have DE := Lib.hid (lescape_any hL2 hs hB3 (by show i1 ≤ _; omega) (by omega))
          have HX := Lib.hid (escV_ascii (l := s.drop i1) (by rw [H2.out]; exact k1) k2)
          have HQ := Lib.hid hq
          have HK := Lib.hid k2
          clear hq k1 k2 HCS
          go_wp2_with (go_at_call 78; ((with_reducible refine DE.out.mono ?_)); rintro e w8 ⟨t8, st8, rfl, hL8, hb8, hP8⟩; have hl8 := escP_len hP8)
          obtain ⟨n1, n2, n3⟩ := HX.out
          rw [List.length_drop] at n2
          rcases hP8 with ⟨_, rfl, rfl⟩ | ⟨he8, _⟩
          · go_roundw
            case rel =>
              refine ⟨_, _, _, _, rfl, hL8, hb2.trans hb8, .inl ⟨p + (escV (s.drop i1)).2.1.toNat, f', ?_, by omega, by omega, by omega, by simp; omega, ?_⟩⟩
              · show (⟨_, _, _, _, _⟩ : LSt) = ⟨_, _, _, _, _⟩
                simp; omega
              · show _ = _
                rw [show st.i + (p + (escV (s.drop i1)).2.1.toNat) = i1 + (escV (s.drop i1)).2.1.toNat by omega, ← List.drop_drop]
                exact HQ.out
            case measure =>
              rw [lexN_of hL8, HMS.out]
              simp only [he, if_true]
              omega
          · exact absurd HK.out he8
        · have k0' : ((c : Int) == 34) = false := by simp; omega
          have k1' : ¬ (c : Int) < 32 := by omega
          have k2' : ((c : Int) == 92) = true := by simp; omega
          have DE := Lib.hid (lescape_any hL2 hs hB3 (by show i1 ≤ _; omega) (by omega))
          have HK := Lib.hid k2
          have hxl := escV_len (s.drop i1)
          have HXL := Lib.hid hxl
          clear k1 k2 HCS hxl
          go_wp2_with (go_at_call 78; ((with_reducible refine DE.out.mono ?_)); rintro e w8 ⟨t8, st8, rfl, hL8, hb8, hP8⟩; have hl8 := escP_len hP8)
          rcases hP8 with ⟨he8, _⟩ | ⟨_, rfl, i', hi', rfl⟩
          · exact absurd he8 HK.out
          · have hen : (escV (s.drop i1)).2.2.toNat ≠ 0 := by have h1 := HXL.out; have h2 := HK.out; omega
            go_roundw
            case rel => exact ⟨_, _, _, _, rfl, hL8, hb2.trans hb8, .inr ⟨hen, rfl, by show i1 = st.i + p; omega, by show i' ≤ _; have : i' ≤ i1 + 2 := hi'; omega⟩⟩
            case measure =>
              rw [lexN_of hL8, HMS.out, if_neg hen]
              simp only [he, if_true]
              omega
        · have k0' : ((c : Int) == 34) = false := by simp; omega
          have k1' : ¬ (c : Int) < 32 := by omega
          have k2' : ((c : Int) == 92) = false := by simp; omega
          have hcv : (convert 103 9 (.slice (some ⟨W2.heap.size, 0, none⟩) 1 1)).run Tryz.prog (W2.alloc (.cells #[.int .u8 (c : Int)] 5)) = .ok (.string (mks [c])) (W2.alloc (.cells #[.int .u8 (c : Int)] 5)) := conv_cells [c] W2
          have h4 := hL2.below ((Below.refl W2.heap.size W2).alloc (Nat.le_refl _) (.cells #[.int .u8 (c : Int)] 5))
          have hb4 := hb2.alloc hB3 (.cells #[.int .u8 (c : Int)] 5)
          have c1' := h4.c1
          have f1' := h4.f 1
          have hL5 := h4.setI (i1 + 1)
          have hb5 := hb4.setCell hlo (p := ⟨g, 1, none⟩) (.int .i64 ((i1 + 1 : Nat) : Int))
          have e1 : ((i1 + 1 : Nat) : Int) = (i1 : Int) + 1 := by omega
          rw [e1] at hL5 hb5
          have HL5 := Lib.hid hL5
          have HB5 := Lib.hid hb5
          have HQ := Lib.hid hq
          have hl9 : ¬ 9223372036854775807 < acc.length + 1 := by omega
          have hl8 : ([c] : List Nat).length = 1 := rfl
          clear e1 hL5 hb5 k1 k2 k3 hq HCS h4 hb4
          go_wp2_with (fail)
          go_roundw
          case rel =>
            refine ⟨_, _, _, _, rfl, HL5.out, HB5.out, .inl ⟨p + 1, f', ?_, by omega, by omega, by omega, by simp; omega, ?_⟩⟩
            · show (⟨_, _, _, _, _⟩ : LSt) = ⟨_, _, _, _, _⟩
              simp; omega
            · show _ = _
              rw [show st.i + (p + 1) = i1 + 1 by omega, H3.out]
              exact HQ.out
          case measure =>
            rw [lexN_of HL5.out, HMS.out]
            simp only [he, if_true]
            omega
    · have h1' : ((st1.err : Int) == 0) = false := by simp; omega
      have c4 := hL.c4
      have H2e := Lib.hid h2
      clear hms h2
      go_upto_region 3 with (fail)
      go_quiet (fail)
      have hL1 := hL.drewN nq
      have hb1 : Below B w (wr.drewN nq) := Below.drewN' hb nq
      clear c4 hL hb
      generalize wr.drewN nq = W1 at *
      have c4 := hL1.c4
      go_wp2_with (fail)
      go_end0
      exact ⟨rfl, _, _, _, hL1, .inr ⟨by rw [← H2e.out]; exact h1, H2e.out, h3, h4⟩, hb1⟩
end Go.Proofs.YtbdnamcjhndpjaaGreatDoor
namespace Go.Proofs.YtbdnamcjhndpjaaGreatDoor
open Go.RowKit
def OutS (s : List Nat) (st : LSt) (o : Except (Nat × Nat) (Nat × List JTok × List JNote)) (st' : LSt) : Prop := match o with
 | .ok (n, ts, ns) => st' = { st with i := st.i + n, toks := ts, notes := ns }
 | .error (a, e) => e ≠ 0 ∧ st'.err = e ∧ st'.at_ = a ∧ st'.i ≤ s.length + 20
def tokO (st : LSt) (x : JTok × Nat) : Except (Nat × Nat) (Nat × List JTok × List JNote) :=
 if x.2 = 0 then .ok (x.1.to_, st.toks ++ [⟨x.1.kind, st.i, st.i + x.1.to_, x.1.text⟩], st.notes) else .error (st.i + x.1.to_, x.2)
theorem isL_h (c : Nat) (hc : c < 256) : Hid (∀ w, Calls Tryz.prog 50 #[.int .u8 (c : Int)] w fun e w' => e = .returned (.bool (letB c)) ∧ w = w') := fun w => isLetter_any c hc w
theorem isN_h (c : Nat) (hc : c < 256) : Hid (∀ w, Calls Tryz.prog 51 #[.int .u8 (c : Int)] w fun e w' => e = .returned (.bool (numB c)) ∧ w = w') := fun w => isNumeric_any c hc w
set_option maxRecDepth 100000 in
set_option maxHeartbeats 8000000 in
theorem lseq_any {w : World} {B g : Nat} {s : List Nat} {vt vn : Value} {st : LSt} (h : LM w B g s vt vn st) (hs : By s) (hB : B ≤ w.heap.size) (he : st.err = 0) (hi : st.i < s.length) (hl : s.length ≤ 65536) (htk : st.toks.length ≤ 1000000)
  (c : Nat) (t : List Nat) (hct : s.drop st.i = c :: t) (hcn : (letB c || numB c) = true) :
  Calls Tryz.prog 52 #[.pointer (some ⟨g, 0, none⟩)] w (LexR w B g s (OutS s st (tokO st (seqV (s.drop st.i))))) := by
 obtain ⟨l, hl0⟩ : ∃ l, s.drop st.i = l := ⟨_, rfl⟩
 have hdr : ∀ k, s.drop (st.i + k) = l.drop k := fun k => by rw [← hl0, List.drop_drop]
 have HDR := Lib.hid hdr
 have hll : l.length = s.length - st.i := by rw [← hl0, List.length_drop]
 have HL0 := Lib.hid hl0
 rw [hl0] at hct ⊢
 clear hdr hl0
 obtain ⟨N, hN⟩ : ∃ N, seqN l = N := ⟨_, rfl⟩
 have hNl := seqN_le l
 have hN1 : 1 ≤ N := by rw [← hN, hct]; exact seqN_pos (l := c :: t) hcn (List.cons_ne_nil _ _)
 rw [hN] at hNl
 have HN0 : Hid (0 + seqN (l.drop 0) = N) := by show _ = _; rw [List.drop_zero, Nat.zero_add]; exact hN
 have HN := Lib.hid hN
 generalize hoo : OutS s st (tokO st (seqV l)) = PO
 have HO := Lib.hid hoo
 clear hN hoo
 have c1 := h.c1
 have hlo := h.lo
 go_enter Tryz.func52, Tryz.ntmps52
 go_wp2_with (fail)
 go_loopw [] (fun wr => ∃ k, k ≤ N ∧ LM wr B g s vt vn { st with i := st.i + k } ∧ Below B w wr ∧ Hid (k + seqN (l.drop k) = N)) (fun wr => lexN g s.length wr)
 case atStart => exact ⟨0, by omega, h, Below.refl _ _, HN0⟩
 case round =>
  obtain ⟨k, hk, hL, hb, hq⟩ := hrel
  clear HN0 c1 h
  have hms := lexN_of hL s.length
  have HMS := Lib.hid hms
  clear hms
  obtain ⟨i1, hi1⟩ : ∃ i1, st.i + k = i1 := ⟨_, rfl⟩
  rw [hi1] at hL HMS
  have c0 := hL.c0
  have c1 := hL.c1
  have hB1 : B ≤ wr.heap.size := Nat.le_trans hlo (Nat.le_of_lt hL.lt)
  have hcs : (k < N ∧ ∃ x, x < 256 ∧ (∃ hlt : i1 < s.length, ((mks s)[i1]'(by rw [size_mks]; exact hlt)).toNat = x) ∧ (letB x || numB x) = true ∧ Hid (k + 1 + seqN (l.drop (k + 1)) = N)) ∨ (k = N ∧ (i1 = s.length ∨ (∃ x, x < 256 ∧ (∃ hlt : i1 < s.length, ((mks s)[i1]'(by rw [size_mks]; exact hlt)).toNat = x) ∧ (letB x || numB x) = false))) := by
   rcases byte_at s hs i1 (by omega) with ⟨h2, h3⟩ | ⟨x, t2, h2, h3, hx, hlt, hg⟩
   ·refine .inr ⟨?_, .inl h2⟩
    have := hq.out
    rw [← HDR.out k, hi1, h3] at this
    simpa [seqN] using this
   ·have hxk : l[k]? = some x := by
     have h5 := HDR.out k
     rw [hi1, h2] at h5
     have := congrArg (fun l => l[0]?) h5
     simpa using this.symm
    rcases seqN_step hxk hq.out with ⟨h5, h6⟩ | ⟨h5, h6⟩
    ·exact .inl ⟨by omega, x, hx, ⟨hlt, hg⟩, h5, h6⟩
    ·exact .inr ⟨h6, .inr ⟨x, hx, ⟨hlt, hg⟩, h5⟩⟩
  clear hq
  rcases hcs with ⟨hkN, x, hx, ⟨hlt, hg⟩, hxx, hq⟩ | ⟨rfl, hend⟩
  ·have hlt' : (i1 : Int) < s.length := by omega
   have hd : decide ((i1 : Int) < s.length) = true := by simp; omega
   have DL := isL_h x hx
   have DN := isN_h x hx
   cases hlb : letB x
   all_goals
    rw [hlb] at DL hxx
    simp only [Bool.false_or, Bool.true_or] at hxx
    try rw [hxx] at DN
    clear hlb hxx
    go_upto_region 1 with (fail)
    go_quiet ((first | (go_at_call 50; exact quiet_left (DL.out _)) | (go_at_call 51; exact quiet_left (DN.out _))))
    have hL1 := hL.drewN nq
    have hb1 : Below B w (wr.drewN nq) := Below.drewN' hb nq
    clear hL hb c0 c1
    generalize wr.drewN nq = W1 at *
    have c1 := hL1.c1
    have f1 := hL1.f 1
    have hL3 := hL1.setI (i1 + 1)
    have hb3 := hb1.setCell hlo (p := ⟨g, 1, none⟩) (.int .i64 ((i1 + 1 : Nat) : Int))
    have e1 : ((i1 + 1 : Nat) : Int) = (i1 : Int) + 1 := by omega
    rw [e1] at hL3 hb3
    have HL3 := Lib.hid hL3
    have HB3 := Lib.hid hb3
    clear e1 hL3 hb3
    go_wp2_with (fail)
    go_roundw
    case rel =>
     refine ⟨k + 1, by omega, ?_, HB3.out, hq⟩
     rw [show st.i + (k + 1) = i1 + 1 by omega]
     exact HL3.out
    case measure =>
     rw [lexN_of HL3.out, HMS.out]
     simp only [he, if_true]
     omega
  ·have hsl : (s.take i1).drop st.i = l.take k := by
    rw [← hi1, ← take_drop_eq, HL0.out]
   obtain ⟨tk, htk2⟩ : ∃ tk, l.take k = tk := ⟨_, rfl⟩
   have htl : tk.length = k := by rw [← htk2, List.length_take]; omega
   have htb : By tk := by rw [← htk2, ← HL0.out]; exact (hs.drop _).take _
   have ht0 : tk[0]? = some c := by rw [← htk2, List.getElem?_take, if_pos (by omega), hct]; rfl
   have hcb := htb.get ht0
   have hg0 := get_mks ht0 hcb (by rw [size_mks]; omega)
   have hlen0 : (0 : Int) < tk.length := by omega
   rw [htk2] at hsl
   have HSL := Lib.hid hsl
   have hsv : seqV l = if numB c then (if (numeralV tk).isNone then (noTok, 12) else (⟨3, 0, k, tk⟩, 0)) else if tk = litTrue ∨ tk = litFalse ∨ tk = litNull then (⟨4, 0, k, tk⟩, 0) else (noTok, 4) := by
    unfold seqV
    rw [HN.out, htk2, show l.getD 0 0 = c by rw [hct]; rfl]
   have HSV := Lib.hid hsv
   have hi1l : i1 ≤ s.length := by omega
   have hi0 : (st.i : Int) ≤ i1 := by omega
   have hi1' : (i1 : Int) ≤ s.length := by omega
   clear hsl hsv htk2 ht0
   have DN0 := isN_h c hcb
   have hcs : (∃ d, d = false ∧ decide ((i1 : Int) < s.length) = d) ∨ (∃ x, x < 256 ∧ (∃ hlt : i1 < s.length, ((mks s)[i1]'(by rw [size_mks]; exact hlt)).toNat = x) ∧ letB x = false ∧ numB x = false ∧ decide ((i1 : Int) < s.length) = true) := by
    rcases hend with h1 | ⟨x, hx, ⟨hlt, hg⟩, hxx⟩
    ·exact .inl ⟨_, rfl, by simp; omega⟩
    ·rw [Bool.or_eq_false_iff] at hxx
     exact .inr ⟨x, hx, ⟨hlt, hg⟩, hxx.1, hxx.2, by simp; omega⟩
   clear hend
   go_upto_region 1 with (fail)
   go_cut [44] from 11 to 51 (fun v wx => v = .bool false ∧ LM wx B g s vt vn { st with i := i1 } ∧ Below B w wx)
   case first =>
    rcases hcs with ⟨d, rfl, hd⟩ | ⟨x, hx, ⟨hlt, hg⟩, hlb, hnb, hd⟩
    ·have hge : ¬ (i1 : Int) < s.length := by simpa using hd
     go_quiet (fail)
     have hL1 := hL.drewN nq
     have hb1 : Below B w (wr.drewN nq) := Below.drewN' hb nq
     clear hL hb c0 c1
     generalize wr.drewN nq = W1 at *
     go_wp2_with fail
     go_meet
     exact ⟨rfl, hL1, hb1⟩
    ·have DL := isL_h x hx
     have DN := isN_h x hx
     rw [hlb] at DL
     rw [hnb] at DN
     have hlt' : (i1 : Int) < s.length := by omega
     clear hlb hnb
     go_quiet ((first | (go_at_call 50; exact quiet_left (DL.out _)) | (go_at_call 51; exact quiet_left (DN.out _))))
     have hL1 := hL.drewN nq
     have hb1 : Below B w (wr.drewN nq) := Below.drewN' hb nq
     clear hL hb c0 c1
     generalize wr.drewN nq = W1 at *
     go_wp2_with fail
     go_meet
     exact ⟨rfl, hL1, hb1⟩
   case rest =>
    obtain ⟨rfl, hL1, hb1⟩ := hcut
    obtain ⟨w1, hw1⟩ : ∃ x, x = wc := ⟨_, rfl⟩
    subst hw1
    clear hcs hL hb c0 c1 HMS
    have c0 := hL1.c0
    have c1 := hL1.c1
    go_upto_region 3 with (fail)
    go_quiet (fail)
    have hL3 := hL1.drewN nq
    have hb3 : Below B w (w1.drewN nq) := Below.drewN' hb1 nq
    have hB3 : B ≤ (w1.drewN nq).heap.size := Nat.le_trans hlo (Nat.le_of_lt hL1.lt)
    clear c0 c1 hL1 hb1
    generalize w1.drewN nq = W3 at *
    rw [HSL.out]
    go_upto_if 64 with (go_at_call 51; ((with_reducible refine (DN0.out _).mono ?_)); rintro e wn ⟨rfl, rfl⟩)
    go_cut [4] (fun kv wx => ∃ kd er a : Nat, kv = .int .i64 (kd : Int) ∧ LM wx B g s vt vn ⟨i1, st.toks, st.notes, er, a⟩ ∧ Below B w wx ∧ Hid ((er = 0 ∧ a = st.at_ ∧ seqV l = (⟨kd, 0, k, tk⟩, 0)) ∨ (er ≠ 0 ∧ a = st.i ∧ seqV l = (noTok, er))))
    case first =>
     obtain ⟨nb, hnb⟩ : ∃ nb, numB c = nb := ⟨_, rfl⟩
     have hsv := HSV.out
     rw [hnb] at hsv ⊢
     clear DN0 hnb HSV
     cases nb with
     | true =>
      simp only [if_true] at hsv
      have DNU := Lib.hid (fun w => rnumeral_any tk htb (by omega) w)
      have hlaw := rnum_law tk (by omega)
      have HLW := Lib.hid hlaw
      have HSV := Lib.hid hsv
      have D12 : ∀ W, LM W B g s vt vn { st with i := i1 } → Hid (Calls Tryz.prog 53 #[.pointer (some ⟨g, 0, none⟩), .int .i64 12, .int .i64 (st.i : Int)] W
       fun en w' => en = .returned (.tuple #[]) ∧ LM w' B g s vt vn ⟨i1, st.toks, st.notes, 12, st.i⟩ ∧ Below B W w') := fun W hW => lfail_h hW (Nat.le_trans hlo (Nat.le_of_lt hW.lt)) 12 12 rfl st.i
      have HD12 := Lib.hid D12
      clear hlaw hsv D12
      go_upto_region 8 with (first | (go_at_call 56; ((with_reducible refine (DNU.out _).mono ?_)); rintro e w5 ⟨hb5, b5, A5, n5, c5, x5, ok5, rfl, hm5⟩; have HA5 := Lib.hid (Arr.new w5 108 [.bool false, .slice none 0 0, .int .i64 0])) | ((with_reducible show wpList _ _ _ (Oper.mk none (Op.store 108 (Operand.tmp 5) (Operand.tmp 68)) _ _ _ _ :: _) _ _); go_loud (refine wpList_sr rfl rfl 108 (.tmp 5) (.tmp 68) rfl (w5.heap.size) [.bool b5, .slice A5 n5 c5, .int .i64 x5] rfl rfl 108 _ HA5.out _ Tryz.sz108 (by first | rfl | simp) (by first | rfl | simp) (by first | rfl | simp [Value.oneCell']) ?_; intro w6 hr6 hg6 hz6)))
      have hb6 : Below W3.heap.size W3 w6 := (hb5.alloc hb5.size _).grown hg6 (by have := hb5.size; simp; omega) (fun k e => by have := Option.some.inj e; have := hb5.size; omega)
      have hL6 := hL3.below hb6
      have hB6 : Below B w w6 := hb3.trans (hb6.mono hB3)
      rcases HLW.out with ⟨n1, n2⟩ | ⟨y1, y2, n1, n2, _⟩
      ·rw [n2] at hm5
       obtain rfl : ok5 = false := hm5
       have D := HD12.out w6 hL6
       have hfin := Lib.hid (show seqV l = (noTok, 12) by rw [HSV.out, n1]; rfl)
       clear n1 n2 HLW HSV hr6 HA5 hg6 hz6
       go_wp2_with (go_at_call 53; ((with_reducible refine D.out.mono ?_)); rintro e w8 ⟨rfl, hL8, hb8⟩)
       go_meet
       exact ⟨3, 12, st.i, rfl, hL8, hB6.trans hb8, Lib.hid (.inr ⟨by decide, rfl, hfin.out⟩)⟩
      ·rw [n2] at hm5
       obtain ⟨rfl, _, _, _⟩ := hm5
       have hfin := Lib.hid (show seqV l = (⟨3, 0, k, tk⟩, 0) by rw [HSV.out, n1]; rfl)
       clear n1 n2 HLW HSV hr6 HA5 hg6 hz6
       go_wp2_with (fail)
       go_meet
       exact ⟨3, 0, st.at_, rfl, he ▸ hL6, hB6, Lib.hid (.inl ⟨rfl, rfl, hfin.out⟩)⟩
     | false =>
      simp only [Bool.false_eq_true, if_false] at hsv
      have HSV := Lib.hid hsv
      have D4 := lfail_h hL3 hB3 4 4 rfl st.i
      have i1 := toL_iff htb [116, 114, 117, 101]
      have i2 := toL_iff htb [102, 97, 108, 115, 101]
      have i3 := toL_iff htb [110, 117, 108, 108]
      have hwd : ((tk = litTrue ∨ tk = litFalse ∨ tk = litNull) ∧ ((mks tk).toList = [116, 114, 117, 101] ∨ (¬ (mks tk).toList = [116, 114, 117, 101] ∧ (mks tk).toList = [102, 97, 108, 115, 101]) ∨ (¬ (mks tk).toList = [116, 114, 117, 101] ∧ ¬ (mks tk).toList = [102, 97, 108, 115, 101] ∧ (mks tk).toList = [110, 117, 108, 108]))) ∨
        (¬ (tk = litTrue ∨ tk = litFalse ∨ tk = litNull) ∧ (¬ (mks tk).toList = [116, 114, 117, 101] ∧ ¬ (mks tk).toList = [102, 97, 108, 115, 101] ∧ ¬ (mks tk).toList = [110, 117, 108, 108])) := by
       rw [i1, i2, i3]
       exact three (tk = litTrue) (tk = litFalse) (tk = litNull)
      clear i1 i2 i3 hsv
      rcases hwd with ⟨hy, hw⟩ | ⟨hy, hw1, hw2, hw3⟩
      ·have hfin := Lib.hid (show seqV l = (⟨4, 0, k, tk⟩, 0) by rw [HSV.out, if_pos hy])
       clear hy HSV
       rcases hw with hw1 | ⟨hw1, hw2⟩ | ⟨hw1, hw2, hw3⟩
       all_goals
        go_wp2_with (fail)
        go_meet
        exact ⟨4, 0, st.at_, rfl, he ▸ hL3, hb3, Lib.hid (.inl ⟨rfl, rfl, hfin.out⟩)⟩
      ·have hfin := Lib.hid (show seqV l = (noTok, 4) by rw [HSV.out, if_neg hy])
       have hw1 : ((mks tk).toList == [116, 114, 117, 101]) = false := beq_eq_false_iff_ne.2 hw1
       have hw2 : ((mks tk).toList == [102, 97, 108, 115, 101]) = false := beq_eq_false_iff_ne.2 hw2
       have hw3 : ((mks tk).toList == [110, 117, 108, 108]) = false := beq_eq_false_iff_ne.2 hw3
       clear hy HSV
       go_wp2_with (go_at_call 53; ((with_reducible refine D4.out.mono ?_)); rintro e w8 ⟨rfl, hL8, hb8⟩)
       go_meet
       exact ⟨4, 4, st.i, rfl, hL8, hb3.trans hb8, Lib.hid (.inr ⟨by decide, rfl, hfin.out⟩)⟩
    case rest =>
     obtain ⟨kd, er, a, rfl, hL4, hb4, hfin⟩ := hcut
     obtain ⟨w4, hw4⟩ : ∃ x, x = wc := ⟨_, rfl⟩
     subst hw4
     clear hL3 hb3 hB3 HSV DN0
     have c1 := hL4.c1
     have c2 := hL4.c2
     have d1 := (hL4.par.alloc (.cells #[.int .i64 (kd : Int), .int .i64 (st.i : Int), .int .i64 (i1 : Int), .string (mks tk)] 62)).cell' (i := 1) rfl
     have d2 := (hL4.par.alloc (.cells #[.int .i64 (kd : Int), .int .i64 (st.i : Int), .int .i64 (i1 : Int), .string (mks tk)] 62)).cell' (i := 2) rfl
     go_upto_region 12 with (fail)
     have hTd : w4.drew.ownsRow B 62 4 _ st.toks.length (toksC st.toks) := hL4.tok; have hBW : B ≤ w4.heap.size := Nat.le_trans hL4.lo (Nat.le_of_lt hL4.lt); go_region_law (refine step_apS rfl (.tmp 92) (.tmp 101) 55 rfl B 62 _ 4 _ Tryz.underlying55 Tryz.infoS62 rfl (by decide) _ st.toks.length (toksC st.toks) rfl (hTd.alloc _) ⟨w4.heap.size, 0, none⟩ _ [.int .i64 (kd : Int), .int .i64 (st.i : Int), .int .i64 (i1 : Int), .string (mks tk)] rfl rfl (cells_new _ _ _) rfl (by unfold maxLen; omega) (by omega) (by simp; omega) ?_; intro v3 w3 hown3 hgr3 hat3; obtain ⟨A3, c3, rfl, hc3, hm3⟩ := own_slice hown3; obtain ⟨P3, hL3, hB3⟩ := LM.pushT hL4 ⟨kd, st.i, i1, tk⟩ _ hown3 hgr3 hat3; have p3 := P3.cell' (i := 2) rfl; have q3 := P3.frozen 2; clear hgr3 hat3 hown3)
     all_goals
      go_wp2_with (fail)
      go_end0
      refine ⟨rfl, _, _, _, hL3, ?_, hb4.trans hB3⟩
      rw [← HO.out]
      rcases hfin.out with ⟨rfl, rfl, hv⟩ | ⟨hne, rfl, hv⟩
      ·rw [hv]
       show _ = _
       simp [hi1, he]
      ·rw [hv]
       unfold tokO
       rw [if_neg hne]
       exact ⟨hne, rfl, rfl, by show i1 ≤ _; omega⟩
end Go.Proofs.YtbdnamcjhndpjaaGreatDoor
