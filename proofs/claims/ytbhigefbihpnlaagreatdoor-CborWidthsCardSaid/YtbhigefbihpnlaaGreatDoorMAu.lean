/- The walk of (*cbor.parser).content. -/
import Derived.Test.YtbhigefbihpnlaaGreatDoorMAt
import Derived.Deep.RegionHeld3
set_option linter.unusedVariables false
set_option linter.unusedSimpArgs false
set_option linter.defProp false
set_option linter.constructorNameAsVariable false
namespace Go.Proofs.YtbhigefbihpnlaaGreatDoor
open Go.RowKit
def ConL (s : List Nat) (W : World) (B : Nat) (F : Nat → Prop) (h : CH) (n span d f : Nat) (R : CR CSt) (j : Nat) (wr : World) : Prop :=
 ∃ vn vs vh vm ncs lab st, PW s wr B vn vs vh vm ncs lab st ∧ PStep W wr F (CF B vn vs lab) ∧ j ≤ st.i ∧ n < st.nodes.length ∧ ∃ g, g ≤ f ∧ contentC s g h n span d j st = R
theorem ConL.of {s : List Nat} {W : World} {B : Nat} {F : Nat → Prop} {h : CH} {n span d f : Nat} {R : CR CSt} {j : Nat} {wr : World} {vn vs vh vm : Value} {ncs : List Value} {lab : Nat → Option Nat} {st : CSt} {g : Nat} (h1 : PW s wr B vn vs vh vm ncs lab st) (h2 : PStep W wr F (CF B vn vs lab)) (h3 : j ≤ st.i) (h4 : n < st.nodes.length) (h5 : g ≤ f) (h6 : contentC s g h n span d j st = R) : ConL s W B F h n span d f R j wr := ⟨vn, vs, vh, vm, ncs, lab, st, h1, h2, h3, h4, g, h5, h6⟩
set_option maxRecDepth 20000 in
set_option maxHeartbeats 16000000 in
theorem content_cb (f : Nat) (hV : ∀ g, g < f → ValH g) : ConH f := by
 intro s w B vn vs vh vm ncs lab st x n span d hw hn hx hd hne
 obtain ⟨hat, m, k, a⟩ := x
 obtain ⟨R, hR⟩ : ∃ R, contentC s f ⟨hat, m, k, a⟩ n span d 0 st = R := ⟨_, rfl⟩
 rw [hR] at hne ⊢
 obtain ⟨F, hF⟩ : ∃ F, CF B vn vs lab = F := ⟨_, rfl⟩
 have HNE := Lib.hid hne
 have HV := Lib.hid hV
 have HX := Lib.hid (Arr.new w 76 [.int .i64 (hat : Int), .int .i64 (m : Int), .int .i64 (k : Int), .int .u64 (a : Int)])
 have HBd := Lib.hid ((Below.refl w.heap.size w).alloc (Nat.le_refl _) (.cells #[.int .i64 (hat : Int), .int .i64 (m : Int), .int .i64 (k : Int), .int .u64 (a : Int)] 76))
 have HFN := Lib.hid (hw.new (g := w.heap.size) (Nat.le_refl _))
 have HPW := Lib.hid (hw.below HBd.out)
 have HL0 : Hid (ConL s (w.alloc (.cells #[.int .i64 (hat : Int), .int .i64 (m : Int), .int .i64 (k : Int), .int .u64 (a : Int)] 76)) B F ⟨hat, m, k, a⟩ n span d f R 0 (w.alloc (.cells #[.int .i64 (hat : Int), .int .i64 (m : Int), .int .i64 (k : Int), .int .u64 (a : Int)] 76))) := ConL.of HPW.out (by rw [← hF]; exact PStep.of_below (Below.refl _ _)) (Nat.zero_le _) hn (Nat.le_refl f) hR
 have HAR := Lib.hid hx
 have HP0 : Hid (PStep w (w.alloc (.cells #[.int .i64 (hat : Int), .int .i64 (m : Int), .int .i64 (k : Int), .int .u64 (a : Int)] 76)) F F) := PStep.of_below HBd.out
 rw [hF] at HFN ⊢
 have hdd : (d : Int) ≤ 33 := by omega
 have HD := Lib.hid hd
 clear hw hn hx hne hV hR HBd HPW hF hd
 go_enter Tryz.func55, Tryz.ntmps55
 go_upto_region 1 with (fail)
 change Hid (Arr (w.alloc (.cells #[.int .i64 (hat : Int), .int .i64 (m : Int), .int .i64 (k : Int), .int .u64 (a : Int)] 76)) w.heap.size 76 _) at HX
 generalize (w.alloc (.cells #[.int .i64 (hat : Int), .int .i64 (m : Int), .int .i64 (k : Int), .int .u64 (a : Int)] 76)) = W at *
 obtain ⟨gb, hgb⟩ : ∃ x, w.heap.size = x := ⟨_, rfl⟩
 rw [hgb] at HX HFN ⊢
 clear hgb
 go_wp2_with (fail)
 go_loopw [11] (fun kv wr => ∃ j : Nat, kv = .int .u64 (j : Int) ∧ Hid (ConL s W B F ⟨hat, m, k, a⟩ n span d f R j wr)) (fun kv _ => 100000 - (intOf kv).toNat)
 case atStart => exact ⟨0, rfl, HL0⟩
 case round =>
  clear HL0
  obtain ⟨j, rfl, hrx⟩ := hrel
  obtain ⟨vn, vs, vh, vm, ncs, lab, stx, hPW, hPS, hji, hnx, g, hgf, hRg⟩ := hrx.out
  have X1 := Lib.hid (hPS.arr HX.out HFN.out)
  have X1F := Lib.hid (hPS.out HX.out.lt HFN.out)
  have x1 := X1.out.cell' (i := 1) rfl
  have x2 := X1.out.cell' (i := 2) rfl
  have x3 := X1.out.cell' (i := 3) rfl
  have PS := Lib.hid (HP0.out.trans hPS)
  have PSW := Lib.hid hPS
  have HWS := Lib.hid hPS.size
  have PWx := Lib.hid hPW
  have hj7 : (j : Int) ≤ 70000 := by have := hPW.ci.i; have := hPW.len; omega
  have HJI := Lib.hid hji
  have HNX := Lib.hid hnx
  clear hrx hPW hPS hji hnx
  cases g with
  | zero => exact absurd (show R = .no by rw [← hRg]; unfold contentC; rfl) HNE.out
  | succ g =>
  have HG := Lib.hid hgf
  clear hgf
  by_cases hc : k = 31 ∨ j < a
  ·have hk : (((k : Int) == 31) = true) ∨ (((k : Int) == 31) = false ∧ (j : Int) < a) := by
    by_cases e : k = 31
    ·left; subst e; rfl
    ·right; exact ⟨by rw [beq_eq_false_iff_ne]; omega, by omega⟩
   have HC := Lib.hid (show (CH.mk hat m k a).info = 31 ∨ j < (CH.mk hat m k a).arg from hc)
   have HRG := Lib.hid hRg
   have D := Lib.hid (head_cb PWx.out.by_ PWx.out.len (by have := PWx.out.ci.i; have := PWx.out.len; omega) wr PWx.out.cm.par)
   unfold HeadP at D
   clear hc hRg
   cases hq : hdC s stx.i with
   | no => exact absurd hq (hd_no _ _)
   | err b c =>
    rw [hq] at D
    have hh := Lib.hid (show R = .err b c by rw [← HRG.out, con_err HC.out hq])
    clear hq HRG
    rcases hk with hk1 | ⟨hk1, hk2⟩
    all_goals
     go_upto_region 5 with (go_at_call 21; ((with_reducible refine D.out.mono ?_)); rintro e w3 ⟨rfl, j2, hk⟩)
     have S4 := Lib.hid ((PWx.out.cm.atw hk).2.trans (PStep.of_below (F := CF B vn vs lab) ((Below.refl w3.heap.size w3).alloc (Nat.le_refl _) (.cells #[.int .i64 ((0 : Nat) : Int), .int .i64 ((0 : Nat) : Int), .int .i64 ((0 : Nat) : Int), .int .u64 ((0 : Nat) : Int)] 76))))
     clear hk
     go_wp2
     go_ret
     exact ConP.of_err hh.out rfl (PS.out.trans S4.out)
   | ok p =>
    obtain ⟨⟨hat2, m2, k2, a2⟩, i1⟩ := p
    rw [hq] at D
    have HQ := Lib.hid hq
    have HF2 := Lib.hid (hd_facts PWx.out.by_ hq)
    clear hq
    have E2 := Lib.hid (ends_cb ⟨hat2, m2, k2, a2⟩)
    obtain ⟨bE, hbE⟩ : ∃ b, (CH.mk hat2 m2 k2 a2).ends = b := ⟨_, rfl⟩
    rw [hbE] at E2
    have HBE := Lib.hid hbE
    clear hbE
    rcases hk with hk1 | ⟨hk1, hk2⟩
    ·go_upto_region 5 with (go_at_call 21; ((with_reducible refine D.out.mono ?_)); rintro e w3 ⟨rfl, hk⟩)
     have C4 := Lib.hid ((PWx.out.cm.atw hk).1.below ((Below.refl w3.heap.size w3).alloc (Nat.le_refl _) (.cells #[.int .i64 (hat2 : Int), .int .i64 (m2 : Int), .int .i64 (k2 : Int), .int .u64 (a2 : Int)] 76)))
     have S4 := Lib.hid ((PWx.out.cm.atw hk).2.trans (PStep.of_below (F := CF B vn vs lab) ((Below.refl w3.heap.size w3).alloc (Nat.le_refl _) (.cells #[.int .i64 (hat2 : Int), .int .i64 (m2 : Int), .int .i64 (k2 : Int), .int .u64 (a2 : Int)] 76))))
     have X4 := Lib.hid (S4.out.arr X1.out X1F.out)
     have Y4 := Lib.hid (Arr.new w3 76 [.int .i64 (hat2 : Int), .int .i64 (m2 : Int), .int .i64 (k2 : Int), .int .u64 (a2 : Int)])
     change Hid (Arr (w3.alloc (.cells #[.int .i64 (hat2 : Int), .int .i64 (m2 : Int), .int .i64 (k2 : Int), .int .u64 (a2 : Int)] 76)) w3.heap.size 76 _) at Y4
     have hs3 : wr.heap.size ≤ w3.heap.size := hk.size
     obtain ⟨g4, hg4⟩ : ∃ x, w3.heap.size = x := ⟨_, rfl⟩
     rw [hg4] at Y4 hs3 ⊢
     generalize (w3.alloc (.cells #[.int .i64 (hat2 : Int), .int .i64 (m2 : Int), .int .i64 (k2 : Int), .int .u64 (a2 : Int)] 76)) = W4 at *
     clear hk D
     have y0 := Y4.out.cell' (i := 0) rfl
     have y1 := Y4.out.cell' (i := 1) rfl
     have y2 := Y4.out.cell' (i := 2) rfl
     have y3 := Y4.out.cell' (i := 3) rfl
     clear x1 x2 x3
     have x1 := X4.out.cell' (i := 1) rfl
     have x2 := X4.out.cell' (i := 2) rfl
     cases bE
     ·go_upto_region 9 with (go_at_call 76; ((with_reducible refine (E2.out _).mono ?_)); rintro e w5 ⟨rfl, hb5⟩)
      have C5 := Lib.hid (C4.out.below hb5)
      have S5 := Lib.hid (S4.out.trans (PStep.of_below hb5))
      have X5 := Lib.hid (X4.out.keep hb5)
      have Y5 := Lib.hid (Y4.out.keep hb5)
      have hg5 : g4 < w5.heap.size := Y5.out.lt
      have HNE2 : Hid (¬ ((CH.mk hat m k a).info = 31 ∧ (CH.mk hat2 m2 k2 a2).ends = true)) := by show ¬ _; rw [HBE.out]; simp
      clear hb5 C4 S4 X4 Y4 y0 y1 y2 y3 x1 x2 E2
      clear hg4
      have hs5 : wr.heap.size ≤ g4 := hs3
      have G5F := Lib.hid (PWx.out.new hs5)
      have PW5 := Lib.hid (PWx.out.step S5.out C5.out (PWx.out.ci.to (by have := HF2.out.2.1; omega) HF2.out.2.2.1))
      have PS5 := Lib.hid (PS.out.trans S5.out)
      have PSW5 := Lib.hid (PSW.out.trans S5.out)
      have SB := (Below.refl w5.heap.size w5).alloc (Nat.le_refl _) (.cells #[.int .i64 0, .int .i64 (span : Int), .int .i64 (j : Int), .int .i64 0, .int .i64 0, .int .i64 0, .int .i64 0, .bool false, .bool false] 55)
      have Z6 : Hid (Arr (w5.alloc (.cells #[.int .i64 0, .int .i64 (span : Int), .int .i64 (j : Int), .int .i64 0, .int .i64 0, .int .i64 0, .int .i64 0, .bool false, .bool false] 55)) w5.heap.size 55 [.int .i64 0, .int .i64 (span : Int), .int .i64 (j : Int), .int .i64 0, .int .i64 0, .int .i64 0, .int .i64 0, .bool false, .bool false]) := Arr.new w5 _ _
      have PW6 := Lib.hid (PW5.out.below SB)
      have PS6 := Lib.hid (PS5.out.trans (PStep.of_below SB))
      have PSW6 := Lib.hid (PSW5.out.trans (PStep.of_below SB))
      have X6 := Lib.hid (X5.out.keep SB)
      have Y6 := Lib.hid (Y5.out.keep SB)
      have Z6F := Lib.hid (PW5.out.new (g := w5.heap.size) (Nat.le_refl _))
      go_upto_region 10 with (fail)
      obtain ⟨gs, hgs⟩ : ∃ x, w5.heap.size = x := ⟨_, rfl⟩
      rw [hgs] at Z6 Z6F hg5 ⊢
      clear SB
      generalize (w5.alloc (.cells #[.int .i64 0, .int .i64 (span : Int), .int .i64 (j : Int), .int .i64 0, .int .i64 0, .int .i64 0, .int .i64 0, .bool false, .bool false] 55)) = w6 at *
      clear hgs C5 S5 PS PSW X5 Y5 PS5 PSW5 PW5
      have x1 := X6.out.cell' (i := 1) rfl
      by_cases h5 : m = 5
      ·have e5 : ((m : Int) == 5) = true := by subst h5; rfl
       have HRK := Lib.hid (show R = (keyC s ⟨hat2, m2, k2, a2⟩ n d { stx with i := i1 }).bind fun st1 => (hdC s st1.i).bind fun q => (valueC s g q.1 ⟨0, (span : Int), (j : Int), 0, 0, (hat2 : Int), (st1.i : Int), false, false⟩ d { st1 with i := q.2 }).bind (itemC s g ⟨hat, m, k, a⟩ n span d j) by rw [← HRG.out]; exact con_key HC.out HQ.out HNE2.out h5)
       have hkno : keyC s ⟨hat2, m2, k2, a2⟩ n d { stx with i := i1 } ≠ .no := fun e => HNE.out (by rw [HRK.out, e]; rfl)
       have hkl7 : (ndAt stx.nodes n).keys.length ≤ 65536 := by have := (PWx.out.ci.kl _ (ndAt_mem HNX.out)).1; have := PWx.out.ci.i; have := PWx.out.len; omega
       have DK := Lib.hid (key_cb PW6.out.by_ PW6.out.len PW6.out.ci.i PW6.out.cm ⟨hat2, m2, k2, a2⟩ n d HF2.out.2.2.2.1 hkno PW6.out.libH PW6.out.ci.nod HNX.out PW6.out.ci.by_ hkl7 (PW6.out.ci.ks _ (ndAt_mem HNX.out)))
       unfold KeyP at DK
       have y0 := Y6.out.cell' (i := 0) rfl
       have y1 := Y6.out.cell' (i := 1) rfl
       have y2 := Y6.out.cell' (i := 2) rfl
       have y3 := Y6.out.cell' (i := 3) rfl
       clear h5 hkl7 HRG
       cases hkq : keyC s ⟨hat2, m2, k2, a2⟩ n d { stx with i := i1 } with
       | no => exact absurd hkq hkno
       | err b c =>
        rw [hkq] at DK
        have hh := Lib.hid (show R = .err b c by rw [HRK.out, hkq]; rfl)
        clear hkq hkno HRK
        go_upto_region 12 with (go_at_call 77; ((with_reducible refine DK.out.mono ?_)); rintro e w7 ⟨rfl, F7, hS7⟩)
        go_wp2
        go_ret
        exact ConP.of_err hh.out rfl (PS6.out.trans hS7)
       | ok st7 =>
        rw [hkq] at DK
        have HRK7 := Lib.hid (show R = (hdC s st7.i).bind fun q => (valueC s g q.1 ⟨0, (span : Int), (j : Int), 0, 0, (hat2 : Int), (st7.i : Int), false, false⟩ d { st7 with i := q.2 }).bind (itemC s g ⟨hat, m, k, a⟩ n span d j) by rw [HRK.out, hkq]; rfl)
        have KC := Lib.hid (key_ci PW6.out.by_ PW6.out.ci (n := n) HNX.out (by show (ndAt stx.nodes n).keys.length < i1; have := (PWx.out.ci.kl _ (ndAt_mem HNX.out)).1; have := HF2.out.2.1; omega) hkq)
        clear hkq hkno HRK
        go_upto_region 14 with (go_at_call 77; ((with_reducible refine DK.out.mono ?_)); rintro e w7 ⟨rfl, vn7, ncs7, lab7, C7, hS7⟩)
        have PW7 := Lib.hid (PW6.out.step hS7 C7 KC.out.1.ci)
        have PS7 := Lib.hid (PS6.out.trans hS7)
        have PSW7 := Lib.hid (PSW6.out.trans hS7)
        have Y7 := Lib.hid (hS7.arr Y6.out G5F.out)
        have Y7F := Lib.hid (hS7.out Y6.out.lt G5F.out)
        have Z7 := Lib.hid (hS7.arr Z6.out Z6F.out)
        have Z7F := Lib.hid (hS7.out Z6.out.lt Z6F.out)
        have b1 : w7.cell? ⟨B, 1, none⟩ = some (.int .i64 (st7.i : Int)) := C7.par.cell' (i := 1) rfl
        clear y0 y1 y2 y3 x1 X6 Y6 Z6 PW6 PS6 PSW6 DK C7 hS7 G5F Z6F
        have y0 := Y7.out.cell' (i := 0) rfl
        have z5 := Z7.out.cell' (i := 5) rfl
        have z6 := Z7.out.cell' (i := 6) rfl
        have zf5 := Z7.out.frozen 5
        have zf6 := Z7.out.frozen 6
        have hBg : B ≤ g4 := by have := PWx.out.cm.lt; omega
        have hBgs : B ≤ gs := by omega
        have hWg : W.heap.size ≤ g4 := Nat.le_trans HWS.out hs3
        have hwg : w.heap.size ≤ g4 := Nat.le_trans HP0.out.size hWg
        have hgg : g4 ≠ gs := by omega
        have PW8 := Lib.hid (((PW7.out.aside Z7F.out hBgs 5 (.int .i64 (hat2 : Int))).aside Z7F.out hBgs 6 (.int .i64 (st7.i : Int))).drew)
        have PS8 := Lib.hid (((PS7.out.aside (g := gs) (by omega) 5 (.int .i64 (hat2 : Int))).aside (g := gs) (by omega) 6 (.int .i64 (st7.i : Int))).drew)
        have PSW8 := Lib.hid (((PSW7.out.aside (g := gs) (by omega) 5 (.int .i64 (hat2 : Int))).aside (g := gs) (by omega) 6 (.int .i64 (st7.i : Int))).drew)
        have Y8 : Hid (Arr ((w7.setCell ⟨gs, 5, none⟩ (.int .i64 (hat2 : Int))).setCell ⟨gs, 6, none⟩ (.int .i64 (st7.i : Int))).drew g4 76 [.int .i64 (hat2 : Int), .int .i64 (m2 : Int), .int .i64 (k2 : Int), .int .u64 (a2 : Int)]) := (Y7.out.far (p := ⟨gs, 5, none⟩) hgg _).far (p := ⟨gs, 6, none⟩) hgg _
        have Z8 : Hid (Arr ((w7.setCell ⟨gs, 5, none⟩ (.int .i64 (hat2 : Int))).setCell ⟨gs, 6, none⟩ (.int .i64 (st7.i : Int))).drew gs 55 [.int .i64 0, .int .i64 (span : Int), .int .i64 (j : Int), .int .i64 0, .int .i64 0, .int .i64 (hat2 : Int), .int .i64 (st7.i : Int), .bool false, .bool false]) := (Z7.out.store 5 _).store 6 _
        go_region
        generalize ((w7.setCell ⟨gs, 5, none⟩ (.int .i64 (hat2 : Int))).setCell ⟨gs, 6, none⟩ (.int .i64 (st7.i : Int))).drew = w8 at *
        clear y0 z5 z6 zf5 zf6 b1 PW7 PS7 PSW7 Y7 Z7
        have D8 := Lib.hid (head_cb PW8.out.by_ PW8.out.len (by have := PW8.out.ci.i; have := PW8.out.len; omega) w8 PW8.out.cm.par)
        unfold HeadP at D8
        cases hq8 : hdC s st7.i with
        | no => exact absurd hq8 (hd_no _ _)
        | err b c =>
         rw [hq8] at D8
         have hh := Lib.hid (show R = .err b c by rw [HRK7.out, hq8]; rfl)
         clear hq8 HRK7
         go_upto_region 16 with (go_at_call 21; ((with_reducible refine D8.out.mono ?_)); rintro e w9 ⟨rfl, j2, hk⟩; have hY9 := Lib.hid ((PW8.out.cm.atw hk).2.arr Y8.out Y7F.out); have y0 := hY9.out.cell' (i := 0) rfl; have y1 := hY9.out.cell' (i := 1) rfl; have y2 := hY9.out.cell' (i := 2) rfl; have y3 := hY9.out.cell' (i := 3) rfl; have f0 := hY9.out.frozen 0; have f1 := hY9.out.frozen 1; have f2 := hY9.out.frozen 2; have f3 := hY9.out.frozen 3)
         have S9h := Lib.hid (PW8.out.cm.atw hk).2
         clear hk
         go_wp2
         go_ret
         exact ConP.of_err hh.out rfl (((((PS8.out.trans S9h.out).aside hwg 0 _).aside hwg 1 _).aside hwg 2 _).aside hwg 3 _)
        | ok p =>
         obtain ⟨⟨hat3, m3, k3, a3⟩, i2⟩ := p
         rw [hq8] at D8
         have HF3 := Lib.hid (hd_facts PW8.out.by_ hq8)
         have HRV := Lib.hid (show R = (valueC s g ⟨hat3, m3, k3, a3⟩ ⟨0, (span : Int), (j : Int), 0, 0, (hat2 : Int), (st7.i : Int), false, false⟩ d { st7 with i := i2 }).bind (itemC s g ⟨hat, m, k, a⟩ n span d j) by rw [HRK7.out, hq8]; rfl)
         clear hq8 HRK7
         go_upto_region 16 with (go_at_call 21; ((with_reducible refine D8.out.mono ?_)); rintro e w9 ⟨rfl, hk⟩; have hY9 := Lib.hid ((PW8.out.cm.atw hk).2.arr Y8.out Y7F.out); have y0 := hY9.out.cell' (i := 0) rfl; have y1 := hY9.out.cell' (i := 1) rfl; have y2 := hY9.out.cell' (i := 2) rfl; have y3 := hY9.out.cell' (i := 3) rfl; have f0 := hY9.out.frozen 0; have f1 := hY9.out.frozen 1; have f2 := hY9.out.frozen 2; have f3 := hY9.out.frozen 3)
         have S9 := Lib.hid (PW8.out.cm.atw hk).2
         have C9 := Lib.hid (PW8.out.cm.atw hk).1
         have PW9 := Lib.hid (PW8.out.step S9.out C9.out (PW8.out.ci.to (by have := HF3.out.2.1; omega) HF3.out.2.2.1))
         have Z9 := Lib.hid (S9.out.arr Z8.out Z7F.out)
         have Y10 : Hid (Arr ((((w9.setCell ⟨g4, 0, none⟩ (.int .i64 (hat3 : Int))).setCell ⟨g4, 1, none⟩ (.int .i64 (m3 : Int))).setCell ⟨g4, 2, none⟩ (.int .i64 (k3 : Int))).setCell ⟨g4, 3, none⟩ (.int .u64 (a3 : Int))) g4 76 [.int .i64 (hat3 : Int), .int .i64 (m3 : Int), .int .i64 (k3 : Int), .int .u64 (a3 : Int)]) := (((hY9.out.store 0 _).store 1 _).store 2 _).store 3 _
         have Z10 := Lib.hid ((((Z9.out.far (p := ⟨g4, 0, none⟩) (Ne.symm hgg) (.int .i64 (hat3 : Int))).far (p := ⟨g4, 1, none⟩) (Ne.symm hgg) (.int .i64 (m3 : Int))).far (p := ⟨g4, 2, none⟩) (Ne.symm hgg) (.int .i64 (k3 : Int))).far (p := ⟨g4, 3, none⟩) (Ne.symm hgg) (.int .u64 (a3 : Int)))
         have PW10 := Lib.hid ((((PW9.out.aside Y7F.out hBg 0 (.int .i64 (hat3 : Int))).aside Y7F.out hBg 1 (.int .i64 (m3 : Int))).aside Y7F.out hBg 2 (.int .i64 (k3 : Int))).aside Y7F.out hBg 3 (.int .u64 (a3 : Int)))
         have PS10 := Lib.hid (((((PS8.out.trans S9.out).aside hwg 0 (.int .i64 (hat3 : Int))).aside hwg 1 (.int .i64 (m3 : Int))).aside hwg 2 (.int .i64 (k3 : Int))).aside hwg 3 (.int .u64 (a3 : Int)))
         have PSW10 := Lib.hid (((((PSW8.out.trans S9.out).aside hWg 0 (.int .i64 (hat3 : Int))).aside hWg 1 (.int .i64 (m3 : Int))).aside hWg 2 (.int .i64 (k3 : Int))).aside hWg 3 (.int .u64 (a3 : Int)))
         clear hk y0 y1 y2 y3 f0 f1 f2 f3 hY9 S9 C9 PW9 Z9 PW8 PS8 PSW8 Y8 Z8 D8
         generalize ((((w9.setCell ⟨g4, 0, none⟩ (.int .i64 (hat3 : Int))).setCell ⟨g4, 1, none⟩ (.int .i64 (m3 : Int))).setCell ⟨g4, 2, none⟩ (.int .i64 (k3 : Int))).setCell ⟨g4, 3, none⟩ (.int .u64 (a3 : Int))) = w10 at *
         have PW7 := PW10
         have PS7 := PS10
         have PSW7 := PSW10
         have HSP7 : Hid (({ st7 with i := i2 } : CSt).spans.length < ({ st7 with i := i2 } : CSt).i) := by show st7.spans.length < i2; have h1 := KC.out.1.ci.spn; have := HF3.out.2.1; omega
         have HAR7 : Hid ((CH.mk hat3 m3 k3 a3).arg < 18446744073709551616) := HF3.out.2.2.2.1
         have HNX7 : Hid (n < ({ st7 with i := i2 } : CSt).nodes.length) := Nat.lt_of_lt_of_le HNX.out KC.out.1.nod
         have HIT7 : Hid ((ndAt ({ st7 with i := i2 } : CSt).nodes n).items.length < ({ st7 with i := i2 } : CSt).i) := by show (ndAt st7.nodes n).items.length < i2; have := (KC.out.1.ci.kl _ (ndAt_mem (i := n) HNX7.out)).2; have := HF3.out.2.1; omega
         have HJ7 : Hid (j + 1 ≤ ({ st7 with i := i2 } : CSt).i) := by show j + 1 ≤ i2; have h1 : i1 ≤ st7.i := KC.out.1.i; have := HJI.out; have := HF2.out.2.1; have := HF3.out.2.1; omega
         have y0 := Y10.out.cell' (i := 0) rfl
         have y1 := Y10.out.cell' (i := 1) rfl
         have y2 := Y10.out.cell' (i := 2) rfl
         have y3 := Y10.out.cell' (i := 3) rfl
         have z0 := Z10.out.cell' (i := 0) rfl
         have z1 := Z10.out.cell' (i := 1) rfl
         have z2 := Z10.out.cell' (i := 2) rfl
         have z3 := Z10.out.cell' (i := 3) rfl
         have z4 := Z10.out.cell' (i := 4) rfl
         have z5 := Z10.out.cell' (i := 5) rfl
         have z6 := Z10.out.cell' (i := 6) rfl
         have z7 := Z10.out.cell' (i := 7) rfl
         have z8 := Z10.out.cell' (i := 8) rfl
         clear KC Y10 Z10 PW10 PS10 PSW10
         have DV : Hid (Calls Tryz.prog 22 #[.pointer (some ⟨B, 0, none⟩), .agg #[.int .i64 (hat3 : Int), .int .i64 (m3 : Int), .int .i64 (k3 : Int), .int .u64 (a3 : Int)], .agg #[.int .i64 0, .int .i64 (span : Int), .int .i64 (j : Int), .int .i64 0, .int .i64 0, .int .i64 (hat2 : Int), .int .i64 (st7.i : Int), .bool false, .bool false], .int .i64 (d : Int)] w10 (ValP s w10 B (CF B vn7 vs lab7) (valueC s g ⟨hat3, m3, k3, a3⟩ ⟨0, (span : Int), (j : Int), 0, 0, (hat2 : Int), (st7.i : Int), false, false⟩ d { st7 with i := i2 }))) := HV.out g (by have := HG.out; omega) s w10 B _ _ _ _ _ _ _ ⟨hat3, m3, k3, a3⟩ ⟨0, (span : Int), (j : Int), 0, 0, (hat2 : Int), (st7.i : Int), false, false⟩ d PW7.out HSP7.out HAR7.out HD.out (fun e => HNE.out (by rw [HRV.out, e]; rfl))
         have VK := Lib.hid ((all_k PW7.out.by_ g).1 ⟨hat3, m3, k3, a3⟩ ⟨0, (span : Int), (j : Int), 0, 0, (hat2 : Int), (st7.i : Int), false, false⟩ d _ · · PW7.out.ci HSP7.out)
         unfold ValP at DV
         cases hv : valueC s g ⟨hat3, m3, k3, a3⟩ ⟨0, (span : Int), (j : Int), 0, 0, (hat2 : Int), (st7.i : Int), false, false⟩ d { st7 with i := i2 } with
         | no => exact absurd (show R = .no by rw [HRV.out, hv]; rfl) HNE.out
         | err b c =>
          rw [hv] at DV
          have hh := Lib.hid (show R = .err b c by rw [HRV.out, hv]; rfl)
          clear hv HRV VK
          go_upto_region 19 with (go_at_call 22; ((with_reducible refine DV.out.mono ?_)); rintro e w8 ⟨rfl, F8, hS8⟩)
          go_wp2
          go_ret
          exact ConP.of_err hh.out rfl (PS7.out.trans hS8)
         | ok p =>
          obtain ⟨item, st8⟩ := p
          rw [hv] at DV
          have HRV8 := Lib.hid (show R = itemC s g ⟨hat, m, k, a⟩ n span d j (item, st8) by rw [HRV.out, hv]; rfl)
          have VK8 := Lib.hid (VK.out _ _ hv)
          clear hv HRV VK
          go_upto_region 19 with (go_at_call 22; ((with_reducible refine DV.out.mono ?_)); rintro e w8 ⟨rfl, vn8, vs8, vh8, vm8, ncs8, lab8, C8, hS8⟩)
          have PW8 := Lib.hid (PW7.out.step hS8 C8 VK8.out.1.ci)
          have PSW8 := Lib.hid (PSW7.out.trans hS8)
          have hn8 : n < st8.nodes.length := Nat.lt_of_lt_of_le HNX7.out VK8.out.1.nod
          have hit8 : (ndAt st8.nodes n).items.length < st8.i := by rw [VK8.out.1.old n HNX7.out trivial]; exact Nat.lt_of_lt_of_le HIT7.out VK8.out.1.i
          have hit8' : (ndAt st8.nodes n).items.length ≤ 65536 := by have := PW8.out.ci.i; have := PW8.out.len; omega
          have CI9 := Lib.hid (PW8.out.ci.item hn8 hit8 item)
          have HJ8 := Lib.hid (show j + 1 ≤ st8.i from Nat.le_trans HJ7.out VK8.out.1.i)
          have hL8 : st8.nodes.length ≤ 4096 := PW8.out.ci.nod
          have HN8 := Lib.hid hn8
          have hndN := Lib.hid (ndAt_get hn8)
          obtain ⟨g8, c8, hv8, _, _⟩ := own_some C8.nod (by omega)
          subst hv8
          obtain ⟨vk, vi, _, _, _, q4, qc, hrk, hri⟩ := C8.nodeCells hndN.out
          obtain ⟨Ai, ci, hvi, _, _⟩ := own_slice hri.1
          subst hvi
          have hn8' : (n : Int) < st8.nodes.length := by omega
          have hn80 : (0 : Int) ≤ n := by omega
          have hL8' : (st8.nodes.length : Int) ≤ 4096 := by omega
          have hBw8 : B < w8.heap.size := C8.lt
          have b4 : w8.cell? ⟨B, 4, none⟩ = some (.slice (some ⟨g8, 0, none⟩) st8.nodes.length c8) := C8.c4
          have i4 := (own_cell1 C8.nod q4).1
          have C8a := C8.below ((Below.refl _ _).alloc (Nat.le_refl _) (.cells #[.int .i64 item] 3))
          have d4 : (w8.alloc (.cells #[.int .i64 item] 3)).cell? ⟨g8, n * 5 + 4, none⟩ = some (.slice Ai (ndAt st8.nodes n).items.length ci) := (own_cell1 C8a.nod q4).1
          have hk2d : w8.drew.ownsRow B 3 1 (.slice Ai (ndAt st8.nodes n).items.length ci) (ndAt st8.nodes n).items.length (I64 (ndAt st8.nodes n).items) := hri.1
          have C8h := Lib.hid C8
          have QC := Lib.hid qc
          have Q4 := Lib.hid q4
          have HRK := Lib.hid (hrk.below (Below.drew (Below.refl _ _)))
          have HRI := Lib.hid (hri.below (Below.drew (Below.refl _ _)))
          clear C8a hS8 DV y0 y1 y2 y3 z0 z1 z2 z3 z4 z5 z6 z7 z8 hn8 hit8 hL8 C8 hrk hri qc q4
          go_upto_region 21 with (fail)
          rw [cload_eq 44 (.tmp 100)]
          go_region_held3 (fun w' => w'.cell? ⟨B, 4, none⟩ = some (.slice (some ⟨g8, 0, none⟩) st8.nodes.length c8)) (first | assumption | exact CM.c4 (by assumption) | go_keep) (first | (refine step_apS rfl (.tmp 101) (.tmp 103) 44 rfl B 3 _ 1 _ Tryz.underlying44 Tryz.info3 rfl (by decide) _ (ndAt st8.nodes n).items.length (I64 (ndAt st8.nodes n).items) rfl (hk2d.alloc _) ⟨w8.heap.size, 0, none⟩ _ [.int .i64 item] rfl rfl (cells_new _ _ _) rfl (by unfold maxLen; omega) (by omega) (by simp; omega) ?_; intro v3 w9 hown3 hgr3 hat3; obtain ⟨A3, c3, rfl, hc3, hm3⟩ := own_slice hown3; obtain ⟨P3, N3, h9, hP9⟩ := C8h.out.drew.addItems hndN.out QC.out HRK.out HRI.out rfl item _ hown3 hgr3 hat3; have p4 := P3.cell' (i := 4) rfl; have i3 := (own_cell1 N3 Q4.out).1; have q3 := (own_cell1 N3 Q4.out).2; clear hgr3 hat3 hown3))
          all_goals
           have H9 := Lib.hid h9
           have HP9 := Lib.hid ((PStep.of_below (F := CF B (.slice (some ⟨g8, 0, none⟩) st8.nodes.length c8) vs8 lab8) (Below.drew (Below.refl _ w8))).trans hP9)
           clear h9 hP9
          all_goals
           go_wp2_with (fail)
           go_roundw
           case rel => exact ⟨j + 1, rfl, ConL.of (PW8.out.step HP9.out H9.out CI9.out) (PSW8.out.trans HP9.out) HJ8.out (by show n < (st8.nodes.set n _).length; rw [List.length_set]; exact HN8.out) (by have := HG.out; omega) HRV8.out.symm⟩
           case measure => first | (simp [intOf]; done) | (simp [intOf]; omega)
      ·have e5 : ((m : Int) == 5) = false := by rw [beq_eq_false_iff_ne]; omega
       have HRV := Lib.hid (show R = (valueC s g ⟨hat2, m2, k2, a2⟩ ⟨0, (span : Int), (j : Int), 0, 0, 0, 0, false, false⟩ d { stx with i := i1 }).bind (itemC s g ⟨hat, m, k, a⟩ n span d j) by rw [← HRG.out]; exact con_list HC.out HQ.out HNE2.out h5)
       have PW7 := PW6
       have PS7 := PS6
       have PSW7 := PSW6
       have HSP7 : Hid (({ stx with i := i1 } : CSt).spans.length < ({ stx with i := i1 } : CSt).i) := by show stx.spans.length < i1; have := PWx.out.ci.spn; have := HF2.out.2.1; omega
       have HAR7 : Hid ((CH.mk hat2 m2 k2 a2).arg < 18446744073709551616) := HF2.out.2.2.2.1
       have HNX7 : Hid (n < ({ stx with i := i1 } : CSt).nodes.length) := HNX
       have HIT7 : Hid ((ndAt ({ stx with i := i1 } : CSt).nodes n).items.length < ({ stx with i := i1 } : CSt).i) := by show (ndAt stx.nodes n).items.length < i1; have := (PWx.out.ci.kl _ (ndAt_mem HNX.out)).2; have := HF2.out.2.1; omega
       have HJ7 : Hid (j + 1 ≤ ({ stx with i := i1 } : CSt).i) := by show j + 1 ≤ i1; have := HJI.out; have := HF2.out.2.1; omega
       have y0 := Y6.out.cell' (i := 0) rfl
       have y1 := Y6.out.cell' (i := 1) rfl
       have y2 := Y6.out.cell' (i := 2) rfl
       have y3 := Y6.out.cell' (i := 3) rfl
       have z0 := Z6.out.cell' (i := 0) rfl
       have z1 := Z6.out.cell' (i := 1) rfl
       have z2 := Z6.out.cell' (i := 2) rfl
       have z3 := Z6.out.cell' (i := 3) rfl
       have z4 := Z6.out.cell' (i := 4) rfl
       have z5 := Z6.out.cell' (i := 5) rfl
       have z6 := Z6.out.cell' (i := 6) rfl
       have z7 := Z6.out.cell' (i := 7) rfl
       have z8 := Z6.out.cell' (i := 8) rfl
       clear h5 X6 Y6 Z6 PW6 PS6 PSW6 HRG
       have DV : Hid (Calls Tryz.prog 22 #[.pointer (some ⟨B, 0, none⟩), .agg #[.int .i64 (hat2 : Int), .int .i64 (m2 : Int), .int .i64 (k2 : Int), .int .u64 (a2 : Int)], .agg #[.int .i64 0, .int .i64 (span : Int), .int .i64 (j : Int), .int .i64 0, .int .i64 0, .int .i64 0, .int .i64 0, .bool false, .bool false], .int .i64 (d : Int)] w6 (ValP s w6 B (CF B vn vs lab) (valueC s g ⟨hat2, m2, k2, a2⟩ ⟨0, (span : Int), (j : Int), 0, 0, 0, 0, false, false⟩ d { stx with i := i1 }))) := HV.out g (by have := HG.out; omega) s w6 B _ _ _ _ _ _ _ ⟨hat2, m2, k2, a2⟩ ⟨0, (span : Int), (j : Int), 0, 0, 0, 0, false, false⟩ d PW7.out HSP7.out HAR7.out HD.out (fun e => HNE.out (by rw [HRV.out, e]; rfl))
       have VK := Lib.hid ((all_k PW7.out.by_ g).1 ⟨hat2, m2, k2, a2⟩ ⟨0, (span : Int), (j : Int), 0, 0, 0, 0, false, false⟩ d _ · · PW7.out.ci HSP7.out)
       unfold ValP at DV
       cases hv : valueC s g ⟨hat2, m2, k2, a2⟩ ⟨0, (span : Int), (j : Int), 0, 0, 0, 0, false, false⟩ d { stx with i := i1 } with
       | no => exact absurd (show R = .no by rw [HRV.out, hv]; rfl) HNE.out
       | err b c =>
        rw [hv] at DV
        have hh := Lib.hid (show R = .err b c by rw [HRV.out, hv]; rfl)
        clear hv HRV VK
        go_upto_region 19 with (go_at_call 22; ((with_reducible refine DV.out.mono ?_)); rintro e w8 ⟨rfl, F8, hS8⟩)
        go_wp2
        go_ret
        exact ConP.of_err hh.out rfl (PS7.out.trans hS8)
       | ok p =>
        obtain ⟨item, st8⟩ := p
        rw [hv] at DV
        have HRV8 := Lib.hid (show R = itemC s g ⟨hat, m, k, a⟩ n span d j (item, st8) by rw [HRV.out, hv]; rfl)
        have VK8 := Lib.hid (VK.out _ _ hv)
        clear hv HRV VK
        go_upto_region 19 with (go_at_call 22; ((with_reducible refine DV.out.mono ?_)); rintro e w8 ⟨rfl, vn8, vs8, vh8, vm8, ncs8, lab8, C8, hS8⟩)
        have PW8 := Lib.hid (PW7.out.step hS8 C8 VK8.out.1.ci)
        have PSW8 := Lib.hid (PSW7.out.trans hS8)
        have hn8 : n < st8.nodes.length := Nat.lt_of_lt_of_le HNX7.out VK8.out.1.nod
        have hit8 : (ndAt st8.nodes n).items.length < st8.i := by rw [VK8.out.1.old n HNX7.out trivial]; exact Nat.lt_of_lt_of_le HIT7.out VK8.out.1.i
        have hit8' : (ndAt st8.nodes n).items.length ≤ 65536 := by have := PW8.out.ci.i; have := PW8.out.len; omega
        have CI9 := Lib.hid (PW8.out.ci.item hn8 hit8 item)
        have HJ8 := Lib.hid (show j + 1 ≤ st8.i from Nat.le_trans HJ7.out VK8.out.1.i)
        have hL8 : st8.nodes.length ≤ 4096 := PW8.out.ci.nod
        have HN8 := Lib.hid hn8
        have hndN := Lib.hid (ndAt_get hn8)
        obtain ⟨g8, c8, hv8, _, _⟩ := own_some C8.nod (by omega)
        subst hv8
        obtain ⟨vk, vi, _, _, _, q4, qc, hrk, hri⟩ := C8.nodeCells hndN.out
        obtain ⟨Ai, ci, hvi, _, _⟩ := own_slice hri.1
        subst hvi
        have hn8' : (n : Int) < st8.nodes.length := by omega
        have hn80 : (0 : Int) ≤ n := by omega
        have hL8' : (st8.nodes.length : Int) ≤ 4096 := by omega
        have hBw8 : B < w8.heap.size := C8.lt
        have b4 : w8.cell? ⟨B, 4, none⟩ = some (.slice (some ⟨g8, 0, none⟩) st8.nodes.length c8) := C8.c4
        have i4 := (own_cell1 C8.nod q4).1
        have C8a := C8.below ((Below.refl _ _).alloc (Nat.le_refl _) (.cells #[.int .i64 item] 3))
        have d4 : (w8.alloc (.cells #[.int .i64 item] 3)).cell? ⟨g8, n * 5 + 4, none⟩ = some (.slice Ai (ndAt st8.nodes n).items.length ci) := (own_cell1 C8a.nod q4).1
        have hk2d : w8.drew.ownsRow B 3 1 (.slice Ai (ndAt st8.nodes n).items.length ci) (ndAt st8.nodes n).items.length (I64 (ndAt st8.nodes n).items) := hri.1
        have C8h := Lib.hid C8
        have QC := Lib.hid qc
        have Q4 := Lib.hid q4
        have HRK := Lib.hid (hrk.below (Below.drew (Below.refl _ _)))
        have HRI := Lib.hid (hri.below (Below.drew (Below.refl _ _)))
        clear C8a hS8 DV y0 y1 y2 y3 z0 z1 z2 z3 z4 z5 z6 z7 z8 hn8 hit8 hL8 C8 hrk hri qc q4
        go_upto_region 21 with (fail)
        rw [cload_eq 44 (.tmp 100)]
        go_region_held3 (fun w' => w'.cell? ⟨B, 4, none⟩ = some (.slice (some ⟨g8, 0, none⟩) st8.nodes.length c8)) (first | assumption | exact CM.c4 (by assumption) | go_keep) (first | (refine step_apS rfl (.tmp 101) (.tmp 103) 44 rfl B 3 _ 1 _ Tryz.underlying44 Tryz.info3 rfl (by decide) _ (ndAt st8.nodes n).items.length (I64 (ndAt st8.nodes n).items) rfl (hk2d.alloc _) ⟨w8.heap.size, 0, none⟩ _ [.int .i64 item] rfl rfl (cells_new _ _ _) rfl (by unfold maxLen; omega) (by omega) (by simp; omega) ?_; intro v3 w9 hown3 hgr3 hat3; obtain ⟨A3, c3, rfl, hc3, hm3⟩ := own_slice hown3; obtain ⟨P3, N3, h9, hP9⟩ := C8h.out.drew.addItems hndN.out QC.out HRK.out HRI.out rfl item _ hown3 hgr3 hat3; have p4 := P3.cell' (i := 4) rfl; have i3 := (own_cell1 N3 Q4.out).1; have q3 := (own_cell1 N3 Q4.out).2; clear hgr3 hat3 hown3))
        all_goals
         have H9 := Lib.hid h9
         have HP9 := Lib.hid ((PStep.of_below (F := CF B (.slice (some ⟨g8, 0, none⟩) st8.nodes.length c8) vs8 lab8) (Below.drew (Below.refl _ w8))).trans hP9)
         clear h9 hP9
        all_goals
         go_wp2_with (fail)
         go_roundw
         case rel => exact ⟨j + 1, rfl, ConL.of (PW8.out.step HP9.out H9.out CI9.out) (PSW8.out.trans HP9.out) HJ8.out (by show n < (st8.nodes.set n _).length; rw [List.length_set]; exact HN8.out) (by have := HG.out; omega) HRV8.out.symm⟩
         case measure => first | (simp [intOf]; done) | (simp [intOf]; omega)
     ·have hh := Lib.hid (show R = .ok { stx with i := i1 } by
       rw [← HRG.out]
       exact con_ends (by rw [beq_iff_eq] at hk1; show k = 31; omega) HQ.out HBE.out)
      go_wp2_with (go_at_call 76; ((with_reducible refine (E2.out _).mono ?_)); rintro e w5 ⟨rfl, hb5⟩)
      go_ret
      exact ConP.of_ok hh.out rfl (C4.out.below hb5) (PS.out.trans (S4.out.trans (PStep.of_below hb5)))
    ·go_upto_region 5 with (go_at_call 21; ((with_reducible refine D.out.mono ?_)); rintro e w3 ⟨rfl, hk⟩)
     have C4 := Lib.hid ((PWx.out.cm.atw hk).1.below ((Below.refl w3.heap.size w3).alloc (Nat.le_refl _) (.cells #[.int .i64 (hat2 : Int), .int .i64 (m2 : Int), .int .i64 (k2 : Int), .int .u64 (a2 : Int)] 76)))
     have S4 := Lib.hid ((PWx.out.cm.atw hk).2.trans (PStep.of_below (F := CF B vn vs lab) ((Below.refl w3.heap.size w3).alloc (Nat.le_refl _) (.cells #[.int .i64 (hat2 : Int), .int .i64 (m2 : Int), .int .i64 (k2 : Int), .int .u64 (a2 : Int)] 76))))
     have X4 := Lib.hid (S4.out.arr X1.out X1F.out)
     have Y4 := Lib.hid (Arr.new w3 76 [.int .i64 (hat2 : Int), .int .i64 (m2 : Int), .int .i64 (k2 : Int), .int .u64 (a2 : Int)])
     change Hid (Arr (w3.alloc (.cells #[.int .i64 (hat2 : Int), .int .i64 (m2 : Int), .int .i64 (k2 : Int), .int .u64 (a2 : Int)] 76)) w3.heap.size 76 _) at Y4
     have hs3 : wr.heap.size ≤ w3.heap.size := hk.size
     obtain ⟨g4, hg4⟩ : ∃ x, w3.heap.size = x := ⟨_, rfl⟩
     rw [hg4] at Y4 hs3 ⊢
     generalize (w3.alloc (.cells #[.int .i64 (hat2 : Int), .int .i64 (m2 : Int), .int .i64 (k2 : Int), .int .u64 (a2 : Int)] 76)) = W4 at *
     clear hk D
     have y0 := Y4.out.cell' (i := 0) rfl
     have y1 := Y4.out.cell' (i := 1) rfl
     have y2 := Y4.out.cell' (i := 2) rfl
     have y3 := Y4.out.cell' (i := 3) rfl
     clear x1 x2 x3
     have x1 := X4.out.cell' (i := 1) rfl
     have x2 := X4.out.cell' (i := 2) rfl
     clear hg4
     have HNE2 : Hid (¬ ((CH.mk hat m k a).info = 31 ∧ (CH.mk hat2 m2 k2 a2).ends = true)) := by
      show ¬ (k = 31 ∧ _)
      rw [beq_eq_false_iff_ne] at hk1
      omega
     go_upto_region 9 with (fail)
     clear y0 y1 y2 y3 x1 x2 E2
     obtain ⟨w5, hw5⟩ : ∃ x, W4 = x := ⟨_, rfl⟩
     rw [hw5] at C4 S4 X4 Y4 ⊢
     clear hw5
     have C5 := C4
     have S5 := S4
     have X5 := X4
     have Y5 := Y4
     have hg5 : g4 < w5.heap.size := Y5.out.lt
     clear C4 S4 X4 Y4
     have hs5 : wr.heap.size ≤ g4 := hs3
     have G5F := Lib.hid (PWx.out.new hs5)
     have PW5 := Lib.hid (PWx.out.step S5.out C5.out (PWx.out.ci.to (by have := HF2.out.2.1; omega) HF2.out.2.2.1))
     have PS5 := Lib.hid (PS.out.trans S5.out)
     have PSW5 := Lib.hid (PSW.out.trans S5.out)
     have SB := (Below.refl w5.heap.size w5).alloc (Nat.le_refl _) (.cells #[.int .i64 0, .int .i64 (span : Int), .int .i64 (j : Int), .int .i64 0, .int .i64 0, .int .i64 0, .int .i64 0, .bool false, .bool false] 55)
     have Z6 : Hid (Arr (w5.alloc (.cells #[.int .i64 0, .int .i64 (span : Int), .int .i64 (j : Int), .int .i64 0, .int .i64 0, .int .i64 0, .int .i64 0, .bool false, .bool false] 55)) w5.heap.size 55 [.int .i64 0, .int .i64 (span : Int), .int .i64 (j : Int), .int .i64 0, .int .i64 0, .int .i64 0, .int .i64 0, .bool false, .bool false]) := Arr.new w5 _ _
     have PW6 := Lib.hid (PW5.out.below SB)
     have PS6 := Lib.hid (PS5.out.trans (PStep.of_below SB))
     have PSW6 := Lib.hid (PSW5.out.trans (PStep.of_below SB))
     have X6 := Lib.hid (X5.out.keep SB)
     have Y6 := Lib.hid (Y5.out.keep SB)
     have Z6F := Lib.hid (PW5.out.new (g := w5.heap.size) (Nat.le_refl _))
     go_upto_region 10 with (fail)
     obtain ⟨gs, hgs⟩ : ∃ x, w5.heap.size = x := ⟨_, rfl⟩
     rw [hgs] at Z6 Z6F hg5 ⊢
     clear SB
     generalize (w5.alloc (.cells #[.int .i64 0, .int .i64 (span : Int), .int .i64 (j : Int), .int .i64 0, .int .i64 0, .int .i64 0, .int .i64 0, .bool false, .bool false] 55)) = w6 at *
     clear hgs C5 S5 PS PSW X5 Y5 PS5 PSW5 PW5
     have x1 := X6.out.cell' (i := 1) rfl
     by_cases h5 : m = 5
     ·have e5 : ((m : Int) == 5) = true := by subst h5; rfl
      have HRK := Lib.hid (show R = (keyC s ⟨hat2, m2, k2, a2⟩ n d { stx with i := i1 }).bind fun st1 => (hdC s st1.i).bind fun q => (valueC s g q.1 ⟨0, (span : Int), (j : Int), 0, 0, (hat2 : Int), (st1.i : Int), false, false⟩ d { st1 with i := q.2 }).bind (itemC s g ⟨hat, m, k, a⟩ n span d j) by rw [← HRG.out]; exact con_key HC.out HQ.out HNE2.out h5)
      have hkno : keyC s ⟨hat2, m2, k2, a2⟩ n d { stx with i := i1 } ≠ .no := fun e => HNE.out (by rw [HRK.out, e]; rfl)
      have hkl7 : (ndAt stx.nodes n).keys.length ≤ 65536 := by have := (PWx.out.ci.kl _ (ndAt_mem HNX.out)).1; have := PWx.out.ci.i; have := PWx.out.len; omega
      have DK := Lib.hid (key_cb PW6.out.by_ PW6.out.len PW6.out.ci.i PW6.out.cm ⟨hat2, m2, k2, a2⟩ n d HF2.out.2.2.2.1 hkno PW6.out.libH PW6.out.ci.nod HNX.out PW6.out.ci.by_ hkl7 (PW6.out.ci.ks _ (ndAt_mem HNX.out)))
      unfold KeyP at DK
      have y0 := Y6.out.cell' (i := 0) rfl
      have y1 := Y6.out.cell' (i := 1) rfl
      have y2 := Y6.out.cell' (i := 2) rfl
      have y3 := Y6.out.cell' (i := 3) rfl
      clear h5 hkl7 HRG
      cases hkq : keyC s ⟨hat2, m2, k2, a2⟩ n d { stx with i := i1 } with
      | no => exact absurd hkq hkno
      | err b c =>
       rw [hkq] at DK
       have hh := Lib.hid (show R = .err b c by rw [HRK.out, hkq]; rfl)
       clear hkq hkno HRK
       go_upto_region 12 with (go_at_call 77; ((with_reducible refine DK.out.mono ?_)); rintro e w7 ⟨rfl, F7, hS7⟩)
       go_wp2
       go_ret
       exact ConP.of_err hh.out rfl (PS6.out.trans hS7)
      | ok st7 =>
       rw [hkq] at DK
       have HRK7 := Lib.hid (show R = (hdC s st7.i).bind fun q => (valueC s g q.1 ⟨0, (span : Int), (j : Int), 0, 0, (hat2 : Int), (st7.i : Int), false, false⟩ d { st7 with i := q.2 }).bind (itemC s g ⟨hat, m, k, a⟩ n span d j) by rw [HRK.out, hkq]; rfl)
       have KC := Lib.hid (key_ci PW6.out.by_ PW6.out.ci (n := n) HNX.out (by show (ndAt stx.nodes n).keys.length < i1; have := (PWx.out.ci.kl _ (ndAt_mem HNX.out)).1; have := HF2.out.2.1; omega) hkq)
       clear hkq hkno HRK
       go_upto_region 14 with (go_at_call 77; ((with_reducible refine DK.out.mono ?_)); rintro e w7 ⟨rfl, vn7, ncs7, lab7, C7, hS7⟩)
       have PW7 := Lib.hid (PW6.out.step hS7 C7 KC.out.1.ci)
       have PS7 := Lib.hid (PS6.out.trans hS7)
       have PSW7 := Lib.hid (PSW6.out.trans hS7)
       have Y7 := Lib.hid (hS7.arr Y6.out G5F.out)
       have Y7F := Lib.hid (hS7.out Y6.out.lt G5F.out)
       have Z7 := Lib.hid (hS7.arr Z6.out Z6F.out)
       have Z7F := Lib.hid (hS7.out Z6.out.lt Z6F.out)
       have b1 : w7.cell? ⟨B, 1, none⟩ = some (.int .i64 (st7.i : Int)) := C7.par.cell' (i := 1) rfl
       clear y0 y1 y2 y3 x1 X6 Y6 Z6 PW6 PS6 PSW6 DK C7 hS7 G5F Z6F
       have y0 := Y7.out.cell' (i := 0) rfl
       have z5 := Z7.out.cell' (i := 5) rfl
       have z6 := Z7.out.cell' (i := 6) rfl
       have zf5 := Z7.out.frozen 5
       have zf6 := Z7.out.frozen 6
       have hBg : B ≤ g4 := by have := PWx.out.cm.lt; omega
       have hBgs : B ≤ gs := by omega
       have hWg : W.heap.size ≤ g4 := Nat.le_trans HWS.out hs3
       have hwg : w.heap.size ≤ g4 := Nat.le_trans HP0.out.size hWg
       have hgg : g4 ≠ gs := by omega
       have PW8 := Lib.hid (((PW7.out.aside Z7F.out hBgs 5 (.int .i64 (hat2 : Int))).aside Z7F.out hBgs 6 (.int .i64 (st7.i : Int))).drew)
       have PS8 := Lib.hid (((PS7.out.aside (g := gs) (by omega) 5 (.int .i64 (hat2 : Int))).aside (g := gs) (by omega) 6 (.int .i64 (st7.i : Int))).drew)
       have PSW8 := Lib.hid (((PSW7.out.aside (g := gs) (by omega) 5 (.int .i64 (hat2 : Int))).aside (g := gs) (by omega) 6 (.int .i64 (st7.i : Int))).drew)
       have Y8 : Hid (Arr ((w7.setCell ⟨gs, 5, none⟩ (.int .i64 (hat2 : Int))).setCell ⟨gs, 6, none⟩ (.int .i64 (st7.i : Int))).drew g4 76 [.int .i64 (hat2 : Int), .int .i64 (m2 : Int), .int .i64 (k2 : Int), .int .u64 (a2 : Int)]) := (Y7.out.far (p := ⟨gs, 5, none⟩) hgg _).far (p := ⟨gs, 6, none⟩) hgg _
       have Z8 : Hid (Arr ((w7.setCell ⟨gs, 5, none⟩ (.int .i64 (hat2 : Int))).setCell ⟨gs, 6, none⟩ (.int .i64 (st7.i : Int))).drew gs 55 [.int .i64 0, .int .i64 (span : Int), .int .i64 (j : Int), .int .i64 0, .int .i64 0, .int .i64 (hat2 : Int), .int .i64 (st7.i : Int), .bool false, .bool false]) := (Z7.out.store 5 _).store 6 _
       go_region
       generalize ((w7.setCell ⟨gs, 5, none⟩ (.int .i64 (hat2 : Int))).setCell ⟨gs, 6, none⟩ (.int .i64 (st7.i : Int))).drew = w8 at *
       clear y0 z5 z6 zf5 zf6 b1 PW7 PS7 PSW7 Y7 Z7
       have D8 := Lib.hid (head_cb PW8.out.by_ PW8.out.len (by have := PW8.out.ci.i; have := PW8.out.len; omega) w8 PW8.out.cm.par)
       unfold HeadP at D8
       cases hq8 : hdC s st7.i with
       | no => exact absurd hq8 (hd_no _ _)
       | err b c =>
        rw [hq8] at D8
        have hh := Lib.hid (show R = .err b c by rw [HRK7.out, hq8]; rfl)
        clear hq8 HRK7
        go_upto_region 16 with (go_at_call 21; ((with_reducible refine D8.out.mono ?_)); rintro e w9 ⟨rfl, j2, hk⟩; have hY9 := Lib.hid ((PW8.out.cm.atw hk).2.arr Y8.out Y7F.out); have y0 := hY9.out.cell' (i := 0) rfl; have y1 := hY9.out.cell' (i := 1) rfl; have y2 := hY9.out.cell' (i := 2) rfl; have y3 := hY9.out.cell' (i := 3) rfl; have f0 := hY9.out.frozen 0; have f1 := hY9.out.frozen 1; have f2 := hY9.out.frozen 2; have f3 := hY9.out.frozen 3)
        have S9h := Lib.hid (PW8.out.cm.atw hk).2
        clear hk
        go_wp2
        go_ret
        exact ConP.of_err hh.out rfl (((((PS8.out.trans S9h.out).aside hwg 0 _).aside hwg 1 _).aside hwg 2 _).aside hwg 3 _)
       | ok p =>
        obtain ⟨⟨hat3, m3, k3, a3⟩, i2⟩ := p
        rw [hq8] at D8
        have HF3 := Lib.hid (hd_facts PW8.out.by_ hq8)
        have HRV := Lib.hid (show R = (valueC s g ⟨hat3, m3, k3, a3⟩ ⟨0, (span : Int), (j : Int), 0, 0, (hat2 : Int), (st7.i : Int), false, false⟩ d { st7 with i := i2 }).bind (itemC s g ⟨hat, m, k, a⟩ n span d j) by rw [HRK7.out, hq8]; rfl)
        clear hq8 HRK7
        go_upto_region 16 with (go_at_call 21; ((with_reducible refine D8.out.mono ?_)); rintro e w9 ⟨rfl, hk⟩; have hY9 := Lib.hid ((PW8.out.cm.atw hk).2.arr Y8.out Y7F.out); have y0 := hY9.out.cell' (i := 0) rfl; have y1 := hY9.out.cell' (i := 1) rfl; have y2 := hY9.out.cell' (i := 2) rfl; have y3 := hY9.out.cell' (i := 3) rfl; have f0 := hY9.out.frozen 0; have f1 := hY9.out.frozen 1; have f2 := hY9.out.frozen 2; have f3 := hY9.out.frozen 3)
        have S9 := Lib.hid (PW8.out.cm.atw hk).2
        have C9 := Lib.hid (PW8.out.cm.atw hk).1
        have PW9 := Lib.hid (PW8.out.step S9.out C9.out (PW8.out.ci.to (by have := HF3.out.2.1; omega) HF3.out.2.2.1))
        have Z9 := Lib.hid (S9.out.arr Z8.out Z7F.out)
        have Y10 : Hid (Arr ((((w9.setCell ⟨g4, 0, none⟩ (.int .i64 (hat3 : Int))).setCell ⟨g4, 1, none⟩ (.int .i64 (m3 : Int))).setCell ⟨g4, 2, none⟩ (.int .i64 (k3 : Int))).setCell ⟨g4, 3, none⟩ (.int .u64 (a3 : Int))) g4 76 [.int .i64 (hat3 : Int), .int .i64 (m3 : Int), .int .i64 (k3 : Int), .int .u64 (a3 : Int)]) := (((hY9.out.store 0 _).store 1 _).store 2 _).store 3 _
        have Z10 := Lib.hid ((((Z9.out.far (p := ⟨g4, 0, none⟩) (Ne.symm hgg) (.int .i64 (hat3 : Int))).far (p := ⟨g4, 1, none⟩) (Ne.symm hgg) (.int .i64 (m3 : Int))).far (p := ⟨g4, 2, none⟩) (Ne.symm hgg) (.int .i64 (k3 : Int))).far (p := ⟨g4, 3, none⟩) (Ne.symm hgg) (.int .u64 (a3 : Int)))
        have PW10 := Lib.hid ((((PW9.out.aside Y7F.out hBg 0 (.int .i64 (hat3 : Int))).aside Y7F.out hBg 1 (.int .i64 (m3 : Int))).aside Y7F.out hBg 2 (.int .i64 (k3 : Int))).aside Y7F.out hBg 3 (.int .u64 (a3 : Int)))
        have PS10 := Lib.hid (((((PS8.out.trans S9.out).aside hwg 0 (.int .i64 (hat3 : Int))).aside hwg 1 (.int .i64 (m3 : Int))).aside hwg 2 (.int .i64 (k3 : Int))).aside hwg 3 (.int .u64 (a3 : Int)))
        have PSW10 := Lib.hid (((((PSW8.out.trans S9.out).aside hWg 0 (.int .i64 (hat3 : Int))).aside hWg 1 (.int .i64 (m3 : Int))).aside hWg 2 (.int .i64 (k3 : Int))).aside hWg 3 (.int .u64 (a3 : Int)))
        clear hk y0 y1 y2 y3 f0 f1 f2 f3 hY9 S9 C9 PW9 Z9 PW8 PS8 PSW8 Y8 Z8 D8
        generalize ((((w9.setCell ⟨g4, 0, none⟩ (.int .i64 (hat3 : Int))).setCell ⟨g4, 1, none⟩ (.int .i64 (m3 : Int))).setCell ⟨g4, 2, none⟩ (.int .i64 (k3 : Int))).setCell ⟨g4, 3, none⟩ (.int .u64 (a3 : Int))) = w10 at *
        have PW7 := PW10
        have PS7 := PS10
        have PSW7 := PSW10
        have HSP7 : Hid (({ st7 with i := i2 } : CSt).spans.length < ({ st7 with i := i2 } : CSt).i) := by show st7.spans.length < i2; have h1 := KC.out.1.ci.spn; have := HF3.out.2.1; omega
        have HAR7 : Hid ((CH.mk hat3 m3 k3 a3).arg < 18446744073709551616) := HF3.out.2.2.2.1
        have HNX7 : Hid (n < ({ st7 with i := i2 } : CSt).nodes.length) := Nat.lt_of_lt_of_le HNX.out KC.out.1.nod
        have HIT7 : Hid ((ndAt ({ st7 with i := i2 } : CSt).nodes n).items.length < ({ st7 with i := i2 } : CSt).i) := by show (ndAt st7.nodes n).items.length < i2; have := (KC.out.1.ci.kl _ (ndAt_mem (i := n) HNX7.out)).2; have := HF3.out.2.1; omega
        have HJ7 : Hid (j + 1 ≤ ({ st7 with i := i2 } : CSt).i) := by show j + 1 ≤ i2; have h1 : i1 ≤ st7.i := KC.out.1.i; have := HJI.out; have := HF2.out.2.1; have := HF3.out.2.1; omega
        have y0 := Y10.out.cell' (i := 0) rfl
        have y1 := Y10.out.cell' (i := 1) rfl
        have y2 := Y10.out.cell' (i := 2) rfl
        have y3 := Y10.out.cell' (i := 3) rfl
        have z0 := Z10.out.cell' (i := 0) rfl
        have z1 := Z10.out.cell' (i := 1) rfl
        have z2 := Z10.out.cell' (i := 2) rfl
        have z3 := Z10.out.cell' (i := 3) rfl
        have z4 := Z10.out.cell' (i := 4) rfl
        have z5 := Z10.out.cell' (i := 5) rfl
        have z6 := Z10.out.cell' (i := 6) rfl
        have z7 := Z10.out.cell' (i := 7) rfl
        have z8 := Z10.out.cell' (i := 8) rfl
        clear KC Y10 Z10 PW10 PS10 PSW10
        have DV : Hid (Calls Tryz.prog 22 #[.pointer (some ⟨B, 0, none⟩), .agg #[.int .i64 (hat3 : Int), .int .i64 (m3 : Int), .int .i64 (k3 : Int), .int .u64 (a3 : Int)], .agg #[.int .i64 0, .int .i64 (span : Int), .int .i64 (j : Int), .int .i64 0, .int .i64 0, .int .i64 (hat2 : Int), .int .i64 (st7.i : Int), .bool false, .bool false], .int .i64 (d : Int)] w10 (ValP s w10 B (CF B vn7 vs lab7) (valueC s g ⟨hat3, m3, k3, a3⟩ ⟨0, (span : Int), (j : Int), 0, 0, (hat2 : Int), (st7.i : Int), false, false⟩ d { st7 with i := i2 }))) := HV.out g (by have := HG.out; omega) s w10 B _ _ _ _ _ _ _ ⟨hat3, m3, k3, a3⟩ ⟨0, (span : Int), (j : Int), 0, 0, (hat2 : Int), (st7.i : Int), false, false⟩ d PW7.out HSP7.out HAR7.out HD.out (fun e => HNE.out (by rw [HRV.out, e]; rfl))
        have VK := Lib.hid ((all_k PW7.out.by_ g).1 ⟨hat3, m3, k3, a3⟩ ⟨0, (span : Int), (j : Int), 0, 0, (hat2 : Int), (st7.i : Int), false, false⟩ d _ · · PW7.out.ci HSP7.out)
        unfold ValP at DV
        cases hv : valueC s g ⟨hat3, m3, k3, a3⟩ ⟨0, (span : Int), (j : Int), 0, 0, (hat2 : Int), (st7.i : Int), false, false⟩ d { st7 with i := i2 } with
        | no => exact absurd (show R = .no by rw [HRV.out, hv]; rfl) HNE.out
        | err b c =>
         rw [hv] at DV
         have hh := Lib.hid (show R = .err b c by rw [HRV.out, hv]; rfl)
         clear hv HRV VK
         go_upto_region 19 with (go_at_call 22; ((with_reducible refine DV.out.mono ?_)); rintro e w8 ⟨rfl, F8, hS8⟩)
         go_wp2
         go_ret
         exact ConP.of_err hh.out rfl (PS7.out.trans hS8)
        | ok p =>
         obtain ⟨item, st8⟩ := p
         rw [hv] at DV
         have HRV8 := Lib.hid (show R = itemC s g ⟨hat, m, k, a⟩ n span d j (item, st8) by rw [HRV.out, hv]; rfl)
         have VK8 := Lib.hid (VK.out _ _ hv)
         clear hv HRV VK
         go_upto_region 19 with (go_at_call 22; ((with_reducible refine DV.out.mono ?_)); rintro e w8 ⟨rfl, vn8, vs8, vh8, vm8, ncs8, lab8, C8, hS8⟩)
         have PW8 := Lib.hid (PW7.out.step hS8 C8 VK8.out.1.ci)
         have PSW8 := Lib.hid (PSW7.out.trans hS8)
         have hn8 : n < st8.nodes.length := Nat.lt_of_lt_of_le HNX7.out VK8.out.1.nod
         have hit8 : (ndAt st8.nodes n).items.length < st8.i := by rw [VK8.out.1.old n HNX7.out trivial]; exact Nat.lt_of_lt_of_le HIT7.out VK8.out.1.i
         have hit8' : (ndAt st8.nodes n).items.length ≤ 65536 := by have := PW8.out.ci.i; have := PW8.out.len; omega
         have CI9 := Lib.hid (PW8.out.ci.item hn8 hit8 item)
         have HJ8 := Lib.hid (show j + 1 ≤ st8.i from Nat.le_trans HJ7.out VK8.out.1.i)
         have hL8 : st8.nodes.length ≤ 4096 := PW8.out.ci.nod
         have HN8 := Lib.hid hn8
         have hndN := Lib.hid (ndAt_get hn8)
         obtain ⟨g8, c8, hv8, _, _⟩ := own_some C8.nod (by omega)
         subst hv8
         obtain ⟨vk, vi, _, _, _, q4, qc, hrk, hri⟩ := C8.nodeCells hndN.out
         obtain ⟨Ai, ci, hvi, _, _⟩ := own_slice hri.1
         subst hvi
         have hn8' : (n : Int) < st8.nodes.length := by omega
         have hn80 : (0 : Int) ≤ n := by omega
         have hL8' : (st8.nodes.length : Int) ≤ 4096 := by omega
         have hBw8 : B < w8.heap.size := C8.lt
         have b4 : w8.cell? ⟨B, 4, none⟩ = some (.slice (some ⟨g8, 0, none⟩) st8.nodes.length c8) := C8.c4
         have i4 := (own_cell1 C8.nod q4).1
         have C8a := C8.below ((Below.refl _ _).alloc (Nat.le_refl _) (.cells #[.int .i64 item] 3))
         have d4 : (w8.alloc (.cells #[.int .i64 item] 3)).cell? ⟨g8, n * 5 + 4, none⟩ = some (.slice Ai (ndAt st8.nodes n).items.length ci) := (own_cell1 C8a.nod q4).1
         have hk2d : w8.drew.ownsRow B 3 1 (.slice Ai (ndAt st8.nodes n).items.length ci) (ndAt st8.nodes n).items.length (I64 (ndAt st8.nodes n).items) := hri.1
         have C8h := Lib.hid C8
         have QC := Lib.hid qc
         have Q4 := Lib.hid q4
         have HRK := Lib.hid (hrk.below (Below.drew (Below.refl _ _)))
         have HRI := Lib.hid (hri.below (Below.drew (Below.refl _ _)))
         clear C8a hS8 DV y0 y1 y2 y3 z0 z1 z2 z3 z4 z5 z6 z7 z8 hn8 hit8 hL8 C8 hrk hri qc q4
         go_upto_region 21 with (fail)
         rw [cload_eq 44 (.tmp 100)]
         go_region_held3 (fun w' => w'.cell? ⟨B, 4, none⟩ = some (.slice (some ⟨g8, 0, none⟩) st8.nodes.length c8)) (first | assumption | exact CM.c4 (by assumption) | go_keep) (first | (refine step_apS rfl (.tmp 101) (.tmp 103) 44 rfl B 3 _ 1 _ Tryz.underlying44 Tryz.info3 rfl (by decide) _ (ndAt st8.nodes n).items.length (I64 (ndAt st8.nodes n).items) rfl (hk2d.alloc _) ⟨w8.heap.size, 0, none⟩ _ [.int .i64 item] rfl rfl (cells_new _ _ _) rfl (by unfold maxLen; omega) (by omega) (by simp; omega) ?_; intro v3 w9 hown3 hgr3 hat3; obtain ⟨A3, c3, rfl, hc3, hm3⟩ := own_slice hown3; obtain ⟨P3, N3, h9, hP9⟩ := C8h.out.drew.addItems hndN.out QC.out HRK.out HRI.out rfl item _ hown3 hgr3 hat3; have p4 := P3.cell' (i := 4) rfl; have i3 := (own_cell1 N3 Q4.out).1; have q3 := (own_cell1 N3 Q4.out).2; clear hgr3 hat3 hown3))
         all_goals
          have H9 := Lib.hid h9
          have HP9 := Lib.hid ((PStep.of_below (F := CF B (.slice (some ⟨g8, 0, none⟩) st8.nodes.length c8) vs8 lab8) (Below.drew (Below.refl _ w8))).trans hP9)
          clear h9 hP9
         all_goals
          go_wp2_with (fail)
          go_roundw
          case rel => exact ⟨j + 1, rfl, ConL.of (PW8.out.step HP9.out H9.out CI9.out) (PSW8.out.trans HP9.out) HJ8.out (by show n < (st8.nodes.set n _).length; rw [List.length_set]; exact HN8.out) (by have := HG.out; omega) HRV8.out.symm⟩
          case measure => first | (simp [intOf]; done) | (simp [intOf]; omega)
     ·have e5 : ((m : Int) == 5) = false := by rw [beq_eq_false_iff_ne]; omega
      have HRV := Lib.hid (show R = (valueC s g ⟨hat2, m2, k2, a2⟩ ⟨0, (span : Int), (j : Int), 0, 0, 0, 0, false, false⟩ d { stx with i := i1 }).bind (itemC s g ⟨hat, m, k, a⟩ n span d j) by rw [← HRG.out]; exact con_list HC.out HQ.out HNE2.out h5)
      have PW7 := PW6
      have PS7 := PS6
      have PSW7 := PSW6
      have HSP7 : Hid (({ stx with i := i1 } : CSt).spans.length < ({ stx with i := i1 } : CSt).i) := by show stx.spans.length < i1; have := PWx.out.ci.spn; have := HF2.out.2.1; omega
      have HAR7 : Hid ((CH.mk hat2 m2 k2 a2).arg < 18446744073709551616) := HF2.out.2.2.2.1
      have HNX7 : Hid (n < ({ stx with i := i1 } : CSt).nodes.length) := HNX
      have HIT7 : Hid ((ndAt ({ stx with i := i1 } : CSt).nodes n).items.length < ({ stx with i := i1 } : CSt).i) := by show (ndAt stx.nodes n).items.length < i1; have := (PWx.out.ci.kl _ (ndAt_mem HNX.out)).2; have := HF2.out.2.1; omega
      have HJ7 : Hid (j + 1 ≤ ({ stx with i := i1 } : CSt).i) := by show j + 1 ≤ i1; have := HJI.out; have := HF2.out.2.1; omega
      have y0 := Y6.out.cell' (i := 0) rfl
      have y1 := Y6.out.cell' (i := 1) rfl
      have y2 := Y6.out.cell' (i := 2) rfl
      have y3 := Y6.out.cell' (i := 3) rfl
      have z0 := Z6.out.cell' (i := 0) rfl
      have z1 := Z6.out.cell' (i := 1) rfl
      have z2 := Z6.out.cell' (i := 2) rfl
      have z3 := Z6.out.cell' (i := 3) rfl
      have z4 := Z6.out.cell' (i := 4) rfl
      have z5 := Z6.out.cell' (i := 5) rfl
      have z6 := Z6.out.cell' (i := 6) rfl
      have z7 := Z6.out.cell' (i := 7) rfl
      have z8 := Z6.out.cell' (i := 8) rfl
      clear h5 X6 Y6 Z6 PW6 PS6 PSW6 HRG
      have DV : Hid (Calls Tryz.prog 22 #[.pointer (some ⟨B, 0, none⟩), .agg #[.int .i64 (hat2 : Int), .int .i64 (m2 : Int), .int .i64 (k2 : Int), .int .u64 (a2 : Int)], .agg #[.int .i64 0, .int .i64 (span : Int), .int .i64 (j : Int), .int .i64 0, .int .i64 0, .int .i64 0, .int .i64 0, .bool false, .bool false], .int .i64 (d : Int)] w6 (ValP s w6 B (CF B vn vs lab) (valueC s g ⟨hat2, m2, k2, a2⟩ ⟨0, (span : Int), (j : Int), 0, 0, 0, 0, false, false⟩ d { stx with i := i1 }))) := HV.out g (by have := HG.out; omega) s w6 B _ _ _ _ _ _ _ ⟨hat2, m2, k2, a2⟩ ⟨0, (span : Int), (j : Int), 0, 0, 0, 0, false, false⟩ d PW7.out HSP7.out HAR7.out HD.out (fun e => HNE.out (by rw [HRV.out, e]; rfl))
      have VK := Lib.hid ((all_k PW7.out.by_ g).1 ⟨hat2, m2, k2, a2⟩ ⟨0, (span : Int), (j : Int), 0, 0, 0, 0, false, false⟩ d _ · · PW7.out.ci HSP7.out)
      unfold ValP at DV
      cases hv : valueC s g ⟨hat2, m2, k2, a2⟩ ⟨0, (span : Int), (j : Int), 0, 0, 0, 0, false, false⟩ d { stx with i := i1 } with
      | no => exact absurd (show R = .no by rw [HRV.out, hv]; rfl) HNE.out
      | err b c =>
       rw [hv] at DV
       have hh := Lib.hid (show R = .err b c by rw [HRV.out, hv]; rfl)
       clear hv HRV VK
       go_upto_region 19 with (go_at_call 22; ((with_reducible refine DV.out.mono ?_)); rintro e w8 ⟨rfl, F8, hS8⟩)
       go_wp2
       go_ret
       exact ConP.of_err hh.out rfl (PS7.out.trans hS8)
      | ok p =>
       obtain ⟨item, st8⟩ := p
       rw [hv] at DV
       have HRV8 := Lib.hid (show R = itemC s g ⟨hat, m, k, a⟩ n span d j (item, st8) by rw [HRV.out, hv]; rfl)
       have VK8 := Lib.hid (VK.out _ _ hv)
       clear hv HRV VK
       go_upto_region 19 with (go_at_call 22; ((with_reducible refine DV.out.mono ?_)); rintro e w8 ⟨rfl, vn8, vs8, vh8, vm8, ncs8, lab8, C8, hS8⟩)
       have PW8 := Lib.hid (PW7.out.step hS8 C8 VK8.out.1.ci)
       have PSW8 := Lib.hid (PSW7.out.trans hS8)
       have hn8 : n < st8.nodes.length := Nat.lt_of_lt_of_le HNX7.out VK8.out.1.nod
       have hit8 : (ndAt st8.nodes n).items.length < st8.i := by rw [VK8.out.1.old n HNX7.out trivial]; exact Nat.lt_of_lt_of_le HIT7.out VK8.out.1.i
       have hit8' : (ndAt st8.nodes n).items.length ≤ 65536 := by have := PW8.out.ci.i; have := PW8.out.len; omega
       have CI9 := Lib.hid (PW8.out.ci.item hn8 hit8 item)
       have HJ8 := Lib.hid (show j + 1 ≤ st8.i from Nat.le_trans HJ7.out VK8.out.1.i)
       have hL8 : st8.nodes.length ≤ 4096 := PW8.out.ci.nod
       have HN8 := Lib.hid hn8
       have hndN := Lib.hid (ndAt_get hn8)
       obtain ⟨g8, c8, hv8, _, _⟩ := own_some C8.nod (by omega)
       subst hv8
       obtain ⟨vk, vi, _, _, _, q4, qc, hrk, hri⟩ := C8.nodeCells hndN.out
       obtain ⟨Ai, ci, hvi, _, _⟩ := own_slice hri.1
       subst hvi
       have hn8' : (n : Int) < st8.nodes.length := by omega
       have hn80 : (0 : Int) ≤ n := by omega
       have hL8' : (st8.nodes.length : Int) ≤ 4096 := by omega
       have hBw8 : B < w8.heap.size := C8.lt
       have b4 : w8.cell? ⟨B, 4, none⟩ = some (.slice (some ⟨g8, 0, none⟩) st8.nodes.length c8) := C8.c4
       have i4 := (own_cell1 C8.nod q4).1
       have C8a := C8.below ((Below.refl _ _).alloc (Nat.le_refl _) (.cells #[.int .i64 item] 3))
       have d4 : (w8.alloc (.cells #[.int .i64 item] 3)).cell? ⟨g8, n * 5 + 4, none⟩ = some (.slice Ai (ndAt st8.nodes n).items.length ci) := (own_cell1 C8a.nod q4).1
       have hk2d : w8.drew.ownsRow B 3 1 (.slice Ai (ndAt st8.nodes n).items.length ci) (ndAt st8.nodes n).items.length (I64 (ndAt st8.nodes n).items) := hri.1
       have C8h := Lib.hid C8
       have QC := Lib.hid qc
       have Q4 := Lib.hid q4
       have HRK := Lib.hid (hrk.below (Below.drew (Below.refl _ _)))
       have HRI := Lib.hid (hri.below (Below.drew (Below.refl _ _)))
       clear C8a hS8 DV y0 y1 y2 y3 z0 z1 z2 z3 z4 z5 z6 z7 z8 hn8 hit8 hL8 C8 hrk hri qc q4
       go_upto_region 21 with (fail)
       rw [cload_eq 44 (.tmp 100)]
       go_region_held3 (fun w' => w'.cell? ⟨B, 4, none⟩ = some (.slice (some ⟨g8, 0, none⟩) st8.nodes.length c8)) (first | assumption | exact CM.c4 (by assumption) | go_keep) (first | (refine step_apS rfl (.tmp 101) (.tmp 103) 44 rfl B 3 _ 1 _ Tryz.underlying44 Tryz.info3 rfl (by decide) _ (ndAt st8.nodes n).items.length (I64 (ndAt st8.nodes n).items) rfl (hk2d.alloc _) ⟨w8.heap.size, 0, none⟩ _ [.int .i64 item] rfl rfl (cells_new _ _ _) rfl (by unfold maxLen; omega) (by omega) (by simp; omega) ?_; intro v3 w9 hown3 hgr3 hat3; obtain ⟨A3, c3, rfl, hc3, hm3⟩ := own_slice hown3; obtain ⟨P3, N3, h9, hP9⟩ := C8h.out.drew.addItems hndN.out QC.out HRK.out HRI.out rfl item _ hown3 hgr3 hat3; have p4 := P3.cell' (i := 4) rfl; have i3 := (own_cell1 N3 Q4.out).1; have q3 := (own_cell1 N3 Q4.out).2; clear hgr3 hat3 hown3))
       all_goals
        have H9 := Lib.hid h9
        have HP9 := Lib.hid ((PStep.of_below (F := CF B (.slice (some ⟨g8, 0, none⟩) st8.nodes.length c8) vs8 lab8) (Below.drew (Below.refl _ w8))).trans hP9)
        clear h9 hP9
       all_goals
        go_wp2_with (fail)
        go_roundw
        case rel => exact ⟨j + 1, rfl, ConL.of (PW8.out.step HP9.out H9.out CI9.out) (PSW8.out.trans HP9.out) HJ8.out (by show n < (st8.nodes.set n _).length; rw [List.length_set]; exact HN8.out) (by have := HG.out; omega) HRV8.out.symm⟩
        case measure => first | (simp [intOf]; done) | (simp [intOf]; omega)
  ·have h31 : ((k : Int) == 31) = false := by rw [beq_eq_false_iff_ne]; omega
   have hja : ¬ (j : Int) < a := by omega
   have hh := Lib.hid (show R = .ok stx by rw [← hRg, con_done hc])
   clear hc hRg
   go_wp2_with (fail)
   go_ret
   exact ConP.of_ok hh.out rfl PWx.out.cm PS.out
end Go.Proofs.YtbhigefbihpnlaaGreatDoor
