/- The walk of (*cbor.parser).value. -/
import Derived.Test.YtbhigefbihpnlaaGreatDoorMAw
import Derived.Deep.RegionHeld3
import Derived.Deep.DeepCutAuto
set_option linter.unusedVariables false
set_option linter.unusedSimpArgs false
set_option linter.defProp false
set_option linter.constructorNameAsVariable false
namespace Go.Proofs.YtbhigefbihpnlaaGreatDoor
open Go.RowKit
set_option maxRecDepth 20000 in
set_option maxHeartbeats 16000000 in
theorem value_cb (f : Nat) (hD : DefH f) : ValH (f + 1) := by
 intro s w B vn vs vh vm ncs lab st x sp d hw hl hx hd hne
 obtain ⟨hat, m, k, a⟩ := x
 obtain ⟨snd, spar, sent, sfr, sto, skf, skt, sal, swh⟩ := sp
 obtain ⟨R, hR⟩ : ∃ R, valueC s (f + 1) ⟨hat, m, k, a⟩ ⟨snd, spar, sent, sfr, sto, skf, skt, sal, swh⟩ d st = R := ⟨_, rfl⟩
 rw [hR] at hne ⊢
 show Calls Tryz.prog 22 #[.pointer (some ⟨B, 0, none⟩), headV ⟨hat, m, k, a⟩, .agg #[.int .i64 snd, .int .i64 spar, .int .i64 sent, .int .i64 sfr, .int .i64 sto, .int .i64 skf, .int .i64 skt, .bool sal, .bool swh], .int .i64 (d : Int)] w _
 obtain ⟨h1, h2, h3, hb1, hz1⟩ := box3 w 43 76 55 [.pointer (some ⟨B, 0, none⟩)] [.int .i64 (hat : Int), .int .i64 (m : Int), .int .i64 (k : Int), .int .u64 (a : Int)] [.int .i64 snd, .int .i64 spar, .int .i64 sent, .int .i64 sfr, .int .i64 sto, .int .i64 skf, .int .i64 skt, .bool sal, .bool swh]
 change Hid (Arr (((w.alloc (.cells #[.pointer (some ⟨B, 0, none⟩)] 43)).alloc (.cells #[.int .i64 (hat : Int), .int .i64 (m : Int), .int .i64 (k : Int), .int .u64 (a : Int)] 76)).alloc (.cells #[.int .i64 snd, .int .i64 spar, .int .i64 sent, .int .i64 sfr, .int .i64 sto, .int .i64 skf, .int .i64 skt, .bool sal, .bool swh] 55)) w.heap.size 43 [.pointer (some ⟨B, 0, none⟩)]) at h1
 change Hid (Arr (((w.alloc (.cells #[.pointer (some ⟨B, 0, none⟩)] 43)).alloc (.cells #[.int .i64 (hat : Int), .int .i64 (m : Int), .int .i64 (k : Int), .int .u64 (a : Int)] 76)).alloc (.cells #[.int .i64 snd, .int .i64 spar, .int .i64 sent, .int .i64 sfr, .int .i64 sto, .int .i64 skf, .int .i64 skt, .bool sal, .bool swh] 55)) (w.heap.size + 1) 76 [.int .i64 (hat : Int), .int .i64 (m : Int), .int .i64 (k : Int), .int .u64 (a : Int)]) at h2
 change Hid (Arr (((w.alloc (.cells #[.pointer (some ⟨B, 0, none⟩)] 43)).alloc (.cells #[.int .i64 (hat : Int), .int .i64 (m : Int), .int .i64 (k : Int), .int .u64 (a : Int)] 76)).alloc (.cells #[.int .i64 snd, .int .i64 spar, .int .i64 sent, .int .i64 sfr, .int .i64 sto, .int .i64 skf, .int .i64 skt, .bool sal, .bool swh] 55)) (w.heap.size + 2) 55 [.int .i64 snd, .int .i64 spar, .int .i64 sent, .int .i64 sfr, .int .i64 sto, .int .i64 skf, .int .i64 skt, .bool sal, .bool swh]) at h3
 have HR := Lib.hid hR
 have HNE := Lib.hid hne
 have HDF := Lib.hid hD
 have HAR := Lib.hid hx
 have HD := Lib.hid hd
 have HL := Lib.hid hl
 have PW0 := Lib.hid hw
 obtain ⟨F, hF⟩ : ∃ F, CF B vn vs lab = F := ⟨_, rfl⟩
 have PS1 : Hid (PStep w (((w.alloc (.cells #[.pointer (some ⟨B, 0, none⟩)] 43)).alloc (.cells #[.int .i64 (hat : Int), .int .i64 (m : Int), .int .i64 (k : Int), .int .u64 (a : Int)] 76)).alloc (.cells #[.int .i64 snd, .int .i64 spar, .int .i64 sent, .int .i64 sfr, .int .i64 sto, .int .i64 skf, .int .i64 skt, .bool sal, .bool swh] 55)) F (CF B vn vs lab)) := by rw [← hF]; exact PStep.of_below hb1
 rw [hF]
 clear hF
 have PW1 := Lib.hid (hw.below hb1)
 have PF := Lib.hid (hw.new (g := w.heap.size) (Nat.le_refl _))
 have HF := Lib.hid (hw.new (g := w.heap.size + 1) (Nat.le_succ _))
 have ZF := Lib.hid (hw.new (g := w.heap.size + 2) (by omega))
 have hBw := hw.cm.lt
 have HZ := hz1
 obtain ⟨A, c, hv, hc1, hm1⟩ := own_slice hw.cm.spn
 have hsp7 : st.spans.length ≤ 65536 := by have := hw.ci.spn; have := hw.ci.i; have := hw.len; omega
 subst hv
 clear hR hne hD hw hx hb1 hz1 hd hl
 go_enter Tryz.func22, Tryz.ntmps22
 go_upto_region 1 with (fail)
 generalize (((w.alloc (.cells #[.pointer (some ⟨B, 0, none⟩)] 43)).alloc (.cells #[.int .i64 (hat : Int), .int .i64 (m : Int), .int .i64 (k : Int), .int .u64 (a : Int)] 76)).alloc (.cells #[.int .i64 snd, .int .i64 spar, .int .i64 sent, .int .i64 sfr, .int .i64 sto, .int .i64 skf, .int .i64 skt, .bool sal, .bool swh] 55)) = W at *
 obtain ⟨gp, hgp⟩ : ∃ x, w.heap.size = x := ⟨_, rfl⟩
 have HGP := Lib.hid hgp
 rw [hgp] at h1 h2 h3 PF HF ZF hBw HZ ⊢
 clear hgp
 obtain ⟨gh, hgh⟩ : ∃ x, gp + 1 = x := ⟨_, rfl⟩
 obtain ⟨gs, hgs⟩ : ∃ x, gp + 2 = x := ⟨_, rfl⟩
 rw [hgh] at h2 HF ⊢
 rw [hgs] at h3 ZF
 rw [show gh + 1 = gs by omega]
 have hph : gp ≠ gh := by omega
 have hps : gp ≠ gs := by omega
 have hhs : gh ≠ gs := by omega
 have hpsl : gp < gs := by omega
 have hhsl : gh < gs := by omega
 have hBp : B ≤ gp := by omega
 have hneh : gh ≠ B := by omega
 have hBh : B ≤ gh := by omega
 have hBs : B ≤ gs := by omega
 have hwh : w.heap.size ≤ gh := by have := HGP.out; omega
 have hws : w.heap.size ≤ gs := by have := HGP.out; omega
 clear hgh hgs
 obtain ⟨L, hL⟩ : ∃ L, st.spans.length = L := ⟨_, rfl⟩
 have HLL := Lib.hid hL
 have hL7 : L ≤ 65536 := by omega
 have p0 := h1.out.cell' (i := 0) rfl
 have x0 := h2.out.cell' (i := 0) rfl
 have c6 : W.cell? ⟨B, 6, none⟩ = some (.slice A st.spans.length c) := PW1.out.cm.par.cell' (i := 6) rfl
 have z3 := h3.out.cell' (i := 3) rfl
 have z8 := h3.out.cell' (i := 8) rfl
 have z3f := h3.out.frozen 3
 have z8f := h3.out.frozen 8
 rw [hL] at c6
 clear hsp7 hL
 go_upto_region 3 with (fail)
 have P2 : Hid (Arr ((W.setCell ⟨gs, 3, none⟩ (.int .i64 (hat : Int))).setCell ⟨gs, 8, none⟩ (.bool true)) gp 43 [.pointer (some ⟨B, 0, none⟩)]) := (h1.out.far (p := ⟨gs, 3, none⟩) hps _).far (p := ⟨gs, 8, none⟩) hps _
 have H2 : Hid (Arr ((W.setCell ⟨gs, 3, none⟩ (.int .i64 (hat : Int))).setCell ⟨gs, 8, none⟩ (.bool true)) gh 76 [.int .i64 (hat : Int), .int .i64 (m : Int), .int .i64 (k : Int), .int .u64 (a : Int)]) := (h2.out.far (p := ⟨gs, 3, none⟩) hhs _).far (p := ⟨gs, 8, none⟩) hhs _
 have Z2 : Hid (Arr ((W.setCell ⟨gs, 3, none⟩ (.int .i64 (hat : Int))).setCell ⟨gs, 8, none⟩ (.bool true)) gs 55 [.int .i64 snd, .int .i64 spar, .int .i64 sent, .int .i64 (hat : Int), .int .i64 sto, .int .i64 skf, .int .i64 skt, .bool sal, .bool true]) := (h3.out.store 3 _).store 8 _
 have PW2 := Lib.hid ((PW1.out.aside ZF.out hBs 3 (.int .i64 (hat : Int))).aside ZF.out hBs 8 (.bool true))
 have PS2 := Lib.hid ((PS1.out.aside hws 3 (.int .i64 (hat : Int))).aside hws 8 (.bool true))
 have PF2 := PF
 have HF2 := HF
 have ZF2 := ZF
 generalize ((W.setCell ⟨gs, 3, none⟩ (.int .i64 (hat : Int))).setCell ⟨gs, 8, none⟩ (.bool true)) = w2 at *
 clear p0 x0 c6 z3 z8 z3f z8f h1 h2 h3 PS1 PW1 PF HF ZF HZ
 have p0 := P2.out.cell' (i := 0) rfl
 have c6 : w2.cell? ⟨B, 6, none⟩ = some (.slice A L c) := by have := PW2.out.cm.par.cell' (i := 6) rfl; rw [← HLL.out]; exact this
 have d6 : (w2.alloc (.cells #[.int .i64 snd, .int .i64 spar, .int .i64 sent, .int .i64 (hat : Int), .int .i64 sto, .int .i64 skf, .int .i64 skt, .bool sal, .bool true] 55)).cell? ⟨B, 6, none⟩ = some (.slice A L c) := by have := (PW2.out.cm.par.alloc (.cells #[.int .i64 snd, .int .i64 spar, .int .i64 sent, .int .i64 (hat : Int), .int .i64 sto, .int .i64 skf, .int .i64 skt, .bool sal, .bool true] 55)).cell' (i := 6) rfl; rw [← HLL.out]; exact this
 have z0 := Z2.out.cell' (i := 0) rfl
 have z1 := Z2.out.cell' (i := 1) rfl
 have z2 := Z2.out.cell' (i := 2) rfl
 have z3 := Z2.out.cell' (i := 3) rfl
 have z4 := Z2.out.cell' (i := 4) rfl
 have z5 := Z2.out.cell' (i := 5) rfl
 have z6 := Z2.out.cell' (i := 6) rfl
 have z7 := Z2.out.cell' (i := 7) rfl
 have z8 := Z2.out.cell' (i := 8) rfl
 have hownd : w2.drew.ownsRow B 55 9 (.slice A L c) L (spansC st.spans) := by have := PW2.out.cm.spn; rw [HLL.out] at this; exact this
 have hBw2 : B < w2.heap.size := PW2.out.cm.lt
 have CM2 : Hid (CM w2.drew B s vn (.slice A L c) vh vm ncs lab st) := by have := PW2.out.cm.drew; rw [HLL.out] at this; exact this
 have PA : Arr w2.drew gp 43 [.pointer (some ⟨B, 0, none⟩)] := P2.out
 go_cut [] (fun wx => ∃ vs4, CM wx B s vn vs4 vh vm ncs lab (pushC st hat ⟨snd, spar, sent, sfr, sto, skf, skt, sal, swh⟩) ∧ PStep w2 wx (CF B vn (.slice A L c) lab) (CF B vn vs4 lab))
 case first =>
  rw [cload_eq 27 (.tmp 29), cload_eq 55 (.tmp 6)]
  go_region_held3 (fun w' => w'.cell? ⟨gp, 0, none⟩ = some (.pointer (some ⟨B, 0, none⟩))) (first | assumption | go_keep) (first | (refine step_apS rfl (.tmp 30) (.tmp 32) 27 rfl B 55 _ 9 _ Tryz.underlying27 Tryz.infoS55 rfl (by decide) _ L (spansC st.spans) rfl (hownd.alloc _) ⟨w2.heap.size, 0, none⟩ _ [.int .i64 snd, .int .i64 spar, .int .i64 sent, .int .i64 (hat : Int), .int .i64 sto, .int .i64 skf, .int .i64 skt, .bool sal, .bool true] rfl rfl (cells_new _ _ _) rfl (by unfold maxLen; omega) (by omega) (by simp; omega) ?_; intro v3 w3 hown3 hgr3 hat3; obtain ⟨A3, c3, rfl, hc3, hm3⟩ := own_slice hown3; obtain ⟨P3, h4, hP4⟩ := CM2.out.addSpan ⟨snd, spar, sent, (hat : Int), sto, skf, skt, sal, true⟩ _ (by rw [HLL.out]; exact hown3) hgr3 hat3; have i3 : w3.cell? ⟨B, 6, none⟩ = some (.slice A L c) := P3.cell' (i := 6) rfl; have q3 := P3.frozen 6; have z4 := (arr_grew PA hownd (by decide) hgr3).cell' (i := 0) rfl; have z5' : (w3.setCell ⟨B, 6, none⟩ (.slice A3 (L + 1) c3)).cell? ⟨gp, 0, none⟩ = some (.pointer (some ⟨B, 0, none⟩)) := ((arr_grew PA hownd (by decide) hgr3).far (p := ⟨B, 6, none⟩) (show gp ≠ B by omega) _).cell' (i := 0) rfl; clear hgr3 hat3 hown3))
  all_goals
   have H4 := Lib.hid h4
   have HP4 := Lib.hid ((PStep.of_below (F := CF B vn (.slice A L c) lab) (Below.drew (Below.refl _ w2))).trans hP4)
   clear h4 hP4
  all_goals
   go_wp2_with (fail)
   go_meet
   exact ⟨_, H4.out, HP4.out⟩
 case rest =>
  obtain ⟨vs4, C4, hS4⟩ := hcut
  obtain ⟨w4, hw4⟩ : ∃ x, x = wc := ⟨_, rfl⟩
  subst hw4
  have PW2' : Hid (PW s w2 B vn (.slice A L c) vh vm ncs lab st) := by have := PW2; rw [HLL.out] at this; exact this
  have PS2' : Hid (PStep w w2 F (CF B vn (.slice A L c) lab)) := by have := PS2; rw [HLL.out] at this; exact this
  have PF2' : Hid (¬ CF B vn (.slice A L c) lab gp) := by have := PF2; rw [HLL.out] at this; exact this
  have HF2' : Hid (¬ CF B vn (.slice A L c) lab gh) := by have := HF2; rw [HLL.out] at this; exact this
  have ZF2' : Hid (¬ CF B vn (.slice A L c) lab gs) := by have := ZF2; rw [HLL.out] at this; exact this
  clear PW2 PS2 PF2 HF2 ZF2 CM2 PA p0 c6 d6 hownd z0 z1 z2 z3 z4 z5 z6 z7 z8
  have PW2 := PW2'
  have PS2 := PS2'
  have PF2 := PF2'
  have HF2 := HF2'
  have ZF2 := ZF2'
  clear PW2' PS2' PF2' HF2' ZF2'
  have CI4 := Lib.hid (PW2.out.ci.pushed HL.out hat ⟨snd, spar, sent, sfr, sto, skf, skt, sal, swh⟩)
  have P4 := Lib.hid (hS4.arr P2.out PF2.out)
  have H4 := Lib.hid (hS4.arr H2.out HF2.out)
  have Z4 := Lib.hid (hS4.arr Z2.out ZF2.out)
  have PF4 := Lib.hid (hS4.out P2.out.lt PF2.out)
  have HF4 := Lib.hid (hS4.out H2.out.lt HF2.out)
  have ZF4 := Lib.hid (hS4.out Z2.out.lt ZF2.out)
  have PW4 := Lib.hid (PW2.out.step hS4 C4 CI4.out)
  have PS4 := Lib.hid (PS2.out.trans hS4)
  clear P2 PF2 H2 HF2 Z2 ZF2 PW2 PS2 C4 hS4
  have LA5 : Hid (Arr (w4.alloc (.cells #[.int .i64 (-1)] 3)) w4.heap.size 3 [.int .i64 (-1)]) := Arr.new w4 _ _
  have LAF5 := Lib.hid (PW4.out.new (g := w4.heap.size) (Nat.le_refl _))
  have hb5 := (Below.refl w4.heap.size w4).alloc (Nat.le_refl _) (.cells #[.int .i64 (-1)] 3)
  have P5 := Lib.hid (P4.out.keep hb5)
  have H5 := Lib.hid (H4.out.keep hb5)
  have Z5 := Lib.hid (Z4.out.keep hb5)
  have PW5 := Lib.hid (PW4.out.below hb5)
  have PS5 := Lib.hid (PS4.out.trans (PStep.of_below hb5))
  have PF5 := PF4
  have HF5 := HF4
  have ZF5 := ZF4
  have hgl : gs < w4.heap.size := Z4.out.lt
  clear P4 PF4 H4 HF4 Z4 ZF4 PW4 PS4 hb5
  go_upto_region 5 with (fail)
  generalize (w4.alloc (.cells #[.int .i64 (-1)] 3)) = w5 at *
  obtain ⟨gl, hgl2⟩ : ∃ x, w4.heap.size = x := ⟨_, rfl⟩
  rw [hgl2] at LA5 LAF5 hgl ⊢
  clear hgl2
  have hpl : gp ≠ gl := by omega
  have hhl : gh ≠ gl := by omega
  have hsl : gs ≠ gl := by omega
  have hBl : B ≤ gl := by omega
  have hwl : w.heap.size ≤ gl := by omega
  have p0 := P5.out.cell' (i := 0) rfl
  have x0 := H5.out.cell' (i := 0) rfl
  have x1 := H5.out.cell' (i := 1) rfl
  have x2 := H5.out.cell' (i := 2) rfl
  have x3 := H5.out.cell' (i := 3) rfl
  have D28 := Lib.hid (is_cb ⟨hat, m, k, a⟩ 28)
  obtain ⟨b28, h28⟩ : ∃ b, (CH.mk hat m k a).tag 28 = b := ⟨_, rfl⟩
  rw [h28, show ((28 : Nat) : Int) = 28 from rfl] at D28
  have H28 := Lib.hid h28
  clear h28
  cases b28
  ·have D29 := Lib.hid (is_cb ⟨hat, m, k, a⟩ 29)
   obtain ⟨b29, h29⟩ : ∃ b, (CH.mk hat m k a).tag 29 = b := ⟨_, rfl⟩
   rw [h29, show ((29 : Nat) : Int) = 29 from rfl] at D29
   have H29 := Lib.hid h29
   clear h29
   go_upto_region 15 with (go_at_call 39; ((with_reducible refine (D28.out _).mono ?_)); rintro e w6 ⟨rfl, hb6⟩)
   have P6 := Lib.hid (P5.out.keep hb6)
   have H6 := Lib.hid (H5.out.keep hb6)
   have Z6 := Lib.hid (Z5.out.keep hb6)
   have LA6 := Lib.hid (LA5.out.keep hb6)
   have PW6 := Lib.hid (PW5.out.below hb6)
   have PS6 := Lib.hid (PS5.out.trans (PStep.of_below hb6))
   have PF6 := PF5
   have HF6 := HF5
   have ZF6 := ZF5
   have LAF6 := LAF5
   clear P5 PF5 H5 HF5 Z5 ZF5 LA5 LAF5 PW5 PS5 hb6 D28 p0 x0 x1 x2 x3
   have p0 := P6.out.cell' (i := 0) rfl
   have x0 := H6.out.cell' (i := 0) rfl
   have x1 := H6.out.cell' (i := 1) rfl
   have x2 := H6.out.cell' (i := 2) rfl
   have x3 := H6.out.cell' (i := 3) rfl
   cases b29
   ·go_upto_region 19 with (go_at_call 39; ((with_reducible refine (D29.out _).mono ?_)); rintro e w7 ⟨rfl, hb7⟩)
    have P7 := Lib.hid (P6.out.keep hb7)
    have H7 := Lib.hid (H6.out.keep hb7)
    have Z7 := Lib.hid (Z6.out.keep hb7)
    have LA7 := Lib.hid (LA6.out.keep hb7)
    have PW7 := Lib.hid (PW6.out.below hb7)
    have PS7 := Lib.hid (PS6.out.trans (PStep.of_below hb7))
    have PF7 := PF6
    have HF7 := HF6
    have ZF7 := ZF6
    have LAF7 := LAF6
    clear P6 PF6 H6 HF6 Z6 ZF6 LA6 LAF6 PW6 PS6 hb7 D29 p0 x0 x1 x2 x3
    have p0 := P7.out.cell' (i := 0) rfl
    have x0 := H7.out.cell' (i := 0) rfl
    have x1 := H7.out.cell' (i := 1) rfl
    have x2 := H7.out.cell' (i := 2) rfl
    have x3 := H7.out.cell' (i := 3) rfl
    have HRD := Lib.hid (show R = (defineC s f ⟨hat, m, k, a⟩ hat L d (-1) (pushC st hat ⟨snd, spar, sent, sfr, sto, skf, skt, sal, swh⟩)).bind (finC L) by rw [← HR.out, ← HLL.out]; exact val_def H28.out H29.out)
    have HARD := HAR
    have HLAB := Lib.hid (show (-1 : Int) < ((pushC st hat ⟨snd, spar, sent, sfr, sto, skf, skt, sal, swh⟩).shared.length : Int) by omega)
    have DD : Hid (Calls Tryz.prog 41 #[.pointer (some ⟨B, 0, none⟩), .agg #[.int .i64 (hat : Int), .int .i64 (m : Int), .int .i64 (k : Int), .int .u64 (a : Int)], .int .i64 (hat : Int), .int .i64 (L : Int), .int .i64 (d : Int), .func (.func 42) #[] #[.pointer (some ⟨gl, 0, none⟩), .pointer (some ⟨gp, 0, none⟩)]] w7 (ValP s w7 B (CF B vn vs4 lab) (defineC s f ⟨hat, m, k, a⟩ hat L d (-1) (pushC st hat ⟨snd, spar, sent, sfr, sto, skf, skt, sal, swh⟩)))) := HDF.out s w7 B _ _ _ _ _ _ _ ⟨hat, m, k, a⟩ hat L d (-1) gl gp PW7.out HARD.out HD.out HLAB.out LA7.out P7.out LAF7.out PF7.out (fun e => HNE.out (by rw [HRD.out, e]; rfl))
    unfold ValP at DD
    have hZ3 := Z7.out.cell' (i := 3) rfl
    cases hdq : defineC s f ⟨hat, m, k, a⟩ hat L d (-1) (pushC st hat ⟨snd, spar, sent, sfr, sto, skf, skt, sal, swh⟩) with
    | no => exact absurd (show R = .no by rw [HRD.out, hdq]; rfl) HNE.out
    | err b c =>
     rw [hdq] at DD
     have hh := Lib.hid (show R = .err b c by rw [HRD.out, hdq]; rfl)
     clear hdq HRD
     go_upto_region 20 with (go_at_call 41; ((with_reducible refine DD.out.mono ?_)); rintro e w9 ⟨rfl, F9, hS9⟩)
     go_wp2
     go_ret2
     exact ValP.of_err hh.out rfl (PS7.out.trans hS9)
    | ok p =>
     obtain ⟨v, st4⟩ := p
     rw [hdq] at DD
     have hh := Lib.hid (show R = .ok (v, endS L v st4) by rw [HRD.out, hdq]; rfl)
     have DK := Lib.hid ((all_k PW7.out.by_ f).2.1 _ _ _ _ _ _ _ _ PW7.out.ci hdq)
     clear hdq HRD
     go_upto_region 20 with (go_at_call 41; ((with_reducible refine DD.out.mono ?_)); rintro e w9 ⟨rfl, vn9, vs9, vh9, vm9, ncs9, lab9, C9, hS9⟩)
     have PS9 := Lib.hid (PS7.out.trans hS9)
     have P9 := Lib.hid (hS9.arr P7.out PF7.out)
     have PF9 := Lib.hid (hS9.out P7.out.lt PF7.out)
     have hme9 : L < st4.spans.length := Nat.le_trans (Nat.le_of_eq (show L + 1 = (st.spans ++ [_]).length by rw [List.length_append]; exact (congrArg (· + 1) HLL.out).symm)) DK.out.spn
     have hsp9 : st4.spans.length ≤ 65536 := by have h1 := DK.out.ci.spn; have h2 := DK.out.ci.i; have h3 := PW0.out.len; omega
     clear hS9 DD DK p0 x0 x1 x2 x3 hZ3 P7 PF7 H7 HF7 Z7 ZF7 LA7 LAF7 PW7 PS7
     obtain ⟨gv, cv, hvs, _, _⟩ := own_some C9.spn (by omega)
     subst hvs
     have hme := hme9
     have hLL9 : (L : Int) < st4.spans.length := by omega
     have hL0 : (0 : Int) ≤ L := by omega
     have hlen9 : (st4.spans.length : Int) ≤ 100000 := by omega
     have hvp : gv ≠ gp := fun e => PF9.out (.inr (.inr (.inl (by rw [e]; rfl))))
     have hvB : gv ≠ B := fun e => C9.spnNe (by rw [e]; rfl)
     have p0 : w9.cell? ⟨gp, 0, none⟩ = some (.pointer (some ⟨B, 0, none⟩)) := P9.out.cell' (i := 0) rfl
     have c6 : w9.cell? ⟨B, 6, none⟩ = some (.slice (some ⟨gv, 0, none⟩) st4.spans.length cv) := C9.par.cell' (i := 6) rfl
     have c1 : w9.cell? ⟨B, 1, none⟩ = some (.int .i64 (st4.i : Int)) := C9.par.cell' (i := 1) rfl
     obtain ⟨u0, hu0⟩ := spans_at hme 0 (by decide)
     obtain ⟨u4, hu4⟩ := spans_at hme 4 (by decide)
     obtain ⟨k0, kf0⟩ := own_cell1 C9.spn hu0
     obtain ⟨k4, kf4⟩ := own_cell1 C9.spn hu4
     have K0 : w9.cell? ⟨gv, L * 9, none⟩ = some u0 := k0
     have KF0 : w9.frozen? ⟨gv, L * 9, none⟩ = false := kf0
     have E1 := Lib.hid (C9.drew.fin1 hme v)
     have E2 := Lib.hid (C9.drew.fin2 hme v)
     have hdr := Lib.hid ((PStep.refl w9 (CF B vn9 (.slice (some ⟨gv, 0, none⟩) st4.spans.length cv) lab9)).drew)
     obtain ⟨SI, hSI⟩ : ∃ x : Int, (st4.i : Int) = x := ⟨_, rfl⟩
     obtain ⟨SL, hSL⟩ : ∃ x : Nat, st4.spans.length = x := ⟨_, rfl⟩
     rw [hSI] at c1 E1 E2
     rw [hSL] at c6 E1 E2 hLL9 hlen9 hdr
     have PS9b := PS9
     rw [hSL] at PS9b
     clear k0 kf0 hu0 hu4 hme hme9 C9 P9 PF9 hSI hSL PS9
     go_upto_region 22 with (fail)
     go_region_held3 (fun w' => w'.cell? ⟨gp, 0, none⟩ = some (.pointer (some ⟨B, 0, none⟩)) ∧ w'.cell? ⟨B, 6, none⟩ = some (.slice (some ⟨gv, 0, none⟩) SL cv) ∧ w'.cell? ⟨B, 1, none⟩ = some (.int .i64 SI)) (first | exact ⟨by assumption, by assumption, by assumption⟩ | (refine ⟨?_, ?_, ?_⟩ <;> (simp only [World.cell?_setCell_far _ _ _ _ hvp.symm, World.cell?_setCell_far _ _ _ _ hvB.symm]; assumption)) | go_keep) (fail)
     all_goals
      go_wp2_with (fail)
      go_ret2
      first
       | exact ValP.of_ok hh.out rfl E1.out.1 (PS9b.out.trans (hdr.out.trans E1.out.2))
       | exact ValP.of_ok hh.out rfl E2.out.1 (PS9b.out.trans (hdr.out.trans E2.out.2))
   ·have HRA := Lib.hid (show R = (aliasC s ⟨hat, m, k, a⟩ (pushC st hat ⟨snd, spar, sent, sfr, sto, skf, skt, sal, swh⟩)).bind fun q => finC L (q.1, aliasS L q.2) by rw [← HR.out, ← HLL.out]; exact val_alias H28.out H29.out)
    go_upto_region 17 with (go_at_call 39; ((with_reducible refine (D29.out _).mono ?_)); rintro e w7 ⟨rfl, hb7⟩)
    have P7 := Lib.hid (P6.out.keep hb7)
    have H7 := Lib.hid (H6.out.keep hb7)
    have Z7 := Lib.hid (Z6.out.keep hb7)
    have LA7 := Lib.hid (LA6.out.keep hb7)
    have PW7 := Lib.hid (PW6.out.below hb7)
    have PS7 := Lib.hid (PS6.out.trans (PStep.of_below hb7))
    have PF7 := PF6
    have HF7 := HF6
    have ZF7 := ZF6
    have LAF7 := LAF6
    clear P6 PF6 H6 HF6 Z6 ZF6 LA6 LAF6 PW6 PS6 hb7 D29 p0 x0 x1 x2 x3
    have p0 := P7.out.cell' (i := 0) rfl
    have x0 := H7.out.cell' (i := 0) rfl
    have x1 := H7.out.cell' (i := 1) rfl
    have x2 := H7.out.cell' (i := 2) rfl
    have x3 := H7.out.cell' (i := 3) rfl
    have hano : aliasC s ⟨hat, m, k, a⟩ (pushC st hat ⟨snd, spar, sent, sfr, sto, skf, skt, sal, swh⟩) ≠ .no := fun e => HNE.out (by rw [HRA.out, e]; rfl)
    have DA := Lib.hid (alias_cb PW7.out.by_ PW7.out.len (by have := PW7.out.ci.i; have := PW7.out.len; omega) PW7.out.cm (by have := PW7.out.ci.shr; have := PW7.out.ci.spn; have := PW7.out.ci.i; have := PW7.out.len; omega) ⟨hat, m, k, a⟩ hano PW7.out.libH)
    unfold AliP at DA
    have hlenP : (pushC st hat ⟨snd, spar, sent, sfr, sto, skf, skt, sal, swh⟩).spans.length = L + 1 := by show (st.spans ++ [_]).length = L + 1; rw [List.length_append]; exact congrArg (· + 1) HLL.out
    obtain ⟨gv, cv, hvs, _, _⟩ := own_some PW7.out.cm.spn (by omega)
    subst hvs
    have HLP := Lib.hid hlenP
    have hvp : gv ≠ gp := fun e => PF7.out (.inr (.inr (.inl (by rw [e]; rfl))))
    have hL1 : (L : Int) < (pushC st hat ⟨snd, spar, sent, sfr, sto, skf, skt, sal, swh⟩).spans.length := by omega
    have hL0 : (0 : Int) ≤ L := by omega
    have hL65 : ((pushC st hat ⟨snd, spar, sent, sfr, sto, skf, skt, sal, swh⟩).spans.length : Int) ≤ 100000 := by omega
    clear hlenP hano
    cases haq : aliasC s ⟨hat, m, k, a⟩ (pushC st hat ⟨snd, spar, sent, sfr, sto, skf, skt, sal, swh⟩) with
    | no => exact absurd (show R = .no by rw [HRA.out, haq]; rfl) HNE.out
    | err b c =>
     rw [haq] at DA
     have hh := Lib.hid (show R = .err b c by rw [HRA.out, haq]; rfl)
     clear haq HRA
     go_upto_region 18 with (go_at_call 40; ((with_reducible refine DA.out.mono ?_)); rintro e w8 ⟨rfl, j8, hk⟩)
     have S8 := Lib.hid (PW7.out.cm.atw hk).2
     have C8 := Lib.hid (PW7.out.cm.atw hk).1
     have q0 := (S8.out.arr P7.out PF7.out).cell' (i := 0) rfl
     have c6 : w8.cell? ⟨B, 6, none⟩ = some (.slice (some ⟨gv, 0, none⟩) (pushC st hat ⟨snd, spar, sent, sfr, sto, skf, skt, sal, swh⟩).spans.length cv) := C8.out.par.cell' (i := 6) rfl
     obtain ⟨u7, hu7⟩ := spans_at (l := (pushC st hat ⟨snd, spar, sent, sfr, sto, skf, skt, sal, swh⟩).spans) (k := L) (by rw [HLP.out]; omega) 7 (by decide)
     obtain ⟨k7, kf7⟩ := own_cell1 C8.out.spn hu7
     have E8 := Lib.hid (CM.alias1 (st := { (pushC st hat ⟨snd, spar, sent, sfr, sto, skf, skt, sal, swh⟩) with i := j8 }) C8.out (me := L) (by show L < (pushC st hat ⟨snd, spar, sent, sfr, sto, skf, skt, sal, swh⟩).spans.length; rw [HLP.out]; omega))
     clear hk hu7
     go_wp2
     go_ret2
     exact ValP.of_err hh.out rfl ((PS7.out.trans S8.out).trans E8.out.2)
    | ok p =>
     obtain ⟨v, st8⟩ := p
     rw [haq] at DA
     have hst8 : st8 = { (pushC st hat ⟨snd, spar, sent, sfr, sto, skf, skt, sal, swh⟩) with i := st8.i } ∧ st8.i ≤ s.length := by
      unfold aliasC at haq
      obtain ⟨⟨x, i1⟩, q1, q2⟩ := CR.bind_ok haq
      dsimp only at q2
      split at q2
      ·cases q2
      split at q2
      ·cases q2
      ·cases q2; exact ⟨rfl, (hd_facts PW0.out.by_ q1).2.2.1⟩
     have hh := Lib.hid (show R = .ok (v, endS L v (aliasS L st8)) by rw [HRA.out, haq]; rfl)
     have HST8 := Lib.hid hst8
     obtain ⟨i8, hi8⟩ : ∃ i8, st8.i = i8 := ⟨_, rfl⟩
     have HI8 := Lib.hid hi8
     rw [hi8] at HST8
     rw [HST8.out.1] at hh
     clear haq HRA hst8 hi8
     go_upto_region 18 with (go_at_call 40; ((with_reducible refine DA.out.mono ?_)); rintro e w8 ⟨rfl, hk⟩; rw [HI8.out] at hk)
     have S8 := Lib.hid (PW7.out.cm.atw hk).2
     have C8 := Lib.hid (PW7.out.cm.atw hk).1
     have q0 := (S8.out.arr P7.out PF7.out).cell' (i := 0) rfl
     have c6 : w8.cell? ⟨B, 6, none⟩ = some (.slice (some ⟨gv, 0, none⟩) (pushC st hat ⟨snd, spar, sent, sfr, sto, skf, skt, sal, swh⟩).spans.length cv) := C8.out.par.cell' (i := 6) rfl
     obtain ⟨u7, hu7⟩ := spans_at (l := (pushC st hat ⟨snd, spar, sent, sfr, sto, skf, skt, sal, swh⟩).spans) (k := L) (by rw [HLP.out]; omega) 7 (by decide)
     obtain ⟨k7, kf7⟩ := own_cell1 C8.out.spn hu7
     have E8 := Lib.hid (CM.alias1 (st := { (pushC st hat ⟨snd, spar, sent, sfr, sto, skf, skt, sal, swh⟩) with i := i8 }) C8.out (me := L) (by show L < (pushC st hat ⟨snd, spar, sent, sfr, sto, skf, skt, sal, swh⟩).spans.length; rw [HLP.out]; omega))
     have P8 := Lib.hid (S8.out.arr P7.out PF7.out)
     have PF8 := Lib.hid (S8.out.out P7.out.lt PF7.out)
     clear hk hu7 p0
     go_upto_region 20 with (fail)
     have PS9 := Lib.hid ((PS7.out.trans S8.out).trans E8.out.2)
     have P9 := Lib.hid (P8.out.far (p := ⟨gv, L * 9 + 7, none⟩) (Ne.symm hvp) (.bool true))
     have PF9 := PF8
     have C9 := E8.out.1
     clear q0 c6 k7 kf7 E8 P8 PF8 S8 C8 DA x0 x1 x2 x3 P7 PF7 H7 HF7 Z7 ZF7 LA7 LAF7 PW7 PS7
     generalize (w8.setCell ⟨gv, L * 9 + 7, none⟩ (.bool true)) = w9 at *
     obtain ⟨st4, hst4⟩ : ∃ x, aliasS L { (pushC st hat ⟨snd, spar, sent, sfr, sto, skf, skt, sal, swh⟩) with i := i8 } = x := ⟨_, rfl⟩
     have hsp4 : st4.spans.length = L + 1 := by rw [← hst4]; unfold aliasS; rw [List.length_modify]; exact HLP.out
     have hme9 : L < st4.spans.length := by omega
     have hsp9 : st4.spans.length ≤ 65537 := by omega
     rw [hst4] at hh C9
     clear hst4 hL1 hL0 hL65 hsp4 hvp HLP HST8
     obtain ⟨gv2, cv2, hvs, _, _⟩ := own_some C9.spn (by omega)
     have hvs' := hvs
     injection hvs with e1 e2 e3
     injection e1 with e1
     injection e1 with e1
     subst e1 e3
     rw [hvs'] at C9 PS9 PF9
     clear hvs' e2
     have hme := hme9
     have hLL9 : (L : Int) < st4.spans.length := by omega
     have hL0 : (0 : Int) ≤ L := by omega
     have hlen9 : (st4.spans.length : Int) ≤ 100000 := by omega
     have hvp : gv ≠ gp := fun e => PF9.out (.inr (.inr (.inl (by rw [e]; rfl))))
     have hvB : gv ≠ B := fun e => C9.spnNe (by rw [e]; rfl)
     have p0 : w9.cell? ⟨gp, 0, none⟩ = some (.pointer (some ⟨B, 0, none⟩)) := P9.out.cell' (i := 0) rfl
     have c6 : w9.cell? ⟨B, 6, none⟩ = some (.slice (some ⟨gv, 0, none⟩) st4.spans.length cv) := C9.par.cell' (i := 6) rfl
     have c1 : w9.cell? ⟨B, 1, none⟩ = some (.int .i64 (st4.i : Int)) := C9.par.cell' (i := 1) rfl
     obtain ⟨u0, hu0⟩ := spans_at hme 0 (by decide)
     obtain ⟨u4, hu4⟩ := spans_at hme 4 (by decide)
     obtain ⟨k0, kf0⟩ := own_cell1 C9.spn hu0
     obtain ⟨k4, kf4⟩ := own_cell1 C9.spn hu4
     have K0 : w9.cell? ⟨gv, L * 9, none⟩ = some u0 := k0
     have KF0 : w9.frozen? ⟨gv, L * 9, none⟩ = false := kf0
     have E1 := Lib.hid (C9.drew.fin1 hme v)
     have E2 := Lib.hid (C9.drew.fin2 hme v)
     have hdr := Lib.hid ((PStep.refl w9 (CF B vn (.slice (some ⟨gv, 0, none⟩) st4.spans.length cv) lab)).drew)
     obtain ⟨SI, hSI⟩ : ∃ x : Int, (st4.i : Int) = x := ⟨_, rfl⟩
     obtain ⟨SL, hSL⟩ : ∃ x : Nat, st4.spans.length = x := ⟨_, rfl⟩
     rw [hSI] at c1 E1 E2
     rw [hSL] at c6 E1 E2 hLL9 hlen9 hdr
     have PS9b := PS9
     rw [hSL] at PS9b
     clear k0 kf0 hu0 hu4 hme hme9 C9 P9 PF9 hSI hSL PS9
     go_upto_region 22 with (fail)
     go_region_held3 (fun w' => w'.cell? ⟨gp, 0, none⟩ = some (.pointer (some ⟨B, 0, none⟩)) ∧ w'.cell? ⟨B, 6, none⟩ = some (.slice (some ⟨gv, 0, none⟩) SL cv) ∧ w'.cell? ⟨B, 1, none⟩ = some (.int .i64 SI)) (first | exact ⟨by assumption, by assumption, by assumption⟩ | (refine ⟨?_, ?_, ?_⟩ <;> (simp only [World.cell?_setCell_far _ _ _ _ hvp.symm, World.cell?_setCell_far _ _ _ _ hvB.symm]; assumption)) | go_keep) (fail)
     all_goals
      go_wp2_with (fail)
      go_ret2
      first
       | exact ValP.of_ok hh.out rfl E1.out.1 (PS9b.out.trans (hdr.out.trans E1.out.2))
       | exact ValP.of_ok hh.out rfl E2.out.1 (PS9b.out.trans (hdr.out.trans E2.out.2))
  ·obtain ⟨SH, hSH⟩ : ∃ x, st.shared.length = x := ⟨_, rfl⟩
   obtain ⟨MK, hMK⟩ : ∃ x, st.marks.length = x := ⟨_, rfl⟩
   obtain ⟨Ah, ch, hvh, _, _⟩ := own_slice PW5.out.cm.shr.1
   rw [show (pushC st hat ⟨snd, spar, sent, sfr, sto, skf, skt, sal, swh⟩).shared.length = SH from hSH] at hvh
   subst hvh
   obtain ⟨Am, cm, hvm, _, _⟩ := own_slice PW5.out.cm.mrk.1
   rw [show (pushC st hat ⟨snd, spar, sent, sfr, sto, skf, skt, sal, swh⟩).marks.length = MK from hMK] at hvm
   subst hvm
   have hSL : SH ≤ L := by have := PW0.out.ci.shr; have := HLL.out; omega
   have hML : MK ≤ L := by have := PW0.out.ci.mrk; have := HLL.out; omega
   have HSH := Lib.hid hSH
   have HMK := Lib.hid hMK
   clear hSH hMK
   go_upto_region 6 with (go_at_call 39; ((with_reducible refine (D28.out _).mono ?_)); rintro e w6 ⟨rfl, hb6⟩)
   have P6 := Lib.hid (P5.out.keep hb6)
   have H6 := Lib.hid (H5.out.keep hb6)
   have Z6 := Lib.hid (Z5.out.keep hb6)
   have LA6 := Lib.hid (LA5.out.keep hb6)
   have PW6 := Lib.hid (PW5.out.below hb6)
   have PS6 := Lib.hid (PS5.out.trans (PStep.of_below hb6))
   have PF6 := PF5
   have HF6 := HF5
   have ZF6 := ZF5
   have LAF6 := LAF5
   clear P5 PF5 H5 HF5 Z5 ZF5 LA5 LAF5 PW5 PS5 hb6 D28 p0 x0 x1 x2 x3
   have p0 := P6.out.cell' (i := 0) rfl
   have c8 : w6.cell? ⟨B, 8, none⟩ = some (.slice Ah SH ch) := PW6.out.cm.par.cell' (i := 8) rfl
   have l0 := LA6.out.cell' (i := 0) rfl
   have lf := LA6.out.frozen 0
   go_upto_region 7 with (fail)
   have P7 := Lib.hid (P6.out.far (p := ⟨gl, 0, none⟩) hpl (.int .i64 (SH : Int)))
   have H7 := Lib.hid (H6.out.far (p := ⟨gl, 0, none⟩) hhl (.int .i64 (SH : Int)))
   have Z7 := Lib.hid (Z6.out.far (p := ⟨gl, 0, none⟩) hsl (.int .i64 (SH : Int)))
   have LA7 : Hid (Arr (w6.setCell ⟨gl, 0, none⟩ (.int .i64 (SH : Int))) gl 3 [.int .i64 (SH : Int)]) := LA6.out.store 0 _
   have PW7 := Lib.hid (PW6.out.aside LAF6.out hBl 0 (.int .i64 (SH : Int)))
   have PS7 := Lib.hid (PS6.out.aside hwl 0 (.int .i64 (SH : Int)))
   have PF7 := PF6
   have HF7 := HF6
   have ZF7 := ZF6
   have LAF7 := LAF6
   clear P6 PF6 H6 HF6 Z6 ZF6 LA6 LAF6 PW6 PS6 p0 c8 l0 lf
   generalize (w6.setCell ⟨gl, 0, none⟩ (.int .i64 (SH : Int))) = w7 at *
   have p0 := P7.out.cell' (i := 0) rfl
   have c8 : w7.cell? ⟨B, 8, none⟩ = some (.slice Ah SH ch) := PW7.out.cm.par.cell' (i := 8) rfl
   have d8 : (w7.alloc (.cells #[.int .i64 (-1)] 3)).cell? ⟨B, 8, none⟩ = some (.slice Ah SH ch) := (PW7.out.cm.par.alloc (.cells #[.int .i64 (-1)] 3)).cell' (i := 8) rfl
   have hownd : w7.drew.ownsRow B 3 1 (.slice Ah SH ch) SH (I64 st.shared) := by have := PW7.out.cm.shr.1; rw [show (pushC st hat ⟨snd, spar, sent, sfr, sto, skf, skt, sal, swh⟩).shared.length = SH from HSH.out] at this; exact this
   have hBw7 : B < w7.heap.size := PW7.out.cm.lt
   have CM7 := Lib.hid PW7.out.cm.drew
   have PA : Arr w7.drew gp 43 [.pointer (some ⟨B, 0, none⟩)] := P7.out
   go_cut [] (fun wx => ∃ vh8 lab8, CM wx B s vn vs4 vh8 (.slice Am MK cm) ncs lab8 { (pushC st hat ⟨snd, spar, sent, sfr, sto, skf, skt, sal, swh⟩) with shared := st.shared ++ [-1] } ∧ PStep w7 wx (CF B vn vs4 lab) (CF B vn vs4 lab8))
   case first =>
    rw [cload_eq 44 (.tmp 47)]
    go_region_held3 (fun w' => w'.cell? ⟨gp, 0, none⟩ = some (.pointer (some ⟨B, 0, none⟩))) (first | assumption | go_keep) (first | (refine step_apS rfl (.tmp 48) (.tmp 49) 44 rfl B 3 _ 1 _ Tryz.underlying44 Tryz.info3 rfl (by decide) _ SH (I64 st.shared) rfl (hownd.alloc _) ⟨w7.heap.size, 0, none⟩ _ [.int .i64 (-1)] rfl rfl (cells_new _ _ _) rfl (by unfold maxLen; omega) (by omega) (by simp; omega) ?_; intro v3 w3 hown3 hgr3 hat3; obtain ⟨A3, c3, rfl, hc3, hm3⟩ := own_slice hown3; obtain ⟨P3, h4, hP4⟩ := CM7.out.addShared (-1) _ (by rw [show (pushC st hat ⟨snd, spar, sent, sfr, sto, skf, skt, sal, swh⟩).shared.length = SH from HSH.out]; exact hown3) hgr3 hat3; have i3 : w3.cell? ⟨B, 8, none⟩ = some (.slice Ah SH ch) := P3.cell' (i := 8) rfl; have q3 := P3.frozen 8; have z4 := (arr_grew PA hownd (by decide) hgr3).cell' (i := 0) rfl; have z5' : (w3.setCell ⟨B, 8, none⟩ (.slice A3 (SH + 1) c3)).cell? ⟨gp, 0, none⟩ = some (.pointer (some ⟨B, 0, none⟩)) := ((arr_grew PA hownd (by decide) hgr3).far (p := ⟨B, 8, none⟩) (show gp ≠ B by omega) _).cell' (i := 0) rfl; clear hgr3 hat3 hown3))
    all_goals
     have H4 := Lib.hid h4
     have HP4 := Lib.hid ((PStep.of_below (F := CF B vn vs4 lab) (Below.drew (Below.refl _ w7))).trans hP4)
     clear h4 hP4
    all_goals
     go_wp2_with (fail)
     go_meet
     exact ⟨_, _, H4.out, HP4.out⟩
   case rest =>
    obtain ⟨vh8, lab8, C8, hS8⟩ := hcut
    obtain ⟨w8, hw8⟩ : ∃ x, x = wc := ⟨_, rfl⟩
    subst hw8
    have CI8 : Hid (CI s { (pushC st hat ⟨snd, spar, sent, sfr, sto, skf, skt, sal, swh⟩) with shared := st.shared ++ [-1] }) := ⟨CI4.out.i, CI4.out.nod, CI4.out.spn, by show (st.shared ++ [-1]).length ≤ (st.spans ++ [_]).length; rw [List.length_append, List.length_append, HSH.out, HLL.out]; show SH + 1 ≤ L + 1; omega, CI4.out.mrk, CI4.out.by_, CI4.out.kl, CI4.out.ks⟩
    clear p0 c8 d8 hownd CM7 PA
    have P8 := Lib.hid (hS8.arr P7.out PF7.out)
    have H8 := Lib.hid (hS8.arr H7.out HF7.out)
    have Z8 := Lib.hid (hS8.arr Z7.out ZF7.out)
    have LA8 := Lib.hid (hS8.arr LA7.out LAF7.out)
    have PF8 := Lib.hid (hS8.out P7.out.lt PF7.out)
    have HF8 := Lib.hid (hS8.out H7.out.lt HF7.out)
    have ZF8 := Lib.hid (hS8.out Z7.out.lt ZF7.out)
    have LAF8 := Lib.hid (hS8.out LA7.out.lt LAF7.out)
    have PW8 := Lib.hid (PW7.out.step hS8 C8 CI8.out)
    have PS8 := Lib.hid (PS7.out.trans hS8)
    clear P7 PF7 H7 HF7 Z7 ZF7 LA7 LAF7 PW7 PS7 C8 hS8
    have p0 := P8.out.cell' (i := 0) rfl
    have x0 := H8.out.cell' (i := 0) rfl
    have c9 : w8.cell? ⟨B, 9, none⟩ = some (.slice Am MK cm) := PW8.out.cm.par.cell' (i := 9) rfl
    have d9 : (w8.alloc (.cells #[.int .i64 (hat : Int)] 3)).cell? ⟨B, 9, none⟩ = some (.slice Am MK cm) := (PW8.out.cm.par.alloc (.cells #[.int .i64 (hat : Int)] 3)).cell' (i := 9) rfl
    have hownd : w8.drew.ownsRow B 3 1 (.slice Am MK cm) MK (I64 st.marks) := by have := PW8.out.cm.mrk.1; rw [show ({ (pushC st hat ⟨snd, spar, sent, sfr, sto, skf, skt, sal, swh⟩) with shared := st.shared ++ [-1] } : CSt).marks.length = MK from HMK.out] at this; exact this
    have hBw8 : B < w8.heap.size := PW8.out.cm.lt
    have CM8 := Lib.hid PW8.out.cm.drew
    have PA : Arr w8.drew gp 43 [.pointer (some ⟨B, 0, none⟩)] := P8.out
    have PH : Arr w8.drew gh 76 [.int .i64 (hat : Int), .int .i64 (m : Int), .int .i64 (k : Int), .int .u64 (a : Int)] := H8.out
    go_upto_region 8 with (fail)
    go_cut [] (fun wx => ∃ vm9 lab9, CM wx B s vn vs4 vh8 vm9 ncs lab9 (shareC (pushC st hat ⟨snd, spar, sent, sfr, sto, skf, skt, sal, swh⟩) hat) ∧ PStep w8 wx (CF B vn vs4 lab8) (CF B vn vs4 lab9))
    case first =>
     rw [cload_eq 44 (.tmp 56)]
     go_region_held3 (fun w' => w'.cell? ⟨gp, 0, none⟩ = some (.pointer (some ⟨B, 0, none⟩)) ∧ w'.cell? ⟨gh, 0, none⟩ = some (.int .i64 (hat : Int))) (first | exact ⟨by assumption, by assumption⟩ | go_keep) (first | (refine step_apS rfl (.tmp 57) (.tmp 60) 44 rfl B 3 _ 1 _ Tryz.underlying44 Tryz.info3 rfl (by decide) _ MK (I64 st.marks) rfl (hownd.alloc _) ⟨w8.heap.size, 0, none⟩ _ [.int .i64 (hat : Int)] rfl rfl (cells_new _ _ _) rfl (by unfold maxLen; omega) (by omega) (by simp; omega) ?_; intro v3 w3 hown3 hgr3 hat3; obtain ⟨A3, c3, rfl, hc3, hm3⟩ := own_slice hown3; obtain ⟨P3, h4, hP4⟩ := CM8.out.addMark (hat : Int) _ (by rw [show ({ (pushC st hat ⟨snd, spar, sent, sfr, sto, skf, skt, sal, swh⟩) with shared := st.shared ++ [-1] } : CSt).marks.length = MK from HMK.out]; exact hown3) hgr3 hat3; have i3 : w3.cell? ⟨B, 9, none⟩ = some (.slice Am MK cm) := P3.cell' (i := 9) rfl; have q3 := P3.frozen 9; have z4 := (arr_grew PA hownd (by decide) hgr3).cell' (i := 0) rfl; have z6 := (arr_grew PH hownd (by decide) hgr3).cell' (i := 0) rfl; have z5' : (w3.setCell ⟨B, 9, none⟩ (.slice A3 (MK + 1) c3)).cell? ⟨gp, 0, none⟩ = some (.pointer (some ⟨B, 0, none⟩)) := ((arr_grew PA hownd (by decide) hgr3).far (p := ⟨B, 9, none⟩) (show gp ≠ B by omega) _).cell' (i := 0) rfl; have z7' : (w3.setCell ⟨B, 9, none⟩ (.slice A3 (MK + 1) c3)).cell? ⟨gh, 0, none⟩ = some (.int .i64 (hat : Int)) := ((arr_grew PH hownd (by decide) hgr3).far (p := ⟨B, 9, none⟩) hneh _).cell' (i := 0) rfl; clear hgr3 hat3 hown3))
     all_goals
      have H4 := Lib.hid h4
      have HP4 := Lib.hid ((PStep.of_below (F := CF B vn vs4 lab8) (Below.drew (Below.refl _ w8))).trans hP4)
      clear h4 hP4
     all_goals
      go_wp2_with (fail)
      go_meet
      exact ⟨_, _, H4.out, HP4.out⟩
    case rest =>
     obtain ⟨vm9, lab9, C9, hS9⟩ := hcut
     obtain ⟨w9, hw9⟩ : ∃ x, x = wc := ⟨_, rfl⟩
     subst hw9
     have CI9 : Hid (CI s (shareC (pushC st hat ⟨snd, spar, sent, sfr, sto, skf, skt, sal, swh⟩) hat)) := ⟨CI8.out.i, CI8.out.nod, CI8.out.spn, CI8.out.shr, by show (st.marks ++ [_]).length ≤ (st.spans ++ [_]).length; rw [List.length_append, List.length_append, HMK.out, HLL.out]; show MK + 1 ≤ L + 1; omega, CI8.out.by_, CI8.out.kl, CI8.out.ks⟩
     clear p0 x0 c9 d9 hownd CM8 PA PH CI8
     have P9 := Lib.hid (hS9.arr P8.out PF8.out)
     have H9 := Lib.hid (hS9.arr H8.out HF8.out)
     have Z9 := Lib.hid (hS9.arr Z8.out ZF8.out)
     have LA9 := Lib.hid (hS9.arr LA8.out LAF8.out)
     have PF9 := Lib.hid (hS9.out P8.out.lt PF8.out)
     have HF9 := Lib.hid (hS9.out H8.out.lt HF8.out)
     have ZF9 := Lib.hid (hS9.out Z8.out.lt ZF8.out)
     have LAF9 := Lib.hid (hS9.out LA8.out.lt LAF8.out)
     have PW9 := Lib.hid (PW8.out.step hS9 C9 CI9.out)
     have PS9 := Lib.hid (PS8.out.trans hS9)
     clear P8 PF8 H8 HF8 Z8 ZF8 LA8 LAF8 PW8 PS8 C9 hS9
     have p0 := P9.out.cell' (i := 0) rfl
     have DH := Lib.hid (head_cb PW9.out.by_ PW9.out.len (by have := PW9.out.ci.i; have := PW9.out.len; omega) w9 PW9.out.cm.par)
     unfold HeadP at DH
     cases hq : hdC s st.i with
     | no => exact absurd hq (hd_no _ _)
     | err b c =>
      have hq' : hdC s (shareC (pushC st hat ⟨snd, spar, sent, sfr, sto, skf, skt, sal, swh⟩) hat).i = .err b c := hq
      rw [hq'] at DH
      have hh := Lib.hid (show R = .err b c by rw [← HR.out]; exact val_herr H28.out hq)
      clear hq hq'
      go_upto_region 11 with (go_at_call 21; ((with_reducible refine DH.out.mono ?_)); rintro e w10 ⟨rfl, j9, hk⟩; have hY := Lib.hid ((PW9.out.cm.atw hk).2.arr H9.out HF9.out); have y0 := hY.out.cell' (i := 0) rfl; have y1 := hY.out.cell' (i := 1) rfl; have y2 := hY.out.cell' (i := 2) rfl; have y3 := hY.out.cell' (i := 3) rfl; have f0 := hY.out.frozen 0; have f1 := hY.out.frozen 1; have f2 := hY.out.frozen 2; have f3 := hY.out.frozen 3)
      have S10 := Lib.hid (PW9.out.cm.atw hk).2
      clear hk
      go_wp2
      go_ret2
      exact ValP.of_err hh.out rfl (((((PS9.out.trans S10.out).aside hwh 0 _).aside hwh 1 _).aside hwh 2 _).aside hwh 3 _)
     | ok p =>
      obtain ⟨⟨hat2, m2, k2, a2⟩, i2⟩ := p
      have hq' : hdC s (shareC (pushC st hat ⟨snd, spar, sent, sfr, sto, skf, skt, sal, swh⟩) hat).i = .ok (⟨hat2, m2, k2, a2⟩, i2) := hq
      rw [hq'] at DH
      have HF2 := Lib.hid (hd_facts PW0.out.by_ hq)
      have HQ := Lib.hid hq
      clear hq hq'
      go_upto_region 11 with (go_at_call 21; ((with_reducible refine DH.out.mono ?_)); rintro e w10 ⟨rfl, hk⟩; have hY := Lib.hid ((PW9.out.cm.atw hk).2.arr H9.out HF9.out); have y0 := hY.out.cell' (i := 0) rfl; have y1 := hY.out.cell' (i := 1) rfl; have y2 := hY.out.cell' (i := 2) rfl; have y3 := hY.out.cell' (i := 3) rfl; have f0 := hY.out.frozen 0; have f1 := hY.out.frozen 1; have f2 := hY.out.frozen 2; have f3 := hY.out.frozen 3)
      have S10 := Lib.hid (PW9.out.cm.atw hk).2
      have C10 := Lib.hid (PW9.out.cm.atw hk).1
      have PW10 := Lib.hid (PW9.out.step S10.out C10.out (PW9.out.ci.to (by show st.i ≤ i2; have := HF2.out.2.1; omega) HF2.out.2.2.1))
      have P11 : Hid (Arr ((((w10.setCell ⟨gh, 0, none⟩ (.int .i64 (hat2 : Int))).setCell ⟨gh, 1, none⟩ (.int .i64 (m2 : Int))).setCell ⟨gh, 2, none⟩ (.int .i64 (k2 : Int))).setCell ⟨gh, 3, none⟩ (.int .u64 (a2 : Int))) gp 43 [.pointer (some ⟨B, 0, none⟩)]) := ((((S10.out.arr P9.out PF9.out).far (p := ⟨gh, 0, none⟩) hph _).far (p := ⟨gh, 1, none⟩) hph _).far (p := ⟨gh, 2, none⟩) hph _).far (p := ⟨gh, 3, none⟩) hph _
      have H11 : Hid (Arr ((((w10.setCell ⟨gh, 0, none⟩ (.int .i64 (hat2 : Int))).setCell ⟨gh, 1, none⟩ (.int .i64 (m2 : Int))).setCell ⟨gh, 2, none⟩ (.int .i64 (k2 : Int))).setCell ⟨gh, 3, none⟩ (.int .u64 (a2 : Int))) gh 76 [.int .i64 (hat2 : Int), .int .i64 (m2 : Int), .int .i64 (k2 : Int), .int .u64 (a2 : Int)]) := (((hY.out.store 0 _).store 1 _).store 2 _).store 3 _
      have Z11 : Hid (Arr ((((w10.setCell ⟨gh, 0, none⟩ (.int .i64 (hat2 : Int))).setCell ⟨gh, 1, none⟩ (.int .i64 (m2 : Int))).setCell ⟨gh, 2, none⟩ (.int .i64 (k2 : Int))).setCell ⟨gh, 3, none⟩ (.int .u64 (a2 : Int))) gs 55 [.int .i64 snd, .int .i64 spar, .int .i64 sent, .int .i64 (hat : Int), .int .i64 sto, .int .i64 skf, .int .i64 skt, .bool sal, .bool true]) := ((((S10.out.arr Z9.out ZF9.out).far (p := ⟨gh, 0, none⟩) (Ne.symm hhs) _).far (p := ⟨gh, 1, none⟩) (Ne.symm hhs) _).far (p := ⟨gh, 2, none⟩) (Ne.symm hhs) _).far (p := ⟨gh, 3, none⟩) (Ne.symm hhs) _
      have LA11 : Hid (Arr ((((w10.setCell ⟨gh, 0, none⟩ (.int .i64 (hat2 : Int))).setCell ⟨gh, 1, none⟩ (.int .i64 (m2 : Int))).setCell ⟨gh, 2, none⟩ (.int .i64 (k2 : Int))).setCell ⟨gh, 3, none⟩ (.int .u64 (a2 : Int))) gl 3 [.int .i64 (SH : Int)]) := ((((S10.out.arr LA9.out LAF9.out).far (p := ⟨gh, 0, none⟩) (Ne.symm hhl) _).far (p := ⟨gh, 1, none⟩) (Ne.symm hhl) _).far (p := ⟨gh, 2, none⟩) (Ne.symm hhl) _).far (p := ⟨gh, 3, none⟩) (Ne.symm hhl) _
      have PW11 : Hid (PW s ((((w10.setCell ⟨gh, 0, none⟩ (.int .i64 (hat2 : Int))).setCell ⟨gh, 1, none⟩ (.int .i64 (m2 : Int))).setCell ⟨gh, 2, none⟩ (.int .i64 (k2 : Int))).setCell ⟨gh, 3, none⟩ (.int .u64 (a2 : Int))) B vn vs4 vh8 vm9 ncs lab9 { (shareC (pushC st hat ⟨snd, spar, sent, sfr, sto, skf, skt, sal, swh⟩) hat) with i := i2 }) := (((PW10.out.aside HF9.out hBh 0 _).aside HF9.out hBh 1 _).aside HF9.out hBh 2 _).aside HF9.out hBh 3 _
      have PS11 : Hid (PStep w ((((w10.setCell ⟨gh, 0, none⟩ (.int .i64 (hat2 : Int))).setCell ⟨gh, 1, none⟩ (.int .i64 (m2 : Int))).setCell ⟨gh, 2, none⟩ (.int .i64 (k2 : Int))).setCell ⟨gh, 3, none⟩ (.int .u64 (a2 : Int))) F (CF B vn vs4 lab9)) := ((((PS9.out.trans S10.out).aside hwh 0 _).aside hwh 1 _).aside hwh 2 _).aside hwh 3 _
      have PF11 := PF9
      have HF11 := HF9
      have ZF11 := ZF9
      have LAF11 := LAF9
      clear hk y0 y1 y2 y3 f0 f1 f2 f3 hY S10 C10 PW10 p0 DH P9 PF9 H9 HF9 Z9 ZF9 LA9 LAF9 PW9 PS9
      generalize ((((w10.setCell ⟨gh, 0, none⟩ (.int .i64 (hat2 : Int))).setCell ⟨gh, 1, none⟩ (.int .i64 (m2 : Int))).setCell ⟨gh, 2, none⟩ (.int .i64 (k2 : Int))).setCell ⟨gh, 3, none⟩ (.int .u64 (a2 : Int))) = w11 at *
      have p0 := P11.out.cell' (i := 0) rfl
      have x0 := H11.out.cell' (i := 0) rfl
      have x1 := H11.out.cell' (i := 1) rfl
      have x2 := H11.out.cell' (i := 2) rfl
      have x3 := H11.out.cell' (i := 3) rfl
      have T28 := Lib.hid (is_cb ⟨hat2, m2, k2, a2⟩ 28)
      have T29 := Lib.hid (is_cb ⟨hat2, m2, k2, a2⟩ 29)
      obtain ⟨t28, h28⟩ : ∃ b, (CH.mk hat2 m2 k2 a2).tag 28 = b := ⟨_, rfl⟩
      obtain ⟨t29, h29⟩ : ∃ b, (CH.mk hat2 m2 k2 a2).tag 29 = b := ⟨_, rfl⟩
      rw [h28, show ((28 : Nat) : Int) = 28 from rfl] at T28
      rw [h29, show ((29 : Nat) : Int) = 29 from rfl] at T29
      have HT28 := Lib.hid h28
      have HT29 := Lib.hid h29
      clear h28 h29
      cases t28
      ·cases t29
       ·go_upto_region 15 with (first | (go_at_call 39; ((with_reducible refine (T28.out _).mono ?_)); rintro e w12 ⟨rfl, hb12⟩; have qH12 := Lib.hid (H11.out.keep hb12); have j0 := qH12.out.cell' (i := 0) rfl; have j1 := qH12.out.cell' (i := 1) rfl; have j2 := qH12.out.cell' (i := 2) rfl; have j3 := qH12.out.cell' (i := 3) rfl) | (go_at_call 39; ((with_reducible refine (T29.out _).mono ?_)); rintro e w13 ⟨rfl, hb13⟩; have qH13 := Lib.hid (qH12.out.keep hb13); have j0 := qH13.out.cell' (i := 0) rfl; have j1 := qH13.out.cell' (i := 1) rfl; have j2 := qH13.out.cell' (i := 2) rfl; have j3 := qH13.out.cell' (i := 3) rfl))
        have P12 := Lib.hid (P11.out.keep hb12)
        have H12 := Lib.hid (H11.out.keep hb12)
        have Z12 := Lib.hid (Z11.out.keep hb12)
        have LA12 := Lib.hid (LA11.out.keep hb12)
        have PW12 := Lib.hid (PW11.out.below hb12)
        have PS12 := Lib.hid (PS11.out.trans (PStep.of_below hb12))
        have PF12 := PF11
        have HF12 := HF11
        have ZF12 := ZF11
        have LAF12 := LAF11
        have P13 := Lib.hid (P12.out.keep hb13)
        have H13 := Lib.hid (H12.out.keep hb13)
        have Z13 := Lib.hid (Z12.out.keep hb13)
        have LA13 := Lib.hid (LA12.out.keep hb13)
        have PW13 := Lib.hid (PW12.out.below hb13)
        have PS13 := Lib.hid (PS12.out.trans (PStep.of_below hb13))
        have PF13 := PF12
        have HF13 := HF12
        have ZF13 := ZF12
        have LAF13 := LAF12
        clear P11 PF11 H11 HF11 Z11 ZF11 LA11 LAF11 PW11 PS11 P12 PF12 H12 HF12 Z12 ZF12 LA12 LAF12 PW12 PS12 hb12 hb13 T28 p0 x0 x1 x2 x3 j0 j1 j2 j3 qH12 qH13
        have p0 := P13.out.cell' (i := 0) rfl
        have x0 := H13.out.cell' (i := 0) rfl
        have x1 := H13.out.cell' (i := 1) rfl
        have x2 := H13.out.cell' (i := 2) rfl
        have x3 := H13.out.cell' (i := 3) rfl
        go_upto_region 19 with (go_at_call 39; ((with_reducible refine (T29.out _).mono ?_)); rintro e w14 ⟨rfl, hb14⟩)
        have P14 := Lib.hid (P13.out.keep hb14)
        have H14 := Lib.hid (H13.out.keep hb14)
        have Z14 := Lib.hid (Z13.out.keep hb14)
        have LA14 := Lib.hid (LA13.out.keep hb14)
        have PW14 := Lib.hid (PW13.out.below hb14)
        have PS14 := Lib.hid (PS13.out.trans (PStep.of_below hb14))
        have PF14 := PF13
        have HF14 := HF13
        have ZF14 := ZF13
        have LAF14 := LAF13
        clear P13 PF13 H13 HF13 Z13 ZF13 LA13 LAF13 PW13 PS13 hb14 T29 p0 x0 x1 x2 x3
        have p0 := P14.out.cell' (i := 0) rfl
        have x0 := H14.out.cell' (i := 0) rfl
        have x1 := H14.out.cell' (i := 1) rfl
        have x2 := H14.out.cell' (i := 2) rfl
        have x3 := H14.out.cell' (i := 3) rfl
        have HRD := Lib.hid (show R = (defineC s f ⟨hat2, m2, k2, a2⟩ hat L d (SH : Int) { (shareC (pushC st hat ⟨snd, spar, sent, sfr, sto, skf, skt, sal, swh⟩) hat) with i := i2 }).bind (finC L) by rw [← HR.out, ← HLL.out, ← HSH.out]; exact val_share H28.out HQ.out HT28.out HT29.out)
        have HARD := Lib.hid HF2.out.2.2.2.1
        have HLAB := Lib.hid (show (SH : Int) < ({ (shareC (pushC st hat ⟨snd, spar, sent, sfr, sto, skf, skt, sal, swh⟩) hat) with i := i2 }.shared.length : Int) by show (SH : Int) < ((st.shared ++ [-1]).length : Int); rw [List.length_append, HSH.out]; show (SH : Int) < ((SH + 1 : Nat) : Int); omega)
        have DD : Hid (Calls Tryz.prog 41 #[.pointer (some ⟨B, 0, none⟩), .agg #[.int .i64 (hat2 : Int), .int .i64 (m2 : Int), .int .i64 (k2 : Int), .int .u64 (a2 : Int)], .int .i64 (hat : Int), .int .i64 (L : Int), .int .i64 (d : Int), .func (.func 42) #[] #[.pointer (some ⟨gl, 0, none⟩), .pointer (some ⟨gp, 0, none⟩)]] w14 (ValP s w14 B (CF B vn vs4 lab9) (defineC s f ⟨hat2, m2, k2, a2⟩ hat L d (SH : Int) { (shareC (pushC st hat ⟨snd, spar, sent, sfr, sto, skf, skt, sal, swh⟩) hat) with i := i2 }))) := HDF.out s w14 B _ _ _ _ _ _ _ ⟨hat2, m2, k2, a2⟩ hat L d (SH : Int) gl gp PW14.out HARD.out HD.out HLAB.out LA14.out P14.out LAF14.out PF14.out (fun e => HNE.out (by rw [HRD.out, e]; rfl))
        unfold ValP at DD
        have hZ3 := Z14.out.cell' (i := 3) rfl
        cases hdq : defineC s f ⟨hat2, m2, k2, a2⟩ hat L d (SH : Int) { (shareC (pushC st hat ⟨snd, spar, sent, sfr, sto, skf, skt, sal, swh⟩) hat) with i := i2 } with
        | no => exact absurd (show R = .no by rw [HRD.out, hdq]; rfl) HNE.out
        | err b c =>
         rw [hdq] at DD
         have hh := Lib.hid (show R = .err b c by rw [HRD.out, hdq]; rfl)
         clear hdq HRD
         go_upto_region 20 with (go_at_call 41; ((with_reducible refine DD.out.mono ?_)); rintro e w9 ⟨rfl, F9, hS9⟩)
         go_wp2
         go_ret2
         exact ValP.of_err hh.out rfl (PS14.out.trans hS9)
        | ok p =>
         obtain ⟨v, st4⟩ := p
         rw [hdq] at DD
         have hh := Lib.hid (show R = .ok (v, endS L v st4) by rw [HRD.out, hdq]; rfl)
         have DK := Lib.hid ((all_k PW14.out.by_ f).2.1 _ _ _ _ _ _ _ _ PW14.out.ci hdq)
         clear hdq HRD
         go_upto_region 20 with (go_at_call 41; ((with_reducible refine DD.out.mono ?_)); rintro e w9 ⟨rfl, vn9, vs9, vh9, vm9, ncs9, lab9, C9, hS9⟩)
         have PS9 := Lib.hid (PS14.out.trans hS9)
         have P9 := Lib.hid (hS9.arr P14.out PF14.out)
         have PF9 := Lib.hid (hS9.out P14.out.lt PF14.out)
         have hme9 : L < st4.spans.length := Nat.le_trans (Nat.le_of_eq (show L + 1 = (st.spans ++ [_]).length by rw [List.length_append]; exact (congrArg (· + 1) HLL.out).symm)) DK.out.spn
         have hsp9 : st4.spans.length ≤ 65536 := by have h1 := DK.out.ci.spn; have h2 := DK.out.ci.i; have h3 := PW0.out.len; omega
         clear hS9 DD DK p0 x0 x1 x2 x3 hZ3 P14 PF14 H14 HF14 Z14 ZF14 LA14 LAF14 PW14 PS14
         obtain ⟨gv, cv, hvs, _, _⟩ := own_some C9.spn (by omega)
         subst hvs
         have hme := hme9
         have hLL9 : (L : Int) < st4.spans.length := by omega
         have hL0 : (0 : Int) ≤ L := by omega
         have hlen9 : (st4.spans.length : Int) ≤ 100000 := by omega
         have hvp : gv ≠ gp := fun e => PF9.out (.inr (.inr (.inl (by rw [e]; rfl))))
         have hvB : gv ≠ B := fun e => C9.spnNe (by rw [e]; rfl)
         have p0 : w9.cell? ⟨gp, 0, none⟩ = some (.pointer (some ⟨B, 0, none⟩)) := P9.out.cell' (i := 0) rfl
         have c6 : w9.cell? ⟨B, 6, none⟩ = some (.slice (some ⟨gv, 0, none⟩) st4.spans.length cv) := C9.par.cell' (i := 6) rfl
         have c1 : w9.cell? ⟨B, 1, none⟩ = some (.int .i64 (st4.i : Int)) := C9.par.cell' (i := 1) rfl
         obtain ⟨u0, hu0⟩ := spans_at hme 0 (by decide)
         obtain ⟨u4, hu4⟩ := spans_at hme 4 (by decide)
         obtain ⟨k0, kf0⟩ := own_cell1 C9.spn hu0
         obtain ⟨k4, kf4⟩ := own_cell1 C9.spn hu4
         have K0 : w9.cell? ⟨gv, L * 9, none⟩ = some u0 := k0
         have KF0 : w9.frozen? ⟨gv, L * 9, none⟩ = false := kf0
         have E1 := Lib.hid (C9.drew.fin1 hme v)
         have E2 := Lib.hid (C9.drew.fin2 hme v)
         have hdr := Lib.hid ((PStep.refl w9 (CF B vn9 (.slice (some ⟨gv, 0, none⟩) st4.spans.length cv) lab9)).drew)
         obtain ⟨SI, hSI⟩ : ∃ x : Int, (st4.i : Int) = x := ⟨_, rfl⟩
         obtain ⟨SL, hSL⟩ : ∃ x : Nat, st4.spans.length = x := ⟨_, rfl⟩
         rw [hSI] at c1 E1 E2
         rw [hSL] at c6 E1 E2 hLL9 hlen9 hdr
         have PS9b := PS9
         rw [hSL] at PS9b
         clear k0 kf0 hu0 hu4 hme hme9 C9 P9 PF9 hSI hSL PS9
         go_upto_region 22 with (fail)
         go_region_held3 (fun w' => w'.cell? ⟨gp, 0, none⟩ = some (.pointer (some ⟨B, 0, none⟩)) ∧ w'.cell? ⟨B, 6, none⟩ = some (.slice (some ⟨gv, 0, none⟩) SL cv) ∧ w'.cell? ⟨B, 1, none⟩ = some (.int .i64 SI)) (first | exact ⟨by assumption, by assumption, by assumption⟩ | (refine ⟨?_, ?_, ?_⟩ <;> (simp only [World.cell?_setCell_far _ _ _ _ hvp.symm, World.cell?_setCell_far _ _ _ _ hvB.symm]; assumption)) | go_keep) (fail)
         all_goals
          go_wp2_with (fail)
          go_ret2
          first
           | exact ValP.of_ok hh.out rfl E1.out.1 (PS9b.out.trans (hdr.out.trans E1.out.2))
           | exact ValP.of_ok hh.out rfl E2.out.1 (PS9b.out.trans (hdr.out.trans E2.out.2))
       ·have hh := Lib.hid (show R = .err hat2 10 by rw [← HR.out]; exact val_twice H28.out HQ.out (by rw [HT28.out, HT29.out]; rfl))
        go_upto_region 14 with (first | (go_at_call 39; ((with_reducible refine (T28.out _).mono ?_)); rintro e w12 ⟨rfl, hb12⟩; have qH12 := Lib.hid (H11.out.keep hb12); have j0 := qH12.out.cell' (i := 0) rfl; have j1 := qH12.out.cell' (i := 1) rfl; have j2 := qH12.out.cell' (i := 2) rfl; have j3 := qH12.out.cell' (i := 3) rfl) | (go_at_call 39; ((with_reducible refine (T29.out _).mono ?_)); rintro e w13 ⟨rfl, hb13⟩; have qH13 := Lib.hid (qH12.out.keep hb13); have j0 := qH13.out.cell' (i := 0) rfl; have j1 := qH13.out.cell' (i := 1) rfl; have j2 := qH13.out.cell' (i := 2) rfl; have j3 := qH13.out.cell' (i := 3) rfl))
        have S13 := Lib.hid ((PS11.out.trans (PStep.of_below hb12)).trans (PStep.of_below hb13))
        clear hb12 hb13
        go_quiet (fail)
        go_wp2
        go_ret2
        exact ValP.of_err hh.out rfl (S13.out.drewN _)
      ·have hh := Lib.hid (show R = .err hat2 10 by rw [← HR.out]; exact val_twice H28.out HQ.out (by rw [HT28.out]; rfl))
       go_upto_region 14 with (go_at_call 39; ((with_reducible refine (T28.out _).mono ?_)); rintro e w12 ⟨rfl, hb12⟩; have qH12 := Lib.hid (H11.out.keep hb12); have j0 := qH12.out.cell' (i := 0) rfl; have j1 := qH12.out.cell' (i := 1) rfl; have j2 := qH12.out.cell' (i := 2) rfl; have j3 := qH12.out.cell' (i := 3) rfl)
       have S13 := Lib.hid (PS11.out.trans (PStep.of_below hb12))
       clear hb12
       go_quiet (fail)
       go_wp2
       go_ret2
       exact ValP.of_err hh.out rfl (S13.out.drewN _)
end Go.Proofs.YtbhigefbihpnlaaGreatDoor
