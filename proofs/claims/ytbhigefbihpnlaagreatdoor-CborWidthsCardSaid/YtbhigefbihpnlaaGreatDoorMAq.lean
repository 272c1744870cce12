/- The walk of (*cbor.parser).scalar (no floats, no tags). -/
import Derived.Test.YtbhigefbihpnlaaGreatDoorMAp
import Derived.Test.YtbhigefbihpnlaaGreatDoorMAh
set_option linter.unusedVariables false
set_option linter.unusedSimpArgs false
set_option linter.defProp false
set_option linter.constructorNameAsVariable false
namespace Go.Proofs.YtbhigefbihpnlaaGreatDoor
open Go.RowKit
theorem limbV_hor (h : CH) (hm : h.major ≤ 1) (ha : h.arg < 18446744073709551616) : hor 4294967296 id (limbV h) = h.arg + h.major := by
  unfold limbV
  split
  · rename_i e
    rw [inc3_hor (by omega) (by omega), e]
    omega
  · unfold hor horF
    simp
    omega
theorem limbV_lt (h : CH) (ha : h.arg < 18446744073709551616) : (∀ x ∈ limbV h, x < 4294967296) ∧ (limbV h).length ≤ 16 ∧ 0 < (limbV h).length := by
  have h1 : h.arg / 4294967296 < 4294967296 := by omega
  have h2 : h.arg % 4294967296 < 4294967296 := by omega
  unfold limbV inc3
  split
  · split
    · refine ⟨fun x hx => ?_, by simp, by simp⟩
      simp at hx; omega
    · split
      · refine ⟨fun x hx => ?_, by simp, by simp⟩
        simp at hx; omega
      · refine ⟨fun x hx => ?_, by simp, by simp⟩
        simp at hx; omega
  · refine ⟨fun x hx => ?_, by simp, by simp⟩
    simp at hx; omega
theorem small_tE {m : Nat} (b : Bool) (h : m ≤ 18446744073709551616) : tE (sigN b m) = 0 := by
  unfold tE sigN
  rw [if_pos]
  have : (dg m).length ≤ 20 := by rw [dg_len_le]; omega
  show (dg m).length ≤ 400
  omega
def ScP (s : List Nat) (h : CH) (w : World) (B i : Nat) (e : Ending) (w' : World) : Prop :=
  match scalarC s h i with
  | .ok (nd, j) => e = .returned (.tuple #[leafV nd.kind nd.text, .nilIface]) ∧ AtW w B j w'
  | .err a c => (∃ nk : Int, e = .returned (.tuple #[leafV nk [], faultV a c])) ∧ ∃ j, AtW w B j w'
  | .no => True
theorem ScP.of_ok {s : List Nat} {h : CH} {w w' : World} {B i j : Nat} {e : Ending} {nd : GNode} (hh : scalarC s h i = .ok (nd, j)) (he : e = .returned (.tuple #[leafV nd.kind nd.text, .nilIface])) (hk : AtW w B j w') : ScP s h w B i e w' := by
  unfold ScP; rw [hh]; exact ⟨he, hk⟩
theorem ScP.of_err {s : List Nat} {h : CH} {w w' : World} {B i j a c : Nat} {e : Ending} {nk : Int} (hh : scalarC s h i = .err a c) (he : e = .returned (.tuple #[leafV nk [], faultV a c])) (hk : AtW w B j w') : ScP s h w B i e w' := by
  unfold ScP; rw [hh]; exact ⟨⟨nk, he⟩, j, hk⟩
theorem row5F {w0 w : World} {z B rb : Nat} {t t' : TypeId} {P : List Value} {a b c d e x0 x1 x2 x3 x4 : Value} (hZ : Arr w rb t [a, b, c, d, e]) (hF : HF z B w0 w) (hz : z ≤ rb) (hB : B < rb) (hP : Arr w B t' P) :
    Arr (((((w.setCell ⟨rb, 0, none⟩ x0).setCell ⟨rb, 1, none⟩ x1).setCell ⟨rb, 2, none⟩ x2).setCell ⟨rb, 3, none⟩ x3).setCell ⟨rb, 4, none⟩ x4) rb t [x0, x1, x2, x3, x4] ∧
    HF z B w0 (((((w.setCell ⟨rb, 0, none⟩ x0).setCell ⟨rb, 1, none⟩ x1).setCell ⟨rb, 2, none⟩ x2).setCell ⟨rb, 3, none⟩ x3).setCell ⟨rb, 4, none⟩ x4) ∧
    Arr (((((w.setCell ⟨rb, 0, none⟩ x0).setCell ⟨rb, 1, none⟩ x1).setCell ⟨rb, 2, none⟩ x2).setCell ⟨rb, 3, none⟩ x3).setCell ⟨rb, 4, none⟩ x4) B t' P :=
  ⟨((((hZ.store 0 x0).store 1 x1).store 2 x2).store 3 x3).store 4 x4, ((((hF.set (.inr hz) 0 x0).set (.inr hz) 1 x1).set (.inr hz) 2 x2).set (.inr hz) 3 x3).set (.inr hz) 4 x4,
   ((((hP.far (p := ⟨rb, 0, none⟩) (Nat.ne_of_lt hB) x0).far (p := ⟨rb, 1, none⟩) (Nat.ne_of_lt hB) x1).far (p := ⟨rb, 2, none⟩) (Nat.ne_of_lt hB) x2).far (p := ⟨rb, 3, none⟩) (Nat.ne_of_lt hB) x3).far (p := ⟨rb, 4, none⟩) (Nat.ne_of_lt hB) x4⟩
theorem is_no {h : CH} {n : Nat} (ht : h.tag n = false) (v : Int) (hv : (n : Int) = v) (w : World) : Calls Tryz.prog 39 #[headV h, .int .u64 v] w fun e w' => e = .returned (.bool false) ∧ Below w.heap.size w w' := by
  have h1 := is_cb h n w
  rw [ht, hv] at h1
  exact h1
theorem LibH.hf {w w1 : World} {B : Nat} (h : LibH w B) (k : HF w.heap.size B w w1) : LibH w1 B := fun w' hf => h w' ⟨hf.os.trans k.os, hf.tape.trans k.tape, hf.output.trans k.output, Nat.le_trans k.size hf.size, fun j hj hB => by
  rw [hf.keep j (Nat.lt_of_lt_of_le hj k.size) hB]; exact k.keep j hj hB⟩
set_option maxRecDepth 20000 in
set_option maxHeartbeats 16000000 in
theorem scalar_cb {B i : Nat} {s : List Nat} {R : List Value} {h : CH} (hs : By s) (hl : s.length ≤ 65536) (hi : i ≤ s.length) (ha : h.arg < 18446744073709551616) (hno : scalarC s h i ≠ .no) (w : World) (hw : LibH w B) (hP : Arr w B 46 (PC s i R)) :
    Calls Tryz.prog 53 #[.pointer (some ⟨B, 0, none⟩), headV h] w (ScP s h w B i) := by
  obtain ⟨hat, m, k, a⟩ := h
  have HP0 := Lib.hid hP
  have HNO := Lib.hid hno
  obtain ⟨q1, q2, q3, hb1, hz1⟩ := box3 w 76 60 149 [.int .i64 (hat : Int), .int .i64 (m : Int), .int .i64 (k : Int), .int .u64 (a : Int)] [.int .i64 0, .string ⟨#[]⟩, .bool false, .slice none 0 0, .slice none 0 0] [.slice none 0 0, .bool false]
  have hF := Lib.hid ((HF.refl (B := B) (Nat.le_refl w.heap.size)).below hb1)
  have hP1 := Lib.hid (hP.keep hb1)
  have HW1 := Lib.hid (hw.hf hF.out)
  have hBl := hP.lt
  have HA := Lib.hid ha
  have DT := Lib.hid (fun (hn : textC s ⟨hat, m, k, a⟩ i ≠ .no) (w' : World) (h3 : LibH w' B) (h4 : Arr w' B 46 (PC s i R)) => text_cb (h := ⟨hat, m, k, a⟩) hs hl hi ha hn w' h3 h4)
  clear hno hP hw ha
  go_enter Tryz.func53, Tryz.ntmps53
  go_upto_region 4 with (fail)
  obtain ⟨gb, hgb⟩ : ∃ x, w.heap.size = x := ⟨_, rfl⟩
  have HGB := Lib.hid hgb
  generalize (((w.alloc (.cells #[.int .i64 (hat : Int), .int .i64 (m : Int), .int .i64 (k : Int), .int .u64 (a : Int)] 76)).alloc (.cells #[.int .i64 0, .string ⟨#[]⟩, .bool false, .slice none 0 0, .slice none 0 0] 60)).alloc (.cells #[.slice none 0 0, .bool false] 149)) = W at *
  have q3' : Hid (Arr W (w.heap.size + 1 + 1) 149 [.slice none 0 0, .bool false]) := q3
  rw [hgb] at q1 q2 q3' hF hBl hb1 hz1 ⊢
  clear hgb q3 hb1
  have hsz3 : W.heap.size = gb + 3 := hz1.out
  have x0 := q1.out.cell' (i := 0) rfl
  have x1 := q1.out.cell' (i := 1) rfl
  have x2 := q1.out.cell' (i := 2) rfl
  have x3 := q1.out.cell' (i := 3) rfl
  by_cases hm1 : m ≤ 1
  · -- an integer
    have hm1' : (m : Int) ≤ 1 := by omega
    have hh : scalarC s ⟨hat, m, k, a⟩ i = .ok (⟨2, intC ⟨hat, m, k, a⟩, false, [], []⟩, i) := int_ok hm1
    obtain ⟨hl1, hl2, hl3⟩ := limbV_lt ⟨hat, m, k, a⟩ HA.out
    have hor1 := limbV_hor ⟨hat, m, k, a⟩ hm1 HA.out
    have DO := Lib.hid (of_cb (h := ⟨hat, m, k, a⟩) HA.out W)
    have DI := Lib.hid (fun (A : Addr) (c : Nat) (w' : World) (hr : Rd w' (some A) (U32 (limbV ⟨hat, m, k, a⟩))) => wint_cb hl1 hl2 A c (m == 1) w' hr)
    have ha5 : a + m ≤ 18446744073709551616 := by have h := HA.out; have h2 : a < 18446744073709551616 := h; omega
    rw [hor1, show tE (sigN (m == 1) ((CH.mk hat m k a).arg + (CH.mk hat m k a).major)) = 0 from small_tE _ ha5] at DI
    have hIC : tS (sigN (m == 1) ((CH.mk hat m k a).arg + (CH.mk hat m k a).major)) = intC ⟨hat, m, k, a⟩ := rfl
    rw [hIC] at DI
    unfold OfP at DO
    obtain ⟨L, hL⟩ : ∃ L, limbV ⟨hat, m, k, a⟩ = L := ⟨_, rfl⟩
    obtain ⟨T, hT⟩ : ∃ T, intC ⟨hat, m, k, a⟩ = T := ⟨_, rfl⟩
    rw [hL] at DO DI
    rw [hT] at DI hh
    have z0 := q3'.out.cell' (i := 0) rfl
    have z1 := q3'.out.cell' (i := 1) rfl
    clear DT hl1 hl2 hl3 hor1 hIC hL hT HNO
    go_upto_region 22 with (go_at_call 70; ((with_reducible refine DO.out.mono ?_)); rintro e w4 ⟨A4, c4, rfl, hA4, hr4, hb4⟩; have z0' := (q3'.out.keep hb4).cell' (i := 0) rfl; have z1' := (q3'.out.keep hb4).cell' (i := 1) rfl; have z0f := (q3'.out.keep hb4).frozen 0; have z1f := (q3'.out.keep hb4).frozen 1)
    have hs4 := hb4.size
    have F4 := (hF.out.below hb4)
    have P4 := hP1.out.keep hb4
    have N4 := q2.out.keep hb4
    have Q4 := q3'.out.keep hb4
    have F5 := Lib.hid ((F4.set (g := gb + 1 + 1) (.inr (by omega)) 0 (.slice (some A4) L.length c4)).set (g := gb + 1 + 1) (.inr (by omega)) 1 (.bool (m == 1)))
    have P5 := Lib.hid ((P4.far (p := ⟨gb + 1 + 1, 0, none⟩) (show B ≠ gb + 1 + 1 by omega) (.slice (some A4) L.length c4)).far (p := ⟨gb + 1 + 1, 1, none⟩) (show B ≠ gb + 1 + 1 by omega) (.bool (m == 1)))
    have N5 := Lib.hid ((N4.far (p := ⟨gb + 1 + 1, 0, none⟩) (show gb + 1 ≠ gb + 1 + 1 by omega) (.slice (some A4) L.length c4)).far (p := ⟨gb + 1 + 1, 1, none⟩) (show gb + 1 ≠ gb + 1 + 1 by omega) (.bool (m == 1)))
    have Q5 : Hid (Arr ((w4.setCell ⟨gb + 1 + 1, 0, none⟩ (.slice (some A4) L.length c4)).setCell ⟨gb + 1 + 1, 1, none⟩ (.bool (m == 1))) (gb + 1 + 1) 149 [.slice (some A4) L.length c4, .bool (m == 1)]) := (Q4.store 0 _).store 1 _
    have R5 := Lib.hid ((hr4.setCell (p := ⟨gb + 1 + 1, 0, none⟩) (.slice (some A4) L.length c4) (fun ad e => by obtain rfl := Option.some.inj e; show A4.block ≠ gb + 1 + 1; omega)).setCell (p := ⟨gb + 1 + 1, 1, none⟩) (.bool (m == 1)) (fun ad e => by obtain rfl := Option.some.inj e; show A4.block ≠ gb + 1 + 1; omega))
    generalize ((w4.setCell ⟨gb + 1 + 1, 0, none⟩ (.slice (some A4) L.length c4)).setCell ⟨gb + 1 + 1, 1, none⟩ (.bool (m == 1))) = w5 at *
    clear z0 z1 z0' z1' z0f z1f hr4 hb4 F4 P4 N4 Q4 x0 x1 x2 x3 DO q1 q2 q3' hP1 hF HW1
    have y0 := Q5.out.cell' (i := 0) rfl
    have y1 := Q5.out.cell' (i := 1) rfl
    have D6 := Lib.hid (DI.out A4 c4 w5 R5.out)
    clear DI R5
    go_wp2_with (go_at_call 75; ((with_reducible refine D6.out.mono ?_)); rintro e w6 ⟨rfl, hb6⟩; have z0 := (N5.out.keep hb6).cell' (i := 0) rfl; have z1 := (N5.out.keep hb6).cell' (i := 1) rfl; have z2 := (N5.out.keep hb6).cell' (i := 2) rfl; have z3 := (N5.out.keep hb6).cell' (i := 3) rfl; have z4 := (N5.out.keep hb6).cell' (i := 4) rfl; have f0 := (N5.out.keep hb6).frozen 0; have f1 := (N5.out.keep hb6).frozen 1; have f2 := (N5.out.keep hb6).frozen 2; have f3 := (N5.out.keep hb6).frozen 3; have f4 := (N5.out.keep hb6).frozen 4)
    obtain ⟨g1, g2, g3⟩ := row5F (x0 := .int .i64 2) (x1 := .string (mks T)) (x2 := .bool false) (x3 := .slice none 0 0) (x4 := .slice none 0 0) (N5.out.keep hb6) (F5.out.below hb6) (show gb ≤ gb + 1 by omega) (show B < gb + 1 by omega) (P5.out.keep hb6)
    exact bodyPost_ret (results_rt Tryz.results53 _ _ _ _ #[.int .i64 2, .string (mks T), .bool false, .slice none 0 0, .slice none 0 0] (0, 0) _ _ rfl rfl g1 Tryz.underlying60 rfl hsz_node) rfl (ScP.of_ok hh rfl (atw_self HP0.out rfl (by rw [HGB.out]; exact g2) g3))
  · have hm1' : ¬ (m : Int) ≤ 1 := by omega
    by_cases h2 : m = 2
    · have em2 : ((m : Int) == 2) = true := by rw [beq_iff_eq]; omega
      have hsc : scalarC s ⟨hat, m, k, a⟩ i = (textC s ⟨hat, m, k, a⟩ i).bind fun (t, i1) => .ok (⟨6, t, false, [], []⟩, i1) := by
        unfold scalarC
        show (if m ≤ 1 then _ else _) = _
        rw [if_neg hm1, if_pos h2]
      have htn : textC s ⟨hat, m, k, a⟩ i ≠ .no := fun e => HNO.out (by rw [hsc, e]; rfl)
      have D := Lib.hid (DT.out htn W HW1.out hP1.out)
      clear DT HNO hm1 h2
      unfold TextP at D
      cases ht : textC s ⟨hat, m, k, a⟩ i with
      | no => exact absurd ht htn
      | ok p =>
        obtain ⟨t, j⟩ := p
        rw [ht] at D hsc
        have hh : scalarC s ⟨hat, m, k, a⟩ i = .ok (⟨6, t, false, [], []⟩, j) := hsc
        clear ht htn hsc
        go_wp2_with (go_at_call 67; ((with_reducible refine D.out.mono ?_)); rintro e w6 ⟨rfl, hk6⟩; have N6 : Arr w6 (gb + 1) 60 [.int .i64 0, .string ⟨#[]⟩, .bool false, .slice none 0 0, .slice none 0 0] := (hk6.hf.keep (gb + 1) (by omega) (by omega)).trans q2.out; have z0 := N6.cell' (i := 0) rfl; have z1 := N6.cell' (i := 1) rfl; have z2 := N6.cell' (i := 2) rfl; have z3 := N6.cell' (i := 3) rfl; have z4 := N6.cell' (i := 4) rfl; have f0 := N6.frozen 0; have f1 := N6.frozen 1; have f2 := N6.frozen 2; have f3 := N6.frozen 3; have f4 := N6.frozen 4)
        obtain ⟨g1, g2, g3⟩ := row5F (x0 := .int .i64 6) (x1 := .string (mks t)) (x2 := .bool false) (x3 := .slice none 0 0) (x4 := .slice none 0 0) N6 (hF.out.at_ hk6) (show gb ≤ gb + 1 by omega) (show B < gb + 1 by omega) (hk6.arr hP1.out)
        exact bodyPost_ret (results_rt Tryz.results53 _ _ _ _ #[.int .i64 6, .string (mks t), .bool false, .slice none 0 0, .slice none 0 0] (0, 0) _ _ rfl rfl g1 Tryz.underlying60 rfl hsz_node) rfl (ScP.of_ok hh rfl (HF.fin (by rw [HGB.out]; exact g2) HP0.out g3))
      | err b c =>
        rw [ht] at D hsc
        have hh : scalarC s ⟨hat, m, k, a⟩ i = .err b c := hsc
        clear ht htn hsc
        go_wp2_with (go_at_call 67; ((with_reducible refine D.out.mono ?_)); rintro e w6 ⟨rfl, j, hk6⟩; have N6 : Arr w6 (gb + 1) 60 [.int .i64 0, .string ⟨#[]⟩, .bool false, .slice none 0 0, .slice none 0 0] := (hk6.hf.keep (gb + 1) (by omega) (by omega)).trans q2.out; have z0 := N6.cell' (i := 0) rfl; have z1 := N6.cell' (i := 1) rfl; have z2 := N6.cell' (i := 2) rfl; have z3 := N6.cell' (i := 3) rfl; have z4 := N6.cell' (i := 4) rfl; have f0 := N6.frozen 0; have f1 := N6.frozen 1; have f2 := N6.frozen 2; have f3 := N6.frozen 3; have f4 := N6.frozen 4)
        obtain ⟨g1, g2, g3⟩ := row5F (x0 := .int .i64 6) (x1 := .string ⟨#[]⟩) (x2 := .bool false) (x3 := .slice none 0 0) (x4 := .slice none 0 0) N6 (hF.out.at_ hk6) (show gb ≤ gb + 1 by omega) (show B < gb + 1 by omega) (hk6.arr hP1.out)
        exact bodyPost_ret (results_rt Tryz.results53 _ _ _ _ #[.int .i64 6, .string ⟨#[]⟩, .bool false, .slice none 0 0, .slice none 0 0] (0, 0) _ _ rfl rfl g1 Tryz.underlying60 rfl hsz_node) rfl (ScP.of_err hh rfl (HF.fin (by rw [HGB.out]; exact g2) HP0.out g3))
    have n2 : ((m : Int) == 2) = false := by rw [beq_eq_false_iff_ne]; omega
    by_cases h3 : m = 3
    · have em3 : ((m : Int) == 3) = true := by rw [beq_iff_eq]; omega
      have hsc : scalarC s ⟨hat, m, k, a⟩ i = (textC s ⟨hat, m, k, a⟩ i).bind fun (t, i1) => .ok (⟨5, t, false, [], []⟩, i1) := by
        unfold scalarC
        show (if m ≤ 1 then _ else _) = _
        rw [if_neg hm1, if_neg h2, if_pos h3]
      have htn : textC s ⟨hat, m, k, a⟩ i ≠ .no := fun e => HNO.out (by rw [hsc, e]; rfl)
      have D := Lib.hid (DT.out htn W HW1.out hP1.out)
      clear DT HNO hm1 h3
      unfold TextP at D
      cases ht : textC s ⟨hat, m, k, a⟩ i with
      | no => exact absurd ht htn
      | ok p =>
        obtain ⟨t, j⟩ := p
        rw [ht] at D hsc
        have hh : scalarC s ⟨hat, m, k, a⟩ i = .ok (⟨5, t, false, [], []⟩, j) := hsc
        clear ht htn hsc
        go_wp2_with (go_at_call 67; ((with_reducible refine D.out.mono ?_)); rintro e w6 ⟨rfl, hk6⟩; have N6 : Arr w6 (gb + 1) 60 [.int .i64 0, .string ⟨#[]⟩, .bool false, .slice none 0 0, .slice none 0 0] := (hk6.hf.keep (gb + 1) (by omega) (by omega)).trans q2.out; have z0 := N6.cell' (i := 0) rfl; have z1 := N6.cell' (i := 1) rfl; have z2 := N6.cell' (i := 2) rfl; have z3 := N6.cell' (i := 3) rfl; have z4 := N6.cell' (i := 4) rfl; have f0 := N6.frozen 0; have f1 := N6.frozen 1; have f2 := N6.frozen 2; have f3 := N6.frozen 3; have f4 := N6.frozen 4)
        obtain ⟨g1, g2, g3⟩ := row5F (x0 := .int .i64 5) (x1 := .string (mks t)) (x2 := .bool false) (x3 := .slice none 0 0) (x4 := .slice none 0 0) N6 (hF.out.at_ hk6) (show gb ≤ gb + 1 by omega) (show B < gb + 1 by omega) (hk6.arr hP1.out)
        exact bodyPost_ret (results_rt Tryz.results53 _ _ _ _ #[.int .i64 5, .string (mks t), .bool false, .slice none 0 0, .slice none 0 0] (0, 0) _ _ rfl rfl g1 Tryz.underlying60 rfl hsz_node) rfl (ScP.of_ok hh rfl (HF.fin (by rw [HGB.out]; exact g2) HP0.out g3))
      | err b c =>
        rw [ht] at D hsc
        have hh : scalarC s ⟨hat, m, k, a⟩ i = .err b c := hsc
        clear ht htn hsc
        go_wp2_with (go_at_call 67; ((with_reducible refine D.out.mono ?_)); rintro e w6 ⟨rfl, j, hk6⟩; have N6 : Arr w6 (gb + 1) 60 [.int .i64 0, .string ⟨#[]⟩, .bool false, .slice none 0 0, .slice none 0 0] := (hk6.hf.keep (gb + 1) (by omega) (by omega)).trans q2.out; have z0 := N6.cell' (i := 0) rfl; have z1 := N6.cell' (i := 1) rfl; have z2 := N6.cell' (i := 2) rfl; have z3 := N6.cell' (i := 3) rfl; have z4 := N6.cell' (i := 4) rfl; have f0 := N6.frozen 0; have f1 := N6.frozen 1; have f2 := N6.frozen 2; have f3 := N6.frozen 3; have f4 := N6.frozen 4)
        obtain ⟨g1, g2, g3⟩ := row5F (x0 := .int .i64 5) (x1 := .string ⟨#[]⟩) (x2 := .bool false) (x3 := .slice none 0 0) (x4 := .slice none 0 0) N6 (hF.out.at_ hk6) (show gb ≤ gb + 1 by omega) (show B < gb + 1 by omega) (hk6.arr hP1.out)
        exact bodyPost_ret (results_rt Tryz.results53 _ _ _ _ #[.int .i64 5, .string ⟨#[]⟩, .bool false, .slice none 0 0, .slice none 0 0] (0, 0) _ _ rfl rfl g1 Tryz.underlying60 rfl hsz_node) rfl (ScP.of_err hh rfl (HF.fin (by rw [HGB.out]; exact g2) HP0.out g3))
    have n3 : ((m : Int) == 3) = false := by rw [beq_eq_false_iff_ne]; omega
    by_cases h7 : m = 7
    · have em7 : ((m : Int) == 7) = true := by rw [beq_iff_eq]; omega
      have hsc : scalarC s ⟨hat, m, k, a⟩ i = (simpleC ⟨hat, m, k, a⟩).bind fun n => .ok (n, i) := by
        unfold scalarC
        show (if m ≤ 1 then _ else _) = _
        rw [if_neg hm1, if_neg h2, if_neg h3, if_pos h7]
      have htn : simpleC ⟨hat, m, k, a⟩ ≠ .no := fun e => HNO.out (by rw [hsc, e]; rfl)
      have D := Lib.hid (simple_cb htn W)
      clear DT HNO hm1 h2 h3 h7 HW1
      unfold SimpP at D
      cases ht : simpleC ⟨hat, m, k, a⟩ with
      | no => exact absurd ht htn
      | ok p =>
        obtain ⟨nk, nt, no, nks, nis⟩ := p
        rw [ht] at D hsc
        have hh := Lib.hid (show scalarC s ⟨hat, m, k, a⟩ i = .ok (⟨nk, nt, no, nks, nis⟩, i) from hsc)
        clear ht htn hsc
        go_wp2_with (go_at_call 71; ((with_reducible refine D.out.mono ?_)); rintro e w6 ⟨hb6, rfl⟩; have N6 : Arr w6 (gb + 1) 60 [.int .i64 0, .string ⟨#[]⟩, .bool false, .slice none 0 0, .slice none 0 0] := q2.out.keep hb6; have z0 := N6.cell' (i := 0) rfl; have z1 := N6.cell' (i := 1) rfl; have z2 := N6.cell' (i := 2) rfl; have z3 := N6.cell' (i := 3) rfl; have z4 := N6.cell' (i := 4) rfl; have f0 := N6.frozen 0; have f1 := N6.frozen 1; have f2 := N6.frozen 2; have f3 := N6.frozen 3; have f4 := N6.frozen 4)
        obtain ⟨g1, g2, g3⟩ := row5F (x0 := .int .i64 nk) (x1 := .string (mks nt)) (x2 := .bool false) (x3 := .slice none 0 0) (x4 := .slice none 0 0) N6 (hF.out.below hb6) (show gb ≤ gb + 1 by omega) (show B < gb + 1 by omega) (hP1.out.keep hb6)
        exact bodyPost_ret (results_rt Tryz.results53 _ _ _ _ #[.int .i64 nk, .string (mks nt), .bool false, .slice none 0 0, .slice none 0 0] (0, 0) _ _ rfl rfl g1 Tryz.underlying60 rfl hsz_node) rfl (ScP.of_ok hh.out rfl (atw_self HP0.out rfl (by rw [HGB.out]; exact g2) g3))
      | err b c =>
        rw [ht] at D hsc
        have hh := Lib.hid (show scalarC s ⟨hat, m, k, a⟩ i = .err b c from hsc)
        clear ht htn hsc
        go_wp2_with (go_at_call 71; ((with_reducible refine D.out.mono ?_)); rintro e w6 ⟨hb6, rfl⟩; have N6 : Arr w6 (gb + 1) 60 [.int .i64 0, .string ⟨#[]⟩, .bool false, .slice none 0 0, .slice none 0 0] := q2.out.keep hb6; have z0 := N6.cell' (i := 0) rfl; have z1 := N6.cell' (i := 1) rfl; have z2 := N6.cell' (i := 2) rfl; have z3 := N6.cell' (i := 3) rfl; have z4 := N6.cell' (i := 4) rfl; have f0 := N6.frozen 0; have f1 := N6.frozen 1; have f2 := N6.frozen 2; have f3 := N6.frozen 3; have f4 := N6.frozen 4)
        obtain ⟨g1, g2, g3⟩ := row5F (x0 := .int .i64 0) (x1 := .string (mks [])) (x2 := .bool false) (x3 := .slice none 0 0) (x4 := .slice none 0 0) N6 (hF.out.below hb6) (show gb ≤ gb + 1 by omega) (show B < gb + 1 by omega) (hP1.out.keep hb6)
        exact bodyPost_ret (results_rt Tryz.results53 _ _ _ _ #[.int .i64 0, .string (mks []), .bool false, .slice none 0 0, .slice none 0 0] (0, 0) _ _ rfl rfl g1 Tryz.underlying60 rfl hsz_node) rfl (ScP.of_err hh.out rfl (atw_self HP0.out rfl (by rw [HGB.out]; exact g2) g3))
    have n7 : ((m : Int) == 7) = false := by rw [beq_eq_false_iff_ne]; omega
    have hsc : scalarC s ⟨hat, m, k, a⟩ i = if a = 0 ∨ a = 2 ∨ a = 3 ∨ a = 4 then .no else .err hat 10 := by
      unfold scalarC
      show (if m ≤ 1 then _ else _) = _
      rw [if_neg hm1, if_neg h2, if_neg h3, if_neg h7]
    have h8 : ¬(a = 0 ∨ a = 2 ∨ a = 3 ∨ a = 4) := fun h => HNO.out (by rw [hsc, if_pos h])
    have hh := Lib.hid (show scalarC s ⟨hat, m, k, a⟩ i = .err hat 10 by rw [hsc, if_neg h8])
    have tg : ∀ n, a ≠ n → (CH.mk hat m k a).tag n = false := fun n hn => by
      show (m == 6 && a == n) = false
      rw [show (a == n) = false from beq_eq_false_iff_ne.2 hn, Bool.and_false]
    have D0 := Lib.hid (is_no (tg 0 (by omega)) 0 rfl)
    have D4 := Lib.hid (is_no (tg 4 (by omega)) 4 rfl)
    have D2 := Lib.hid (is_no (tg 2 (by omega)) 2 rfl)
    have D3 := Lib.hid (is_no (tg 3 (by omega)) 3 rfl)
    clear hsc h8 tg DT HNO hm1 h2 h3 h7 HW1
    go_upto_region 16 with (go_at_call 39; ((with_reducible refine (D0.out _).mono ?_)); rintro e w4 ⟨rfl, hb4⟩)
    have F4 := Lib.hid (hF.out.below hb4)
    have P4 := Lib.hid (hP1.out.keep hb4)
    have N4 := Lib.hid (q2.out.keep hb4)
    have Q4 := Lib.hid (q1.out.keep hb4)
    clear x0 x1 x2 x3 hb4 hF hP1 q1 q2 q3'
    have x0 := Q4.out.cell' (i := 0) rfl
    have x1 := Q4.out.cell' (i := 1) rfl
    have x2 := Q4.out.cell' (i := 2) rfl
    have x3 := Q4.out.cell' (i := 3) rfl
    go_upto_region 18 with (go_at_call 39; ((with_reducible refine (D4.out _).mono ?_)); rintro e w5 ⟨rfl, hb5⟩)
    have F5 := Lib.hid (F4.out.below hb5)
    have P5 := Lib.hid (P4.out.keep hb5)
    have N5 := Lib.hid (N4.out.keep hb5)
    have Q5 := Lib.hid (Q4.out.keep hb5)
    clear x0 x1 x2 x3 hb5 F4 P4 N4 Q4
    have x0 := Q5.out.cell' (i := 0) rfl
    have x1 := Q5.out.cell' (i := 1) rfl
    have x2 := Q5.out.cell' (i := 2) rfl
    have x3 := Q5.out.cell' (i := 3) rfl
    go_upto_region 3 with (go_at_call 39; (first | ((with_reducible refine (D2.out _).mono ?_); rintro e w6 ⟨rfl, hb6⟩; have Q6 := Lib.hid (Q5.out.keep hb6); have y0 := Q6.out.cell' (i := 0) rfl; have y1 := Q6.out.cell' (i := 1) rfl; have y2 := Q6.out.cell' (i := 2) rfl; have y3 := Q6.out.cell' (i := 3) rfl) | ((with_reducible refine (D3.out _).mono ?_); rintro e w7 ⟨rfl, hb7⟩)))
    have F7 := Lib.hid ((F5.out.below hb6).below hb7)
    have P7 := Lib.hid ((P5.out.keep hb6).keep hb7)
    have N7 := Lib.hid ((N5.out.keep hb6).keep hb7)
    have Q7 := Lib.hid (Q6.out.keep hb7)
    clear x0 x1 x2 x3 y0 y1 y2 y3 hb6 hb7 F5 P5 N5 Q5 Q6 n2 n3 n7 D0 D2 D3 D4
    have x0 := Q7.out.cell' (i := 0) rfl
    have z0 := N7.out.cell' (i := 0) rfl
    have z1 := N7.out.cell' (i := 1) rfl
    have z2 := N7.out.cell' (i := 2) rfl
    have z3 := N7.out.cell' (i := 3) rfl
    have z4 := N7.out.cell' (i := 4) rfl
    have f0 := N7.out.frozen 0
    have f1 := N7.out.frozen 1
    have f2 := N7.out.frozen 2
    have f3 := N7.out.frozen 3
    have f4 := N7.out.frozen 4
    obtain ⟨g1, g2, g3⟩ := row5F (x0 := .int .i64 0) (x1 := .string ⟨#[]⟩) (x2 := .bool false) (x3 := .slice none 0 0) (x4 := .slice none 0 0) N7.out F7.out (show gb ≤ gb + 1 by omega) (show B < gb + 1 by omega) P7.out
    have G1 := Lib.hid g1
    have G2 := Lib.hid g2
    have G3 := Lib.hid g3
    clear g1 g2 g3
    go_region
    all_goals
      go_wp2_with (fail)
      exact bodyPost_ret (results_rt Tryz.results53 _ _ _ _ #[.int .i64 0, .string ⟨#[]⟩, .bool false, .slice none 0 0, .slice none 0 0] (0, 0) _ _ rfl rfl G1.out Tryz.underlying60 rfl hsz_node) rfl (ScP.of_err hh.out rfl ((atw_self HP0.out rfl (by rw [HGB.out]; exact G2.out) G3.out).drew))
end Go.Proofs.YtbhigefbihpnlaaGreatDoor
namespace Go.Proofs.YtbhigefbihpnlaaGreatDoor
open Go.RowKit
def AddP (w : World) (B : Nat) (s : List Nat) (vn vs vh vm : Value) (lab : Nat → Option Nat) (st : CSt) (nd : GNode) (a d : Nat) (e : Ending) (w' : World) : Prop :=
 match addC st nd a d with
 | .ok (n, st') => e = .returned (.tuple #[.int .i64 (n : Int), .nilIface]) ∧ ∃ vn' ncs', CM w' B s vn' vs vh vm ncs' lab st' ∧ PStep w w' (CF B vn vs lab) (CF B vn' vs lab)
 | .err a c => e = .returned (.tuple #[.int .i64 0, faultV a c]) ∧ Below w.heap.size w w'
 | .no => True
theorem AddP.of_ok {w w' : World} {B : Nat} {s : List Nat} {vn vs vh vm : Value} {lab : Nat → Option Nat} {st st' : CSt} {nd : GNode} {a d n : Nat} {e : Ending} (hh : addC st nd a d = .ok (n, st')) (he : e = .returned (.tuple #[.int .i64 (n : Int), .nilIface])) {vn' : Value} {ncs' : List Value} (hc : CM w' B s vn' vs vh vm ncs' lab st') (hs : PStep w w' (CF B vn vs lab) (CF B vn' vs lab)) : AddP w B s vn vs vh vm lab st nd a d e w' := by
 unfold AddP; rw [hh]; exact ⟨he, vn', ncs', hc, hs⟩
theorem AddP.of_err {w w' : World} {B : Nat} {s : List Nat} {vn vs vh vm : Value} {lab : Nat → Option Nat} {st : CSt} {nd : GNode} {a d b c : Nat} {e : Ending} (hh : addC st nd a d = .err b c) (he : e = .returned (.tuple #[.int .i64 0, faultV b c])) (hb : Below w.heap.size w w') : AddP w B s vn vs vh vm lab st nd a d e w' := by
 unfold AddP; rw [hh]; exact ⟨he, hb⟩
set_option maxRecDepth 20000 in
set_option maxHeartbeats 8000000 in
theorem add_cb {w : World} {B : Nat} {s : List Nat} {vn vs vh vm : Value} {ncs : List Value} {lab : Nat → Option Nat} {st : CSt} (h : CM w B s vn vs vh vm ncs lab st) (hm : st.nodes.length ≤ 100000) (kd : Int) (tx : List Nat) (a d : Nat) :
  Calls Tryz.prog 54 #[.pointer (some ⟨B, 0, none⟩), leafV kd tx, .int .i64 (a : Int), .int .i64 (d : Int)] w (AddP w B s vn vs vh vm lab st ⟨kd, tx, false, [], []⟩ a d) := by
 have HX := Lib.hid (Arr.new w 60 [.int .i64 kd, .string (mks tx), .bool false, .slice none 0 0, .slice none 0 0])
 have HBd : Below w.heap.size w (w.alloc (.cells #[.int .i64 kd, .string (mks tx), .bool false, .slice none 0 0, .slice none 0 0] 60)) := (Below.refl _ _).alloc (Nat.le_refl _) _
 change Hid (Arr (w.alloc (.cells #[.int .i64 kd, .string (mks tx), .bool false, .slice none 0 0, .slice none 0 0] 60)) w.heap.size 60 [.int .i64 kd, .string (mks tx), .bool false, .slice none 0 0, .slice none 0 0]) at HX
 go_enter Tryz.func54, Tryz.ntmps54
 go_upto_region 1 with (fail)
 have hlow : w.heap.size < (w.alloc (.cells #[.int .i64 kd, .string (mks tx), .bool false, .slice none 0 0, .slice none 0 0] 60)).heap.size := HX.out.lt
 have hW := Lib.hid (h.below HBd)
 have HB := Lib.hid HBd
 have hBw := h.lt
 clear h HBd
 generalize (w.alloc (.cells #[.int .i64 kd, .string (mks tx), .bool false, .slice none 0 0, .slice none 0 0] 60)) = W at *
 obtain ⟨A, c, rfl, hc1, hm1⟩ := own_slice hW.out.nod
 have c4 := hW.out.par.cell' (i := 4) rfl
 by_cases hd : d > 32
 ·have hd' : (d : Int) > 32 := by omega
  have hh : addC st ⟨kd, tx, false, [], []⟩ a d = .err a 5 := by unfold addC; rw [if_pos hd]
  go_wp2
  go_ret2
  exact AddP.of_err hh rfl HB.out
 have hd' : ¬ (d : Int) > 32 := by omega
 by_cases hn : st.nodes.length ≥ 4096
 ·have hn' : (st.nodes.length : Int) ≥ 4096 := by omega
  have hh : addC st ⟨kd, tx, false, [], []⟩ a d = .err a 7 := by unfold addC; rw [if_neg hd, if_pos hn]
  go_wp2
  go_ret2
  exact AddP.of_err hh rfl HB.out
 have hn' : ¬ (st.nodes.length : Int) ≥ 4096 := by omega
 have hh := Lib.hid (show addC st ⟨kd, tx, false, [], []⟩ a d = .ok (st.nodes.length, { st with nodes := st.nodes ++ [⟨kd, tx, false, [], []⟩] }) by unfold addC; rw [if_neg hd, if_neg hn])
 have hm := Lib.hid hm
 go_upto_region 6 with (fail)
 clear hd hd' hn hn'
 have hm := hm.out
 have d4 := (hW.out.par.alloc (.cells #[.int .i64 kd, .string (mks tx), .bool false, .slice none 0 0, .slice none 0 0] 60)).cell' (i := 4) rfl
 have x0 := HX.out.cell' (i := 0) rfl
 have x1 := HX.out.cell' (i := 1) rfl
 have x2 := HX.out.cell' (i := 2) rfl
 have x3 := HX.out.cell' (i := 3) rfl
 have x4 := HX.out.cell' (i := 4) rfl
 have hPd : Arr W.drew B 46 (parCB s (.slice A st.nodes.length c) vs vh vm st) := hW.out.drew.par
 have hnpb := hW.out.nodNe
 have hownd : W.drew.ownsRow B 60 5 (.slice A st.nodes.length c) st.nodes.length ncs := hW.out.drew.nod
 have hsW : B ≤ W.heap.size := by omega
 go_region_law (refine step_apS rfl (.tmp 35) (.tmp 37) 24 rfl B 60 _ 5 _ Tryz.underlying24 Tryz.infoS60 rfl (by decide) _ st.nodes.length ncs rfl (hownd.alloc _) ⟨W.heap.size, 0, none⟩ _ [.int .i64 kd, .string (mks tx), .bool false, .slice none 0 0, .slice none 0 0] rfl rfl (cells_new _ _ _) rfl (by unfold maxLen; omega) (by omega) (by simp; omega) ?_; intro v' w3 hown3 hgr3 hat3; obtain ⟨A3, c3, rfl, hc3, hm3⟩ := own_slice hown3; have P3 := (hPd.alloc (.cells #[.int .i64 kd, .string (mks tx), .bool false, .slice none 0 0, .slice none 0 0] 60)).grown hgr3 (fun e => hnpb e.symm); have p4 := P3.cell' (i := 4) rfl; have q4 := P3.frozen 4; have hgr3' : (W.drew.alloc (.cells #[.int .i64 kd, .string (mks tx), .bool false, .slice none 0 0, .slice none 0 0] 60)).grownBy w3 (Value.slice A st.nodes.length c).ownBlock := hgr3; have hat3' : (Value.slice A3 (st.nodes.length + 1) c3).ownBlock = (Value.slice A st.nodes.length c).ownBlock ∨ (Value.slice A3 (st.nodes.length + 1) c3).ownBlock = some (W.drew.alloc (.cells #[.int .i64 kd, .string (mks tx), .bool false, .slice none 0 0, .slice none 0 0] 60)).heap.size := hat3; clear hgr3 hat3)
 all_goals
  obtain ⟨_, hP, hS⟩ := hW.out.drew.addNode ⟨kd, tx, false, [], []⟩ rfl rfl (.slice A3 (st.nodes.length + 1) c3) hown3 hgr3' hat3'
  have hc4 := hP.par.cell' (i := 4) rfl
  have hS2 := Lib.hid ((PStep.of_below (F := CF B (.slice A st.nodes.length c) vs lab) (Below.drew HB.out)).trans hS)
  have hP := Lib.hid hP
  have hln : ((st.nodes.length : Int) + 1 - 1) = st.nodes.length := by omega
  have hmn : (st.nodes.length : Int) ≤ 100000 := by omega
  clear P3 p4 q4 c4 d4 x0 x1 x2 x3 x4 hPd hownd hgr3' hat3' hown3 hS hln HX
  generalize (w3.setCell ⟨B, 4, none⟩ (.slice A3 (st.nodes.length + 1) c3)) = W4 at *
  go_wp2
  go_ret2
  exact AddP.of_ok hh.out rfl hP.out hS2.out
end Go.Proofs.YtbhigefbihpnlaaGreatDoor
