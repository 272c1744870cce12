/- The walk of (*cbor.parser).run. -/
import Derived.Test.YtbhigefbihpnlaaGreatDoorMAl
import Derived.Test.YtbhigefbihpnlaaGreatDoorMAo
set_option linter.unusedVariables false
set_option linter.unusedSimpArgs false
set_option linter.defProp false
set_option linter.constructorNameAsVariable false
namespace Go.Proofs.YtbhigefbihpnlaaGreatDoor
open Go.RowKit
def LibH (w : World) (B : Nat) : Prop := ∀ w', HF w.heap.size B w w' → LibE w'
theorem LibH.now {w : World} {B : Nat} (h : LibH w B) : LibE w := h w (HF.refl (Nat.le_refl _))
theorem LibH.at_ {w w1 : World} {B i : Nat} (h : LibH w B) (k : AtW w B i w1) : LibH w1 B := fun w' hf => h w' ⟨hf.os.trans k.os, hf.tape.trans k.tape, hf.output.trans k.output, Nat.le_trans k.size hf.size, fun j hj hB => by
 rw [hf.keep j (Nat.lt_of_lt_of_le hj k.size) hB]; exact k.hf.keep j hj hB⟩
def RunP (s : List Nat) (h : CH) (w : World) (B i : Nat) (e : Ending) (w' : World) : Prop :=
 match runC s h i with
 | .ok (t, j) => e = .returned (.tuple #[.string (mks t), .nilIface]) ∧ AtW w B j w'
 | .err a c => e = .returned (.tuple #[.string ⟨#[]⟩, faultV a c]) ∧ ∃ j, AtW w B j w'
 | .no => True
theorem RunP.of_ok {s t : List Nat} {h : CH} {w w' : World} {B i j : Nat} {e : Ending} (hh : runC s h i = .ok (t, j)) (he : e = .returned (.tuple #[.string (mks t), .nilIface])) (hk : AtW w B j w') : RunP s h w B i e w' := by
 unfold RunP; rw [hh]; exact ⟨he, hk⟩
theorem RunP.of_err {s : List Nat} {h : CH} {w w' : World} {B i j a c : Nat} {e : Ending} (hh : runC s h i = .err a c) (he : e = .returned (.tuple #[.string ⟨#[]⟩, faultV a c])) (hk : AtW w B j w') : RunP s h w B i e w' := by
 unfold RunP; rw [hh]; exact ⟨he, j, hk⟩
set_option maxRecDepth 20000 in
set_option maxHeartbeats 16000000 in
theorem run_cb {B i : Nat} {s : List Nat} {R : List Value} {h : CH} (hl : s.length ≤ 65536) (hi : i ≤ s.length) (ha : h.arg < 18446744073709551616) (w : World) (hw : LibH w B) (hP : Arr w B 46 (PC s i R)) :
  Calls Tryz.prog 98 #[.pointer (some ⟨B, 0, none⟩), headV h] w (RunP s h w B i) := by
 obtain ⟨n, hn⟩ : ∃ n, s.length = n := ⟨_, rfl⟩
 obtain ⟨hat, hm, hinf, a⟩ := h
 have ha' : a < 18446744073709551616 := ha
 have hsz : (mks s).size = n := by rw [size_mks]; exact hn
 have HN := Lib.hid hn
 have HP0 := Lib.hid hP
 have HW := Lib.hid hw
 rw [hn] at hl hi
 have hz := Lib.hid (Arr.new w 76 [.int .i64 (hat : Int), .int .i64 (hm : Int), .int .i64 (hinf : Int), .int .u64 (a : Int)])
 have hF := Lib.hid ((HF.refl (B := B) (Nat.le_refl w.heap.size)).alloc (.cells #[.int .i64 (hat : Int), .int .i64 (hm : Int), .int .i64 (hinf : Int), .int .u64 (a : Int)] 76))
 have hP1 := Lib.hid (hP.alloc (.cells #[.int .i64 (hat : Int), .int .i64 (hm : Int), .int .i64 (hinf : Int), .int .u64 (a : Int)] 76))
 have hBl := hP.lt
 clear hn hP ha hw
 go_enter Tryz.func98, Tryz.ntmps98
 go_upto_region 1 with (fail)
 obtain ⟨rb, hrb⟩ : ∃ x, w.heap.size = x := ⟨_, rfl⟩
 have HRB := Lib.hid hrb
 change Hid (Arr (w.alloc (.cells #[.int .i64 (hat : Int), .int .i64 (hm : Int), .int .i64 (hinf : Int), .int .u64 (a : Int)] 76)) _ _ _) at hz
 generalize (w.alloc (.cells #[.int .i64 (hat : Int), .int .i64 (hm : Int), .int .i64 (hinf : Int), .int .u64 (a : Int)] 76)) = W at *
 rw [hrb] at hz hF hBl ⊢
 clear hrb
 have c0 := hP1.out.cell' (i := 0) rfl
 have c1 := hP1.out.cell' (i := 1) rfl
 have x0 := hz.out.cell' (i := 0) rfl
 have x1 := hz.out.cell' (i := 1) rfl
 have x3 := hz.out.cell' (i := 3) rfl
 obtain ⟨d, hd⟩ : ∃ d, n - i = d := ⟨_, rfl⟩
 have hni : (n : Int) - (i : Int) = (d : Int) := by omega
 have HD := Lib.hid hd
 have hd6 : d ≤ 65536 := by omega
 clear hd
 by_cases hgt : a > d
 ·have hgt' : (d : Int) < a := by omega
  have hh : runC s ⟨hat, hm, hinf, a⟩ i = .err n 4 := by
   unfold runC
   rw [if_pos (by rw [HN.out, HD.out]; exact hgt), HN.out]
  have DS := Lib.hid (fun (w' : World) (h : Arr w' B 46 (PC s i R)) => short_cb w' h)
  rw [HN.out] at DS
  go_quiet (fail)
  have P2 : Hid (Arr (W.drewN nq) B 46 (PC s i R)) := hP1
  have F2 := Lib.hid (hF.out.drewN nq)
  generalize W.drewN nq = W2 at *
  clear c0 c1 x0 x1 x3 hP1 hF hz
  go_wp2_with (go_at_call 38; ((with_reducible refine (DS.out _ P2.out).mono ?_)); rintro e w3 ⟨rfl, rfl⟩)
  go_ret2
  exact RunP.of_err hh rfl (atw_self HP0.out rfl (by rw [HRB.out]; exact F2.out) P2.out)
 ·have hgt' : ¬ (d : Int) < a := by omega
  obtain ⟨t, ht⟩ : ∃ t, (s.take (i + a)).drop i = t := ⟨_, rfl⟩
  have ht2 : (s.drop i).take a = t := by rw [← ht, List.drop_take]; congr 1; omega
  have htl : t.length = a := by rw [← ht2, List.length_take, List.length_drop]; have := HN.out; have := HD.out; omega
  have hia : i + a ≤ n := by have := HD.out; omega
  have hh0 : Hid (runC s ⟨hat, hm, hinf, a⟩ i = if hm = 3 ∧ checkV t ≠ none then .err hat 11 else .ok (t, i + a)) := by
   show _ = _
   unfold runC
   rw [if_neg (by rw [HN.out, HD.out]; exact hgt)]
   simp only [ht2]
  have hia' : (i : Int) + a ≤ n := by omega
  have hi0 : (0 : Int) ≤ i := by omega
  have HT := Lib.hid ht
  clear ht2 ht
  go_quiet (fail)
  have P2 : Hid (Arr (W.drewN nq) B 46 (PC s i R)) := hP1
  have Z2 : Hid (Arr (W.drewN nq) rb 76 [.int .i64 (hat : Int), .int .i64 (hm : Int), .int .i64 (hinf : Int), .int .u64 (a : Int)]) := hz
  have F2 := Lib.hid (hF.out.drewN nq)
  generalize W.drewN nq = W2 at *
  clear c0 c1 x0 x1 x3 hP1 hF hz
  have c0 := P2.out.cell' (i := 0) rfl
  have c1 := P2.out.cell' (i := 1) rfl
  have x3 := Z2.out.cell' (i := 3) rfl
  go_upto_region 3 with (fail)
  go_quiet (fail)
  have P3 : Hid (Arr (W2.drewN nq) B 46 (PC s i R)) := P2
  have Z3 : Hid (Arr (W2.drewN nq) rb 76 [.int .i64 (hat : Int), .int .i64 (hm : Int), .int .i64 (hinf : Int), .int .u64 (a : Int)]) := Z2
  have F3 := Lib.hid (F2.out.drewN nq)
  generalize W2.drewN nq = W3 at *
  clear c0 c1 x3 P2 Z2 F2
  rw [HT.out]
  have d1 := P3.out.cell' (i := 1) rfl
  have d1f := P3.out.frozen 1
  have P4 : Hid (Arr (W3.setCell ⟨B, 1, none⟩ (.int .i64 ((i : Int) + (a : Int)))) B 46 (PC s (i + a) R)) := by
   have h := P3.out.store 1 (.int .i64 ((i : Int) + (a : Int)))
   rw [show ((i : Int) + (a : Int)) = ((i + a : Nat) : Int) by omega] at h ⊢
   exact h
  have Z4 := Lib.hid (Z3.out.far (p := ⟨B, 1, none⟩) (Ne.symm (Nat.ne_of_lt hBl)) (.int .i64 ((i : Int) + (a : Int))))
  have F4 := Lib.hid (F3.out.set (.inl rfl) 1 (.int .i64 ((i : Int) + (a : Int))))
  go_upto_region 5 with (fail)
  generalize (W3.setCell ⟨B, 1, none⟩ (.int .i64 ((i : Int) + (a : Int)))) = W4 at *
  clear d1 d1f P3 Z3 F3
  have x0 := Z4.out.cell' (i := 0) rfl
  have x1 := Z4.out.cell' (i := 1) rfl
  have HE := Lib.hid (HF.fin (by rw [HRB.out]; exact F4.out) HP0.out P4.out)
  by_cases h3 : hm = 3
  ·have h3' : ((hm : Int) == 3) = true := by simp; omega
   have DC := Lib.hid (check_any t (by omega) W4 (HW.out W4 (by rw [HRB.out]; exact F4.out)).lib)
   unfold CheckR at DC
   cases hv : checkV t with
   | none =>
    rw [hv] at DC
    have hh := hh0.out
    rw [if_neg (by simp [hv])] at hh
    have DC2 : Hid (Calls Tryz.prog 59 #[.string (mks t)] W4 fun e w' => e = .returned (.tuple #[.int .i64 (-1), .int .i64 0]) ∧ Below W4.heap.size W4 w') := DC
    clear DC hh0 hv
    go_wp2_with (go_at_call 59; ((with_reducible refine DC2.out.mono ?_)); rintro e w5 ⟨rfl, hb5⟩)
    go_ret2
    exact RunP.of_ok hh rfl (HF.fin (by rw [HRB.out]; exact F4.out.below hb5) HP0.out (P4.out.keep hb5))
   | some k =>
    rw [hv] at DC
    have hh := hh0.out
    rw [if_pos ⟨h3, by simp [hv]⟩] at hh
    have DC2 : Hid (Calls Tryz.prog 59 #[.string (mks t)] W4 fun e w' => e = .returned (.tuple #[.int .i64 (k : Int), .int .i64 11]) ∧ Below W4.heap.size W4 w') := DC
    clear DC hh0 hv
    go_upto_region 8 with (go_at_call 59; ((with_reducible refine DC2.out.mono ?_)); rintro e w5 ⟨rfl, hb5⟩)
    have x5 := (Z4.out.keep hb5).cell' (i := 0) rfl
    have HE5 := Lib.hid (HF.fin (by rw [HRB.out]; exact F4.out.below hb5) HP0.out (P4.out.keep hb5))
    go_quiet (fail)
    have HE6 : Hid (AtW w B (i + a) (w5.drewN nq)) := Below.drewN' HE5.out nq
    go_wp2_with (fail)
    go_ret2
    exact RunP.of_err hh rfl HE6.out
  ·have h3' : ((hm : Int) == 3) = false := by simp; omega
   have hh := hh0.out
   rw [if_neg (by rintro ⟨e, _⟩; exact h3 e)] at hh
   clear hh0
   go_wp2_with (fail)
   go_ret2
   exact RunP.of_ok hh rfl HE.out
end Go.Proofs.YtbhigefbihpnlaaGreatDoor
