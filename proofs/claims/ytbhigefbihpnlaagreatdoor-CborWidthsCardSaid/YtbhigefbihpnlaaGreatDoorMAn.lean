/- The walk of (*cbor.parser).run. -/
import Derived.Test.YtbhigefbihpnlaaGreatDoorMAk
import Derived.Test.YtbhigefbihpnlaaGreatDoorMAm
import Derived.Test.YtbhigefbihpnlaaGreatDoorMAf
import Derived.Test.YtbhigefbihpnlaaGreatDoorMAb
import Derived.Lib.FrozenHead2
set_option linter.unusedVariables false
set_option linter.unusedSimpArgs false
set_option linter.defProp false
set_option linter.constructorNameAsVariable false
namespace Go.Proofs.YtbhigefbihpnlaaGreatDoor
open Go.RowKit
def LibH (w : World) (B : Nat) : Prop := ∀ w', HF w.heap.size B w w' → LibE w'
theorem LibH.now {w : World} {B : Nat} (h : LibH w B) : LibE w := h w (HF.refl (Nat.le_refl _))
theorem LibH.at_ {w w1 : World} {B i : Nat} (h : LibH w B) (k : AtW w B i w1) : LibH w1 B := fun w' hf => h w' ⟨hf.os.trans k.os, hf.tape.trans k.tape, hf.output.trans k.output, Nat.le_trans k.size hf.size, fun j hj hB => by
 rw [hf.keep j (Nat.lt_of_lt_of_le hj k.size) hB]; exact k.hf.keep j hj hB⟩
def RunP (s : List Nat) (h : CH) (w : World) (B i : Nat) (e : Ending) (w' : World) : Prop :=
 match runC s h i with
 | .ok (t, j) => e = .returned (.tuple #[.string (mks t), .nilIface]) ∧ AtW w B j w'
 | .err a c => e = .returned (.tuple #[.string ⟨#[]⟩, faultV a c]) ∧ ∃ j, AtW w B j w'
 | .no => True
theorem RunP.of_ok {s t : List Nat} {h : CH} {w w' : World} {B i j : Nat} {e : Ending} (hh : runC s h i = .ok (t, j)) (he : e = .returned (.tuple #[.string (mks t), .nilIface])) (hk : AtW w B j w') : RunP s h w B i e w' := by
 unfold RunP; rw [hh]; exact ⟨he, hk⟩
theorem RunP.of_err {s : List Nat} {h : CH} {w w' : World} {B i j a c : Nat} {e : Ending} (hh : runC s h i = .err a c) (he : e = .returned (.tuple #[.string ⟨#[]⟩, faultV a c])) (hk : AtW w B j w') : RunP s h w B i e w' := by
 unfold RunP; rw [hh]; exact ⟨he, j, hk⟩
set_option maxRecDepth 20000 in
set_option maxHeartbeats 16000000 in
theorem run_cb {B i : Nat} {s : List Nat} {R : List Value} {h : CH} (hl : s.length ≤ 65536) (hi : i ≤ s.length) (ha : h.arg < 18446744073709551616) (w : World) (hw : LibH w B) (hP : Arr w B 46 (PC s i R)) :
  Calls Tryz.prog 98 #[.pointer (some ⟨B, 0, none⟩), headV h] w (RunP s h w B i) := by
 obtain ⟨n, hn⟩ : ∃ n, s.length = n := ⟨_, rfl⟩
 obtain ⟨hat, hm, hinf, a⟩ := h
 have ha' : a < 18446744073709551616 := ha
 have hsz : (mks s).size = n := by rw [size_mks]; exact hn
 have HN := Lib.hid hn
 have HP0 := Lib.hid hP
 have HW := Lib.hid hw
 rw [hn] at hl hi
 have hz := Lib.hid (Arr.new w 76 [.int .i64 (hat : Int), .int .i64 (hm : Int), .int .i64 (hinf : Int), .int .u64 (a : Int)])
 have hF := Lib.hid ((HF.refl (B := B) (Nat.le_refl w.heap.size)).alloc (.cells #[.int .i64 (hat : Int), .int .i64 (hm : Int), .int .i64 (hinf : Int), .int .u64 (a : Int)] 76))
 have hP1 := Lib.hid (hP.alloc (.cells #[.int .i64 (hat : Int), .int .i64 (hm : Int), .int .i64 (hinf : Int), .int .u64 (a : Int)] 76))
 have hBl := hP.lt
 clear hn hP ha hw
 go_enter Tryz.func98, Tryz.ntmps98
 go_upto_region 1 with (fail)
 obtain ⟨rb, hrb⟩ : ∃ x, w.heap.size = x := ⟨_, rfl⟩
 have HRB := Lib.hid hrb
 change Hid (Arr (w.alloc (.cells #[.int .i64 (hat : Int), .int .i64 (hm : Int), .int .i64 (hinf : Int), .int .u64 (a : Int)] 76)) _ _ _) at hz
 generalize (w.alloc (.cells #[.int .i64 (hat : Int), .int .i64 (hm : Int), .int .i64 (hinf : Int), .int .u64 (a : Int)] 76)) = W at *
 rw [hrb] at hz hF hBl ⊢
 clear hrb
 have c0 := hP1.out.cell' (i := 0) rfl
 have c1 := hP1.out.cell' (i := 1) rfl
 have x0 := hz.out.cell' (i := 0) rfl
 have x1 := hz.out.cell' (i := 1) rfl
 have x3 := hz.out.cell' (i := 3) rfl
 obtain ⟨d, hd⟩ : ∃ d, n - i = d := ⟨_, rfl⟩
 have hni : (n : Int) - (i : Int) = (d : Int) := by omega
 have HD := Lib.hid hd
 have hd6 : d ≤ 65536 := by omega
 clear hd
 by_cases hgt : a > d
 ·have hgt' : (d : Int) < a := by omega
  have hh : runC s ⟨hat, hm, hinf, a⟩ i = .err n 4 := by
   unfold runC
   rw [if_pos (by rw [HN.out, HD.out]; exact hgt), HN.out]
  have DS := Lib.hid (fun (w' : World) (h : Arr w' B 46 (PC s i R)) => short_cb w' h)
  rw [HN.out] at DS
  go_quiet (fail)
  have P2 : Hid (Arr (W.drewN nq) B 46 (PC s i R)) := hP1
  have F2 := Lib.hid (hF.out.drewN nq)
  generalize W.drewN nq = W2 at *
  clear c0 c1 x0 x1 x3 hP1 hF hz
  go_wp2_with (go_at_call 38; ((with_reducible refine (DS.out _ P2.out).mono ?_)); rintro e w3 ⟨rfl, rfl⟩)
  go_ret2
  exact RunP.of_err hh rfl (atw_self HP0.out rfl (by rw [HRB.out]; exact F2.out) P2.out)
 ·have hgt' : ¬ (d : Int) < a := by omega
  obtain ⟨t, ht⟩ : ∃ t, (s.take (i + a)).drop i = t := ⟨_, rfl⟩
  have ht2 : (s.drop i).take a = t := by rw [← ht, List.drop_take]; congr 1; omega
  have htl : t.length = a := by rw [← ht2, List.length_take, List.length_drop]; have := HN.out; have := HD.out; omega
  have hia : i + a ≤ n := by have := HD.out; omega
  have hh0 : Hid (runC s ⟨hat, hm, hinf, a⟩ i = if hm = 3 ∧ checkV t ≠ none then .err hat 11 else .ok (t, i + a)) := by
   show _ = _
   unfold runC
   rw [if_neg (by rw [HN.out, HD.out]; exact hgt)]
   simp only [ht2]
  have hia' : (i : Int) + a ≤ n := by omega
  have hi0 : (0 : Int) ≤ i := by omega
  have HT := Lib.hid ht
  clear ht2 ht
  go_quiet (fail)
  have P2 : Hid (Arr (W.drewN nq) B 46 (PC s i R)) := hP1
  have Z2 : Hid (Arr (W.drewN nq) rb 76 [.int .i64 (hat : Int), .int .i64 (hm : Int), .int .i64 (hinf : Int), .int .u64 (a : Int)]) := hz
  have F2 := Lib.hid (hF.out.drewN nq)
  generalize W.drewN nq = W2 at *
  clear c0 c1 x0 x1 x3 hP1 hF hz
  have c0 := P2.out.cell' (i := 0) rfl
  have c1 := P2.out.cell' (i := 1) rfl
  have x3 := Z2.out.cell' (i := 3) rfl
  go_upto_region 3 with (fail)
  go_quiet (fail)
  have P3 : Hid (Arr (W2.drewN nq) B 46 (PC s i R)) := P2
  have Z3 : Hid (Arr (W2.drewN nq) rb 76 [.int .i64 (hat : Int), .int .i64 (hm : Int), .int .i64 (hinf : Int), .int .u64 (a : Int)]) := Z2
  have F3 := Lib.hid (F2.out.drewN nq)
  generalize W2.drewN nq = W3 at *
  clear c0 c1 x3 P2 Z2 F2
  rw [HT.out]
  have d1 := P3.out.cell' (i := 1) rfl
  have d1f := P3.out.frozen 1
  have P4 : Hid (Arr (W3.setCell ⟨B, 1, none⟩ (.int .i64 ((i : Int) + (a : Int)))) B 46 (PC s (i + a) R)) := by
   have h := P3.out.store 1 (.int .i64 ((i : Int) + (a : Int)))
   rw [show ((i : Int) + (a : Int)) = ((i + a : Nat) : Int) by omega] at h ⊢
   exact h
  have Z4 := Lib.hid (Z3.out.far (p := ⟨B, 1, none⟩) (Ne.symm (Nat.ne_of_lt hBl)) (.int .i64 ((i : Int) + (a : Int))))
  have F4 := Lib.hid (F3.out.set (.inl rfl) 1 (.int .i64 ((i : Int) + (a : Int))))
  go_upto_region 5 with (fail)
  generalize (W3.setCell ⟨B, 1, none⟩ (.int .i64 ((i : Int) + (a : Int)))) = W4 at *
  clear d1 d1f P3 Z3 F3
  have x0 := Z4.out.cell' (i := 0) rfl
  have x1 := Z4.out.cell' (i := 1) rfl
  have HE := Lib.hid (HF.fin (by rw [HRB.out]; exact F4.out) HP0.out P4.out)
  by_cases h3 : hm = 3
  ·have h3' : ((hm : Int) == 3) = true := by simp; omega
   have DC := Lib.hid (check_any t (by omega) W4 (HW.out W4 (by rw [HRB.out]; exact F4.out)).lib)
   unfold CheckR at DC
   cases hv : checkV t with
   | none =>
    rw [hv] at DC
    have hh := hh0.out
    rw [if_neg (by simp [hv])] at hh
    have DC2 : Hid (Calls Tryz.prog 59 #[.string (mks t)] W4 fun e w' => e = .returned (.tuple #[.int .i64 (-1), .int .i64 0]) ∧ Below W4.heap.size W4 w') := DC
    clear DC hh0 hv
    go_wp2_with (go_at_call 59; ((with_reducible refine DC2.out.mono ?_)); rintro e w5 ⟨rfl, hb5⟩)
    go_ret2
    exact RunP.of_ok hh rfl (HF.fin (by rw [HRB.out]; exact F4.out.below hb5) HP0.out (P4.out.keep hb5))
   | some k =>
    rw [hv] at DC
    have hh := hh0.out
    rw [if_pos ⟨h3, by simp [hv]⟩] at hh
    have DC2 : Hid (Calls Tryz.prog 59 #[.string (mks t)] W4 fun e w' => e = .returned (.tuple #[.int .i64 (k : Int), .int .i64 11]) ∧ Below W4.heap.size W4 w') := DC
    clear DC hh0 hv
    go_upto_region 8 with (go_at_call 59; ((with_reducible refine DC2.out.mono ?_)); rintro e w5 ⟨rfl, hb5⟩)
    have x5 := (Z4.out.keep hb5).cell' (i := 0) rfl
    have HE5 := Lib.hid (HF.fin (by rw [HRB.out]; exact F4.out.below hb5) HP0.out (P4.out.keep hb5))
    go_quiet (fail)
    have HE6 : Hid (AtW w B (i + a) (w5.drewN nq)) := Below.drewN' HE5.out nq
    go_wp2_with (fail)
    go_ret2
    exact RunP.of_err hh rfl HE6.out
  ·have h3' : ((hm : Int) == 3) = false := by simp; omega
   have hh := hh0.out
   rw [if_neg (by rintro ⟨e, _⟩; exact h3 e)] at hh
   clear hh0
   go_wp2_with (fail)
   go_ret2
   exact RunP.of_ok hh rfl HE.out
end Go.Proofs.YtbhigefbihpnlaaGreatDoor
namespace Go.Proofs.YtbhigefbihpnlaaGreatDoor
open Go.RowKit
set_option maxHeartbeats 2000000 in
set_option maxRecDepth 100000 in
theorem cb_string (B b : Nat) (bs : List Value) (s : ByteArray) (w : World) (h : BldF B b bs w) (hlen : bs.length + s.size ≤ 140737488355328) (hBw : B ≤ w.heap.size) :
  Calls Tryz.prog 100 #[.pointer (some ⟨b, 0, none⟩), .string s] w fun e w' => e = .returned (.tuple #[.int .i64 s.size, .nilIface]) ∧ BldU B b (bs ++ Lib.strCells s) w' ∧ Below B w w' ∧ Others b w w' := by
 obtain ⟨i0, hi, hz0, hz1, hz2⟩ := info_parts Tryz.info5
 go_enter Tryz.func100, Tryz.ntmps100
 go_wp2_with (go_at_call 143; refine (copyCheck_any B b bs _ h).mono ?_)
 rintro e w1 ⟨rfl, h1, hb1, hk1⟩
 obtain ⟨hB, v, hbk, hown, hne⟩ := h1
 have c0 : w1.cell? ⟨b, 0, none⟩ = some (.pointer (some ⟨b, 0, none⟩)) := by rw [Lib.cell_of_heap hbk]; rfl
 have c1 : w1.cell? ⟨b, 1, none⟩ = some v := by rw [Lib.cell_of_heap hbk]; rfl
 go_wp2_with (at_builtin; refine Lib.wpList_append_own_stringF _ rfl _ _ 23 9 rfl B 5 i0 Tryz.underlying23 Tryz.underlying9 hi hz0 hz1 hz2 _ _ _ rfl hown s rfl ?c3 ?c4 ?c5 ?_)
 case c3 => unfold maxLen; omega
 case c4 => omega
 case c5 => have := hb1.size; omega
 intro v' w2 hown' hgrow _
 have hlt : b < w1.heap.size := (Array.getElem?_eq_some_iff.1 hbk).1
 have hb2 : w2.heap[b]? = some (.cells #[.pointer (some ⟨b, 0, none⟩), v] 190 (0, 0)) := by
  rw [hgrow.block b hlt (fun e => hne e.symm)]
  exact hbk
 have d0 : w2.cell? ⟨b, 0, none⟩ = some (.pointer (some ⟨b, 0, none⟩)) := by rw [Lib.cell_of_heap hb2]; rfl
 have d1 : w2.cell? ⟨b, 1, none⟩ = some v := by rw [Lib.cell_of_heap hb2]; rfl
 have f1 : w2.frozen? ⟨b, 1, none⟩ = false := Lib.frozen_of_heap hb2 1
 obtain ⟨ao, n', cap, rfl⟩ : ∃ ao n' cap, v' = .slice ao n' cap := by
  rcases hown'.2 with ⟨hv, _⟩ | ⟨g, cap, cur, fz, hv, _⟩
  ·exact ⟨_, _, _, hv⟩
  ·exact ⟨_, _, _, hv⟩
 go_wp2
 go_ret2
 refine ⟨rfl, ?_, ?_, (hk1.grown hgrow (Lib.ownsRowF_kind hown)).setCell ⟨b, 1, none⟩ rfl _⟩
 ·exact Lib.BuilderAtF.put hB hb2 (bs' := bs ++ Lib.strCells s) (by simpa [Lib.strCells_length] using hown') (by decide)
 ·exact (hb1.grown hgrow (by have := hb1.size; omega) (fun k hk => (hown.lt k hk).1)).setCell (p := ⟨b, 1, none⟩) hB _
theorem bld_hf {z b B : Nat} {bs : List Value} {W W' : World} (h : BldF z b bs W) (hk : HF W.heap.size B W W') (hB : B < z) : BldF z b bs W' := by
 have go : ∀ p, Lib.BuilderAtF 190 5 z b p bs W → Lib.BuilderAtF 190 5 z b p bs W' := fun p h => by
  obtain ⟨hB2, v, hb, hown, hne⟩ := h
  refine ⟨hB2, v, (hk.keep b (Array.getElem?_eq_some_iff.1 hb).1 (by omega)).trans hb, ?_, hne⟩
  refine hown.kept (row := some B) ⟨hk.os, hk.tape, hk.output, hk.size, fun k hk2 hne2 => hk.keep k hk2 (fun e => hne2 (by rw [e]))⟩ (.inr (fun e => ?_))
  have := (hown.lt B e).1
  omega
 exact h.imp (go _) (go _)
theorem cells_appS (a t : List Nat) : Lib.strCells (mks a) ++ Lib.strCells (mks t) = Lib.strCells (mks (a ++ t)) := by simp [Lib.strCells, mks]
def TextP (s : List Nat) (h : CH) (w : World) (B i : Nat) (e : Ending) (w' : World) : Prop :=
 match textC s h i with
 | .ok (t, j) => e = .returned (.tuple #[.string (mks t), .nilIface]) ∧ AtW w B j w'
 | .err a c => e = .returned (.tuple #[.string ⟨#[]⟩, faultV a c]) ∧ ∃ j, AtW w B j w'
 | .no => True
theorem TextP.of_ok {s t : List Nat} {h : CH} {w w' : World} {B i j : Nat} {e : Ending} (hh : textC s h i = .ok (t, j)) (he : e = .returned (.tuple #[.string (mks t), .nilIface])) (hk : AtW w B j w') : TextP s h w B i e w' := by
 unfold TextP; rw [hh]; exact ⟨he, hk⟩
theorem TextP.of_err {s : List Nat} {h : CH} {w w' : World} {B i j a c : Nat} {e : Ending} (hh : textC s h i = .err a c) (he : e = .returned (.tuple #[.string ⟨#[]⟩, faultV a c])) (hk : AtW w B j w') : TextP s h w B i e w' := by
 unfold TextP; rw [hh]; exact ⟨he, j, hk⟩
theorem hd_in {s : List Nat} {i j : Nat} {x : CH} (h : hdC s i = .ok (x, j)) : i < j ∧ j ≤ s.length ∧ (By s → x.arg < 18446744073709551616 ∧ x.major < 8) := by
 unfold hdC at h
 cases hc : s[i]? with
 | none => rw [hc] at h; cases h
 | some c =>
  rw [hc] at h
  have hi := (List.getElem?_eq_some_iff.1 hc).1
  simp only at h
  split at h
  ·injection h with h; injection h with h1 h2; subst h1 h2
   exact ⟨by omega, by omega, fun hs => by have := hs.get hc; exact ⟨by show c % 32 < 18446744073709551616; omega, by show c / 32 < 8; omega⟩⟩
  ·split at h
   ·split at h
    ·cases h
    ·rename_i h3
     injection h with h; injection h with h1 h2; subst h1 h2
     have hp : 0 < 2 ^ (c % 32 - 24) := Nat.two_pow_pos _
     refine ⟨by omega, by omega, fun hs => ⟨?_, by have := hs.get hc; show c / 32 < 8; omega⟩⟩
     have h4 := horF_lt (b := 256) (f := id) (l := (s.drop (i + 1)).take (2 ^ (c % 32 - 24))) (fun y hy => (hs.drop (i + 1)).take _ y hy) 0
     have h5 : ((s.drop (i + 1)).take (2 ^ (c % 32 - 24))).length ≤ 8 := by
      rw [List.length_take]
      have : 2 ^ (c % 32 - 24) ≤ 2 ^ 3 := Nat.pow_le_pow_right (by decide) (by omega)
      omega
     have h6 : (256 : Nat) ^ ((s.drop (i + 1)).take (2 ^ (c % 32 - 24))).length ≤ 256 ^ 8 := Nat.pow_le_pow_right (by decide) h5
     show hor 256 id _ < _
     have h7 : hor 256 id ((s.drop (i + 1)).take (2 ^ (c % 32 - 24))) < 1 * 256 ^ ((s.drop (i + 1)).take (2 ^ (c % 32 - 24))).length := by simpa [hor] using h4
     omega
   ·split at h
    ·cases h
    ·injection h with h; injection h with h1 h2; subst h1 h2
     exact ⟨by omega, by omega, fun hs => by have := hs.get hc; exact ⟨by show c % 32 < 18446744073709551616; omega, by show c / 32 < 8; omega⟩⟩
theorem runC_in {s t : List Nat} {h : CH} {i j : Nat} (hr : runC s h i = .ok (t, j)) (hi : i ≤ s.length) : i ≤ j ∧ j ≤ s.length ∧ t.length = j - i := by
 unfold runC at hr
 split at hr
 ·cases hr
 ·split at hr
  ·cases hr
  ·injection hr with hr; injection hr with h1 h2; subst h1 h2
   rw [List.length_take, List.length_drop]
   omega
theorem HF.over {w w1 w2 : World} {z z' B : Nat} (h : HF z B w w1) (hb : Below z' w1 w2) (hz : z ≤ z') : HF z B w w2 := ⟨hb.os.trans h.os, hb.tape.trans h.tape, hb.output.trans h.output, Nat.le_trans h.size hb.size, fun k hk hB => (hb.block k (by omega)).trans (h.keep k hk hB)⟩
def offN (B : Nat) (w : World) : Nat := match w.cell? ⟨B, 1, none⟩ with | some (.int _ z) => z.toNat | _ => 0
theorem offN_eq {w : World} {B i : Nat} {s : List Nat} {R : List Value} (h : Arr w B 46 (PC s i R)) : offN B w = i := by
 unfold offN
 rw [h.cell' (i := 1) (u := .int .i64 (i : Int)) rfl]
 rfl
set_option maxRecDepth 20000 in
set_option maxHeartbeats 16000000 in
theorem text_cb {B i : Nat} {s : List Nat} {R : List Value} {h : CH} (hs : By s) (hl : s.length ≤ 65536) (hi : i ≤ s.length) (ha : h.arg < 18446744073709551616) (hno : textC s h i ≠ .no) (w : World) (hw : LibH w B) (hP : Arr w B 46 (PC s i R)) :
  Calls Tryz.prog 67 #[.pointer (some ⟨B, 0, none⟩), headV h] w (TextP s h w B i) := by
 obtain ⟨n, hn⟩ : ∃ n, s.length = n := ⟨_, rfl⟩
 have HN := Lib.hid hn
 have HP0 := Lib.hid hP
 have HW := Lib.hid hw
 have DR := Lib.hid (fun (x : CH) (i' : Nat) (w' : World) (h1 : i' ≤ s.length) (h2 : x.arg < 18446744073709551616) (h3 : LibH w' B) (h4 : Arr w' B 46 (PC s i' R)) => run_cb (h := x) hl h1 h2 w' h3 h4)
 have DH := Lib.hid (fun (i' : Nat) (w' : World) (h1 : i' ≤ s.length) (h4 : Arr w' B 46 (PC s i' R)) => head_cb hs hl (show i' ≤ 70000 by omega) w' h4)
 have HNO := Lib.hid hno
 have HS := Lib.hid hs
 obtain ⟨hat, hm, hinf, a⟩ := h
 have hz := Lib.hid (Arr.new w 76 [.int .i64 (hat : Int), .int .i64 (hm : Int), .int .i64 (hinf : Int), .int .u64 (a : Int)])
 have hF := Lib.hid ((HF.refl (B := B) (Nat.le_refl w.heap.size)).alloc (.cells #[.int .i64 (hat : Int), .int .i64 (hm : Int), .int .i64 (hinf : Int), .int .u64 (a : Int)] 76))
 have hP1 := Lib.hid (hP.alloc (.cells #[.int .i64 (hat : Int), .int .i64 (hm : Int), .int .i64 (hinf : Int), .int .u64 (a : Int)] 76))
 have hBl := hP.lt
 have hia := ha
 rw [hn] at hi hl
 clear hn hP ha hw hno hs
 go_enter Tryz.func67, Tryz.ntmps67
 go_upto_region 1 with (fail)
 obtain ⟨rb, hrb⟩ : ∃ x, w.heap.size = x := ⟨_, rfl⟩
 have HRB := Lib.hid hrb
 change Hid (Arr (w.alloc (.cells #[.int .i64 (hat : Int), .int .i64 (hm : Int), .int .i64 (hinf : Int), .int .u64 (a : Int)] 76)) _ _ _) at hz
 generalize (w.alloc (.cells #[.int .i64 (hat : Int), .int .i64 (hm : Int), .int .i64 (hinf : Int), .int .u64 (a : Int)] 76)) = W at *
 rw [hrb] at hz hF hBl ⊢
 clear hrb
 have hzl := hz.out.lt
 have x0 := hz.out.cell' (i := 0) rfl
 have x1 := hz.out.cell' (i := 1) rfl
 have x2 := hz.out.cell' (i := 2) rfl
 have x3 := hz.out.cell' (i := 3) rfl
 have HWW : Hid (LibH W B) := fun w' hf => HW.out w' (by rw [HRB.out]; exact ⟨hf.os.trans hF.out.os, hf.tape.trans hF.out.tape, hf.output.trans hF.out.output, by have := hf.size; omega, fun k hk hB => (hf.keep k (by omega) hB).trans (hF.out.keep k hk hB)⟩)
 by_cases h31 : hinf = 31
 ·have h31' : ((hinf : Int) == 31) = true := by simp; omega
  obtain ⟨r, hr⟩ : ∃ r, partsC s hm (s.length + 1) i [] = r := ⟨_, rfl⟩
  have hh : textC s ⟨hat, hm, hinf, a⟩ i = r := by unfold textC; rw [if_neg (by simpa using h31)]; exact hr
  have hrn : r ≠ .no := by rw [← hh]; exact HNO.out
  have HH := Lib.hid hh
  have HRN := Lib.hid hrn
  have HRI := Lib.hid hr
  clear HNO hh hrn hr h31
  obtain ⟨bz, hbz⟩ : ∃ x, W.heap.size = x := ⟨_, rfl⟩
  have hbW := Lib.hid (Arr.new W 190 [.pointer none, .slice none 0 0])
  have hbB : Below W.heap.size W (W.alloc (.cells #[.pointer none, .slice none 0 0] 190)) := (Below.refl _ _).alloc (Nat.le_refl _) _
  have hbl : Hid (BldF W.heap.size W.heap.size (Lib.strCells (mks [])) (W.alloc (.cells #[.pointer none, .slice none 0 0] 190))) := .inl ⟨Nat.le_refl _, .slice none 0 0, hbW.out, ⟨by simp [Lib.strCells, mks], .inl ⟨rfl, rfl⟩⟩, by simp [Value.ownBlock]⟩
  have P2 := Lib.hid (hP1.out.keep hbB)
  have Z2 := Lib.hid (hz.out.keep hbB)
  have F2 := Lib.hid (hF.out.below hbB)
  have hWB2 := hbB.size
  go_upto_region 4 with (fail)
  change Hid (Arr (W.alloc (.cells #[.pointer none, .slice none 0 0] 190)) _ _ _) at hbW
  generalize (W.alloc (.cells #[.pointer none, .slice none 0 0] 190)) = W2 at *
  rw [hbz] at hbl hWB2 hzl hbW
  have hWB3 := hbW.out.lt
  clear hbz hbW hbB x0 x1 x2 x3
  have hBz : B < bz := by omega
  have hR0 : Hid (∃ f, partsC s hm f i [] = r) := ⟨_, HRI.out⟩
  go_loopw [] (fun wr => ∃ (i' : Nat) (acc : List Nat), i' ≤ n ∧ acc.length ≤ i' ∧ Hid (Arr wr B 46 (PC s i' R)) ∧ Hid (Arr wr rb 76 [.int .i64 (hat : Int), .int .i64 (hm : Int), .int .i64 (hinf : Int), .int .u64 (a : Int)]) ∧ Hid (HF rb B w wr) ∧ Hid (BldF bz bz (Lib.strCells (mks acc)) wr) ∧ Hid (∃ f, partsC s hm f i' acc = r) ∧ bz < wr.heap.size) (fun wr => 70000 - offN B wr)
  case atStart => exact ⟨i, [], hi, Nat.zero_le _, P2, Z2, F2, hbl, hR0, by omega⟩
  case round =>
   clear P2 Z2 F2 hbl hR0
   obtain ⟨i', acc, hi', hal, hP, hZ, hFr, hbl, hrr, hbs⟩ := hrel
   have hof := offN_eq hP.out
   have HWr : Hid (LibH wr B) := fun w' hf => HW.out w' (by rw [HRB.out]; exact ⟨hf.os.trans hFr.out.os, hf.tape.trans hFr.out.tape, hf.output.trans hFr.out.output, by have := hf.size; have := hFr.out.size; omega, fun k hk hB => (hf.keep k (by have := hFr.out.size; omega) hB).trans (hFr.out.keep k hk hB)⟩)
   have D1 := Lib.hid (DH.out i' wr (by rw [HN.out]; exact hi') hP.out)
   unfold HeadP at D1
   obtain ⟨f, hf⟩ := hrr.out
   have hf0 : f ≠ 0 := fun e => by
    subst e
    unfold partsC at hf
    exact HRN.out hf.symm
   obtain ⟨f, rfl⟩ : ∃ g, f = g + 1 := ⟨f - 1, by omega⟩
   unfold partsC at hf
   cases hd : hdC s i' with
   | no => unfold hdC at hd; repeat (first | cases hd | split at hd)
   | err b c =>
    rw [hd] at D1 hf
    have hf' : r = .err b c := hf.symm
    have hht : textC s ⟨hat, hm, hinf, a⟩ i = .err b c := by rw [HH.out, hf']
    clear hf hf' hd hrr
    go_wp2_with (go_at_call 21; ((with_reducible refine D1.out.mono ?_)); rintro e w5 ⟨rfl, j, hk5⟩)
    go_ret2
    exact TextP.of_err hht rfl (HF.fin (by rw [HRB.out]; exact (hFr.out.at_ hk5).alloc _) HP0.out ((hk5.arr hP.out).alloc _))
   | ok p =>
    obtain ⟨⟨xa, xm, xi, xr⟩, j⟩ := p
    obtain ⟨hij, hjn, hxa⟩ := hd_in hd
    obtain ⟨hxr, hx8⟩ := hxa HS.out
    rw [HN.out] at hjn
    rw [hd] at D1 hf
    have hf' : (if CH.ends ⟨xa, xm, xi, xr⟩ = true then CR.ok (acc, j) else if xm ≠ hm ∨ xi = 31 then .err xa 4 else (runC s ⟨xa, xm, xi, xr⟩ j).bind fun (t, i2) => partsC s hm f i2 (acc ++ t)) = r := hf
    have HF' := Lib.hid hf'
    clear hf hf' hd hrr
    go_upto_region 5 with (go_at_call 21; ((with_reducible refine D1.out.mono ?_)); rintro e w5 ⟨rfl, hk5⟩)
    have P5 : Hid (Arr (w5.alloc (.cells #[.int .i64 (xa : Int), .int .i64 (xm : Int), .int .i64 (xi : Int), .int .u64 (xr : Int)] 76)) B 46 (PC s j R)) := (hk5.arr hP.out).alloc _
    have Z5 := Lib.hid (Arr.alloc (show Arr w5 rb 76 [.int .i64 (hat : Int), .int .i64 (hm : Int), .int .i64 (hinf : Int), .int .u64 (a : Int)] from (hk5.hf.keep rb (hZ.out.lt) (Nat.ne_of_gt hBl)).trans hZ.out) (.cells #[.int .i64 (xa : Int), .int .i64 (xm : Int), .int .i64 (xi : Int), .int .u64 (xr : Int)] 76))
    have F5 := Lib.hid ((hFr.out.at_ hk5).alloc (.cells #[.int .i64 (xa : Int), .int .i64 (xm : Int), .int .i64 (xi : Int), .int .u64 (xr : Int)] 76))
    have B5 := Lib.hid (bld_hf hbl.out (hk5.hf.alloc (.cells #[.int .i64 (xa : Int), .int .i64 (xm : Int), .int .i64 (xi : Int), .int .u64 (xr : Int)] 76)) hBz)
    have X5 := Lib.hid (Arr.new w5 76 [.int .i64 (xa : Int), .int .i64 (xm : Int), .int .i64 (xi : Int), .int .u64 (xr : Int)])
    have hs5 : bz < w5.heap.size := Nat.lt_of_lt_of_le hbs hk5.size
    have H5 : Hid (LibH (w5.alloc (.cells #[.int .i64 (xa : Int), .int .i64 (xm : Int), .int .i64 (xi : Int), .int .u64 (xr : Int)] 76)) B) := fun w' hf => HW.out w' (by rw [HRB.out]; exact ⟨hf.os.trans F5.out.os, hf.tape.trans F5.out.tape, hf.output.trans F5.out.output, by have := hf.size; have := F5.out.size; omega, fun k hk hB => (hf.keep k (by have := F5.out.size; omega) hB).trans (F5.out.keep k hk hB)⟩)
    change Hid (Arr (w5.alloc (.cells #[.int .i64 (xa : Int), .int .i64 (xm : Int), .int .i64 (xi : Int), .int .u64 (xr : Int)] 76)) _ _ _) at X5
    obtain ⟨xb, hxb⟩ : ∃ x, w5.heap.size = x := ⟨_, rfl⟩
    generalize (w5.alloc (.cells #[.int .i64 (xa : Int), .int .i64 (xm : Int), .int .i64 (xi : Int), .int .u64 (xr : Int)] 76)) = w6 at *
    rw [hxb] at X5 hs5 ⊢
    clear hxb hk5 D1 hP hZ hFr hbl HWr
    have x0 := X5.out.cell' (i := 0) rfl
    have x1 := X5.out.cell' (i := 1) rfl
    have x2 := X5.out.cell' (i := 2) rfl
    have x3 := X5.out.cell' (i := 3) rfl
    have DE := Lib.hid (ends_cb ⟨xa, xm, xi, xr⟩ w6)
    have hbsz : bz ≤ w6.heap.size := by have := X5.out.lt; omega
    by_cases he : CH.ends ⟨xa, xm, xi, xr⟩ = true
    ·rw [he] at DE
     have hr1 : r = .ok (acc, j) := by rw [← HF'.out, if_pos he]
     have hht : textC s ⟨hat, hm, hinf, a⟩ i = .ok (acc, j) := by rw [HH.out, hr1]
     clear he hr1
     go_upto_region 8 with (go_at_call 76; ((with_reducible refine DE.out.mono ?_)); rintro e w7 ⟨rfl, hb7⟩)
     have P7 := Lib.hid (P5.out.keep hb7)
     have F7 := Lib.hid (F5.out.below hb7)
     have B7 : BldF bz bz (Lib.byteCells (acc.map UInt8.ofNat)) w7 := bld_hf B5.out ((HF.refl (B := B) (Nat.le_refl _)).below hb7) hBz
     have DS := Lib.hid (Tryz.Builder_String_any_f bz bz (acc.map UInt8.ofNat) w7 B7 (Nat.le_trans hbsz hb7.size))
     rw [show (⟨(acc.map UInt8.ofNat).toArray⟩ : ByteArray) = mks acc from rfl] at DS
     go_wp2_with (go_at_call 99; ((with_reducible refine DS.out.mono ?_)); rintro e w8 ⟨rfl, _, hb8⟩)
     go_ret2
     exact TextP.of_ok hht rfl (HF.fin (by rw [HRB.out]; exact F7.out.over hb8 (by omega)) HP0.out (P7.out.below hb8 hBz))
    ·have he' : CH.ends ⟨xa, xm, xi, xr⟩ = false := by simpa using he
     rw [he'] at DE
     have hr1 := HF'.out
     rw [if_neg he] at hr1
     have z1 := Z5.out.cell' (i := 1) rfl
     have zb1 : rb < w6.heap.size := Z5.out.lt
     clear he he' HF'
     go_upto_region 9 with (go_at_call 76; ((with_reducible refine DE.out.mono ?_)); rintro e w7 ⟨rfl, hb7⟩)
     have P7 := Lib.hid (P5.out.keep hb7)
     have Z7 := Lib.hid (Z5.out.keep hb7)
     have X7 := Lib.hid (X5.out.keep hb7)
     have F7 := Lib.hid (F5.out.below hb7)
     have H7 : Hid (LibH w7 B) := fun w' hf => H5.out w' ⟨hf.os.trans hb7.os, hf.tape.trans hb7.tape, hf.output.trans hb7.output, Nat.le_trans hb7.size hf.size, fun k hk hB => (hf.keep k (Nat.lt_of_lt_of_le hk hb7.size) hB).trans (hb7.block k hk)⟩
     have B7 : Hid (BldF bz bz (Lib.strCells (mks acc)) w7) := bld_hf B5.out ((HF.refl (B := B) (Nat.le_refl _)).below hb7) hBz
     have hs7 : xb < w7.heap.size := X7.out.lt
     clear x0 x1 x2 x3 z1 P5 Z5 X5 F5 B5 H5 DE hbsz zb1 hb7
     have x0 := X7.out.cell' (i := 0) rfl
     have x1 := X7.out.cell' (i := 1) rfl
     have x2 := X7.out.cell' (i := 2) rfl
     have x3 := X7.out.cell' (i := 3) rfl
     have z1 := Z7.out.cell' (i := 1) rfl
     by_cases hbad : xm ≠ hm ∨ xi = 31
     ·rw [if_pos hbad] at hr1
      have hht : textC s ⟨hat, hm, hinf, a⟩ i = .err xa 4 := by rw [HH.out, hr1]
      clear hr1
      by_cases hmm : xm = hm
      ·subst hmm
       have h2 : ((xi : Int) == 31) = true := by simp only [beq_iff_eq]; omega
       clear hbad
       go_upto_region 10 with (fail)
       go_quiet (fail)
       have F8 := Lib.hid (F7.out.drewN nq)
       have P8 : Hid (Arr (w7.drewN nq) B 46 (PC s j R)) := P7
       go_wp2_with (fail)
       go_ret2
       exact TextP.of_err hht rfl (HF.fin (by rw [HRB.out]; exact F8.out) HP0.out P8.out)
      ·have h1 : ((xm : Int) == (hm : Int)) = false := by simp only [beq_eq_false_iff_ne]; omega
       clear hbad hmm
       go_upto_region 10 with (fail)
       go_quiet (fail)
       have F8 := Lib.hid (F7.out.drewN nq)
       have P8 : Hid (Arr (w7.drewN nq) B 46 (PC s j R)) := P7
       go_wp2_with (fail)
       go_ret2
       exact TextP.of_err hht rfl (HF.fin (by rw [HRB.out]; exact F8.out) HP0.out P8.out)
     ·rw [if_neg hbad] at hr1
      have hmm : xm = hm := by omega
      subst hmm
      have h2 : ((xi : Int) == 31) = false := by simp only [beq_eq_false_iff_ne]; omega
      have D2 := Lib.hid (DR.out ⟨xa, xm, xi, xr⟩ j w7 (by rw [HN.out]; exact hjn) hxr H7.out P7.out)
      unfold RunP at D2
      clear hbad
      cases hrun : runC s ⟨xa, xm, xi, xr⟩ j with
      | no => unfold runC at hrun; split at hrun <;> (try split at hrun) <;> cases hrun
      | err b c =>
       rw [hrun] at D2 hr1
       have hht : textC s ⟨hat, xm, hinf, a⟩ i = .err b c := by rw [HH.out]; exact hr1.symm
       clear hrun hr1
       go_wp2_with (go_at_call 98; ((with_reducible refine D2.out.mono ?_)); rintro e w8 ⟨rfl, j2, hk8⟩)
       go_ret2
       have P8 : Arr w8 B 46 (PC s j2 R) := hk8.arr P7.out
       exact TextP.of_err hht rfl (HF.fin (by rw [HRB.out]; exact F7.out.at_ hk8) HP0.out P8)
      | ok q =>
       obtain ⟨t, j2⟩ := q
       obtain ⟨hjj, hj2, htl⟩ := runC_in hrun (by rw [HN.out]; exact hjn)
       rw [HN.out] at hj2
       rw [hrun] at D2 hr1
       have hr2 : partsC s xm f j2 (acc ++ t) = r := hr1
       have HR2 : Hid (∃ f, partsC s xm f j2 (acc ++ t) = r) := ⟨f, hr2⟩
       clear hrun hr1 hr2
       go_upto_region 14 with (go_at_call 98; ((with_reducible refine D2.out.mono ?_)); rintro e w8 ⟨rfl, hk8⟩)
       have P8 : Hid (Arr w8 B 46 (PC s j2 R)) := hk8.arr P7.out
       have Z8 : Hid (Arr w8 rb 76 [.int .i64 (hat : Int), .int .i64 (xm : Int), .int .i64 (hinf : Int), .int .u64 (a : Int)]) := (hk8.hf.keep rb Z7.out.lt (Nat.ne_of_gt hBl)).trans Z7.out
       have F8 := Lib.hid (F7.out.at_ hk8)
       have B8 : Hid (BldF bz bz (Lib.strCells (mks acc)) w8) := bld_hf B7.out hk8.hf hBz
       have hs8 : bz < w8.heap.size := by have := hk8.size; omega
       have DW := Lib.hid (cb_string bz bz (Lib.strCells (mks acc)) (mks t) w8 B8.out (by rw [Lib.strCells_length, size_mks, size_mks]; omega) (Nat.le_of_lt hs8))
       rw [cells_appS] at DW
       clear D2 P7 Z7 X7 F7 H7 B7 x0 x1 x2 x3 z1 hk8
       go_wp2_with (go_at_call 100; ((with_reducible refine DW.out.mono ?_)); rintro e w9 ⟨rfl, hu9, hb9, _⟩)
       have P9 : Hid (Arr w9 B 46 (PC s j2 R)) := P8.out.below hb9 hBz
       have Z9 := Lib.hid (Z8.out.below hb9 (by omega))
       have F9 := Lib.hid (F8.out.over hb9 (by omega))
       have B9 : Hid (BldF bz bz (Lib.strCells (mks (acc ++ t))) w9) := .inr hu9
       have hs9 : bz < w9.heap.size := by have := hb9.size; omega
       have hof2 := offN_eq P9.out
       clear DW P8 Z8 F8 B8 hu9 hb9
       go_roundw
       case rel => exact ⟨j2, acc ++ t, by omega, by rw [List.length_append]; omega, P9, Z9, F9, B9, HR2, hs9⟩
       case measure => rw [hof2, hof]; omega
 ·have h31' : ((hinf : Int) == 31) = false := by simp; omega
  have hh : textC s ⟨hat, hm, hinf, a⟩ i = runC s ⟨hat, hm, hinf, a⟩ i := by unfold textC; rw [if_pos h31]
  have D := Lib.hid (DR.out ⟨hat, hm, hinf, a⟩ i W (by rw [HN.out]; exact hi) hia HWW.out hP1.out)
  clear DR DH HNO
  cases hr : runC s ⟨hat, hm, hinf, a⟩ i with
  | no => unfold runC at hr; split at hr <;> (try split at hr) <;> cases hr
  | ok p =>
   obtain ⟨t, j⟩ := p
   rw [hr] at hh
   unfold RunP at D
   rw [hr] at D
   clear hr
   go_wp2_with (go_at_call 98; ((with_reducible refine D.out.mono ?_)); rintro e w5 ⟨rfl, hk5⟩)
   go_ret2
   exact TextP.of_ok hh rfl (HF.fin (by rw [HRB.out]; exact hF.out.at_ hk5) HP0.out (hk5.arr hP1.out))
  | err b c =>
   rw [hr] at hh
   unfold RunP at D
   rw [hr] at D
   clear hr
   go_wp2_with (go_at_call 98; ((with_reducible refine D.out.mono ?_)); rintro e w5 ⟨rfl, j, hk5⟩)
   go_ret2
   exact TextP.of_err hh rfl (HF.fin (by rw [HRB.out]; exact hF.out.at_ hk5) HP0.out (hk5.arr hP1.out))
end Go.Proofs.YtbhigefbihpnlaaGreatDoor
