/- The walk of (*cbor.parser).alias. -/
import Derived.Test.YtbhigefbihpnlaaGreatDoorMAq
import Derived.Test.YtbhigefbihpnlaaGreatDoorMAo
import Derived.Test.YtbhigefbihpnlaaGreatDoorMAa
set_option linter.unusedVariables false
set_option linter.unusedSimpArgs false
set_option linter.defProp false
set_option linter.constructorNameAsVariable false
namespace Go.Proofs.YtbhigefbihpnlaaGreatDoor
open Go.RowKit
def AliP (s : List Nat) (h : CH) (w : World) (B : Nat) (st : CSt) (e : Ending) (w' : World) : Prop :=
 match aliasC s h st with
 | .ok (v, st') => e = .returned (.tuple #[.int .i64 v, .nilIface]) ∧ AtW w B st'.i w'
 | .err a c => e = .returned (.tuple #[.int .i64 0, faultV a c]) ∧ ∃ j, AtW w B j w'
 | .no => True
theorem AliP.of_ok {s : List Nat} {h : CH} {w w' : World} {B : Nat} {st st' : CSt} {e : Ending} {v : Int} (hh : aliasC s h st = .ok (v, st')) (he : e = .returned (.tuple #[.int .i64 v, .nilIface])) (hk : AtW w B st'.i w') : AliP s h w B st e w' := by
 unfold AliP; rw [hh]; exact ⟨he, hk⟩
theorem AliP.of_err {s : List Nat} {h : CH} {w w' : World} {B a c j : Nat} {st : CSt} {e : Ending} (hh : aliasC s h st = .err a c) (he : e = .returned (.tuple #[.int .i64 0, faultV a c])) (hk : AtW w B j w') : AliP s h w B st e w' := by
 unfold AliP; rw [hh]; exact ⟨he, j, hk⟩
set_option maxRecDepth 20000 in
set_option maxHeartbeats 8000000 in
theorem alias_cb {w : World} {B : Nat} {s : List Nat} {vn vs vh vm : Value} {ncs : List Value} {lab : Nat → Option Nat} {st : CSt} (hs : By s) (hl : s.length ≤ 65536) (hi : st.i ≤ 70000) (h : CM w B s vn vs vh vm ncs lab st) (hsh : st.shared.length ≤ 65536) (x : CH) (hno : aliasC s x st ≠ .no) (hw : LibH w B) :
  Calls Tryz.prog 40 #[.pointer (some ⟨B, 0, none⟩), headV x] w (AliP s x w B st) := by
 obtain ⟨hat, m, k, a⟩ := x
 have HX := Lib.hid (Arr.new w 76 [.int .i64 (hat : Int), .int .i64 (m : Int), .int .i64 (k : Int), .int .u64 (a : Int)])
 have HBd : Below w.heap.size w (w.alloc (.cells #[.int .i64 (hat : Int), .int .i64 (m : Int), .int .i64 (k : Int), .int .u64 (a : Int)] 76)) := (Below.refl _ _).alloc (Nat.le_refl _) _
 have HF0 := Lib.hid ((HF.refl (B := B) (Nat.le_refl w.heap.size)).below HBd)
 have H0 := Lib.hid h
 have hBw := h.lt
 have hW := Lib.hid (h.below HBd)
 have HL := Lib.hid (hw.hf HF0.out)
 clear h hw
 go_enter Tryz.func40, Tryz.ntmps40
 go_upto_region 1 with (fail)
 generalize (w.alloc (.cells #[.int .i64 (hat : Int), .int .i64 (m : Int), .int .i64 (k : Int), .int .u64 (a : Int)] 76)) = W at *
 have D := Lib.hid (head_cb hs hl hi W hW.out.par)
 unfold HeadP at D
 obtain ⟨gb, hgb⟩ : ∃ x, w.heap.size = x := ⟨_, rfl⟩
 have hx : Hid (Arr W gb 76 [.int .i64 (hat : Int), .int .i64 (m : Int), .int .i64 (k : Int), .int .u64 (a : Int)]) := by rw [← hgb]; exact HX
 have HGB := Lib.hid hgb
 clear HX
 have HNO := Lib.hid hno
 have HSH := Lib.hid hsh
 clear hno hsh
 cases hq : hdC s st.i with
 | no => exact absurd (show aliasC s ⟨hat, m, k, a⟩ st = .no by unfold aliasC; rw [hq]; rfl) HNO.out
 | err b c =>
  rw [hq] at D
  have hh := Lib.hid (show aliasC s ⟨hat, m, k, a⟩ st = .err b c by unfold aliasC; rw [hq]; rfl)
  clear hq
  go_upto_region 2 with (go_at_call 21; ((with_reducible refine D.out.mono ?_)); rintro e w3 ⟨rfl, j, hk⟩)
  have hP3 := hk.arr hW.out.par
  have F4 := Lib.hid ((HF0.out.at_ hk).alloc (.cells #[.int .i64 ((0 : Nat) : Int), .int .i64 ((0 : Nat) : Int), .int .i64 ((0 : Nat) : Int), .int .u64 ((0 : Nat) : Int)] 76))
  have P4 := Lib.hid (hP3.alloc (.cells #[.int .i64 ((0 : Nat) : Int), .int .i64 ((0 : Nat) : Int), .int .i64 ((0 : Nat) : Int), .int .u64 ((0 : Nat) : Int)] 76))
  go_wp2
  go_ret2
  exact AliP.of_err hh.out rfl (HF.fin F4.out H0.out.par P4.out)
 | ok p =>
  obtain ⟨⟨hat2, m2, k2, a2⟩, j⟩ := p
  rw [hq] at D
  have hsc : aliasC s ⟨hat, m, k, a⟩ st = if m2 ≠ 0 then .err hat 10 else match st.shared[a2]? with | none => .err hat 24 | some v => .ok (v, { st with i := j }) := by unfold aliasC; rw [hq]; rfl
  have HSC := Lib.hid hsc
  clear hq hsc
  go_upto_region 2 with (go_at_call 21; ((with_reducible refine D.out.mono ?_)); rintro e w3 ⟨rfl, hk⟩)
  have C4 := Lib.hid ((hW.out.atw hk).1.below ((Below.refl w3.heap.size w3).alloc (Nat.le_refl _) (.cells #[.int .i64 (hat2 : Int), .int .i64 (m2 : Int), .int .i64 (k2 : Int), .int .u64 (a2 : Int)] 76)))
  have F4 := Lib.hid ((HF0.out.at_ hk).alloc (.cells #[.int .i64 (hat2 : Int), .int .i64 (m2 : Int), .int .i64 (k2 : Int), .int .u64 (a2 : Int)] 76))
  have X4 : Hid (Arr (w3.alloc (.cells #[.int .i64 (hat2 : Int), .int .i64 (m2 : Int), .int .i64 (k2 : Int), .int .u64 (a2 : Int)] 76)) gb 76 [.int .i64 (hat : Int), .int .i64 (m : Int), .int .i64 (k : Int), .int .u64 (a : Int)]) := Arr.alloc ((hk.hf.keep gb hx.out.lt (by omega)).trans hx.out) _
  have Y4 := Lib.hid (Arr.new w3 76 [.int .i64 (hat2 : Int), .int .i64 (m2 : Int), .int .i64 (k2 : Int), .int .u64 (a2 : Int)])
  change Hid (Arr (w3.alloc (.cells #[.int .i64 (hat2 : Int), .int .i64 (m2 : Int), .int .i64 (k2 : Int), .int .u64 (a2 : Int)] 76)) w3.heap.size 76 _) at Y4
  obtain ⟨g4, hg4⟩ : ∃ x, w3.heap.size = x := ⟨_, rfl⟩
  rw [hg4] at Y4 ⊢
  generalize (w3.alloc (.cells #[.int .i64 (hat2 : Int), .int .i64 (m2 : Int), .int .i64 (k2 : Int), .int .u64 (a2 : Int)] 76)) = W4 at *
  clear hk D hg4 hx hW HL HF0
  have x0 := X4.out.cell' (i := 0) rfl
  have y1 := Y4.out.cell' (i := 1) rfl
  have y3 := Y4.out.cell' (i := 3) rfl
  by_cases hm : m2 = 0
  ·have em : ((m2 : Int) != 0) = false := by subst hm; rfl
   obtain ⟨V, cs, hv, _, _⟩ := own_slice C4.out.shr.1
   obtain ⟨L, hL⟩ : ∃ x, st.shared.length = x := ⟨_, rfl⟩
   have hL2 : ({ st with i := j } : CSt).shared.length = L := hL
   rw [hL2] at hv
   have c8 := C4.out.par.cell' (i := 8) rfl
   rw [hv] at c8
   have hLm : (L : Int) ≤ 65536 := by have := HSH.out; omega
   cases hg : st.shared[a2]? with
   | none =>
    have hal : L ≤ a2 := by rw [← hL]; exact List.getElem?_eq_none_iff.1 hg
    have hal' : (a2 : Int) ≥ (L : Int) := by omega
    have hh := Lib.hid (show aliasC s ⟨hat, m, k, a⟩ st = .err hat 24 by rw [HSC.out, if_neg (by simp [hm]), hg])
    clear hm hg hal HSC hL hL2 hv
    go_upto_region 6 with (fail)
    go_quiet (fail)
    go_upto_region 7 with (fail)
    go_quiet (fail)
    go_wp2
    go_ret2
    exact AliP.of_err hh.out rfl (HF.fin (i' := j) ((F4.out).drewN _) H0.out.par (C4.out.drewN _).par)
   | some v =>
    have hal : a2 < L := by rw [← hL]; exact (List.getElem?_eq_some_iff.1 hg).1
    have hal' : ¬ (a2 : Int) ≥ (L : Int) := by omega
    have hal2 : (a2 : Int) < (L : Int) := by omega
    have hsh : W4.ownsRow B 3 1 vh L (I64 st.shared) := by rw [← hL]; exact C4.out.shr.1
    obtain ⟨gs, c2, hv2, _, _⟩ := own_some hsh (by omega)
    have hv3 := hv.symm.trans hv2
    injection hv3 with hv4 _ hv5
    subst hv4 hv5
    rw [hv] at hsh
    have l0 := (own_cell1 hsh (i := a2) (I64_get hg)).1
    have hh := Lib.hid (show aliasC s ⟨hat, m, k, a⟩ st = .ok (v, { st with i := j }) by rw [HSC.out, if_neg (by simp [hm]), hg])
    clear hm hg hal HSC hL hL2 hv hv2 hsh
    go_upto_region 6 with (fail)
    go_quiet (fail)
    go_upto_region 8 with (fail)
    go_quiet (fail)
    go_wp2
    go_ret2
    exact AliP.of_ok hh.out rfl (HF.fin (i' := j) ((F4.out).drewN _) H0.out.par (C4.out.drewN _).par)
  ·have em : ((m2 : Int) != 0) = true := by simp; omega
   have hh := Lib.hid (show aliasC s ⟨hat, m, k, a⟩ st = .err hat 10 by rw [HSC.out, if_pos hm])
   clear hm
   go_upto_region 5 with (fail)
   go_quiet (fail)
   go_wp2
   go_ret2
   exact AliP.of_err hh.out rfl (HF.fin (i' := j) ((F4.out).drewN _) H0.out.par (C4.out.drewN _).par)
end Go.Proofs.YtbhigefbihpnlaaGreatDoor
namespace Go.Proofs.YtbhigefbihpnlaaGreatDoor
open Go.RowKit
set_option maxRecDepth 20000 in
set_option maxHeartbeats 8000000 in
theorem key1_cb {B g c n x y k : Nat} {ncs : List Value} {kd kd2 : Int} {tx tx2 : List Nat} {u0 u1 u2 : Value} (w : World) (hN : w.ownsRow B 60 5 (.slice (some ⟨g, 0, none⟩) n c) n ncs) (hx : Arr w x 24 [.slice (some ⟨g, 0, none⟩) n c]) (hy : Arr w y 60 [.int .i64 kd, .string (mks tx), u0, u1, u2])
  (hb : By tx) (hb2 : By tx2) (hk : k < n) (hn : n ≤ 100000) (h0 : ncs[k * 5]? = some (.int .i64 kd2)) (h1 : ncs[k * 5 + 1]? = some (.string (mks tx2))) :
  Calls Tryz.prog 110 #[.int .i64 (k : Int), .pointer (some ⟨x, 0, none⟩), .pointer (some ⟨y, 0, none⟩)] w fun e w' => e = .returned (.bool (kd2 == kd && tx2 == tx)) ∧ Below w.heap.size w w' := by
 have c0 := (own_cell1 hN h0).1
 have c1 := (own_cell1 hN h1).1
 have x0 := hx.cell' (i := 0) rfl
 have y0 := hy.cell' (i := 0) rfl
 have y1 := hy.cell' (i := 1) rfl
 have k0 : (0 : Int) ≤ k := by omega
 have k1 : (k : Int) < n := by omega
 have hkk : (k : Int) ≤ 100000 := by omega
 have hnn : (n : Int) ≤ 100000 := by omega
 have MI := Lib.hid (fun e => mks_inj hb2 hb e)
 obtain ⟨V, hV⟩ : ∃ V, (kd2 == kd && tx2 == tx) = V := ⟨_, rfl⟩
 rw [hV]
 have HV := Lib.hid hV
 obtain ⟨T, hT⟩ : ∃ T, mks tx = T := ⟨_, rfl⟩
 obtain ⟨T2, hT2⟩ : ∃ T, mks tx2 = T := ⟨_, rfl⟩
 rw [hT] at y1 MI
 rw [hT2] at c1 MI
 have HT := Lib.hid hT
 have HT2 := Lib.hid hT2
 have HB := Lib.hid (show By tx ∧ By tx2 from ⟨hb, hb2⟩)
 clear hN hx hy hb hb2 hk hn h0 h1 hV hT hT2
 go_enter Tryz.func110, Tryz.ntmps110
 by_cases hkd : kd2 = kd
 ·subst hkd
  by_cases ht : T2 = T
  ·obtain rfl : true = V := by rw [← HV.out, MI.out ht]; simp
   subst ht
   clear HV MI HT HT2
   go_upto_region 1 with (fail)
   go_quiet (fail)
   go_wp2
   go_ret
   exact ⟨rfl, Below.drewN' (Below.refl _ _) _⟩
  ·have htt : tx2 ≠ tx := fun e => ht (by rw [← HT.out, ← HT2.out, e])
   obtain rfl : false = V := by rw [← HV.out, beq_eq_false_iff_ne.2 htt, Bool.and_false]
   have et : (T2.toList == T.toList) = false := by rw [← HT.out, ← HT2.out, eq_mks HB.out.2 HB.out.1]; exact decide_eq_false htt
   clear HV MI HT HT2 ht htt
   go_upto_region 1 with (fail)
   go_quiet (fail)
   go_wp2
   go_ret
   exact ⟨rfl, Below.drewN' (Below.refl _ _) _⟩
 ·have ek : (kd2 == kd) = false := by rw [beq_eq_false_iff_ne]; exact hkd
  obtain rfl : false = V := by rw [← HV.out, ek, Bool.false_and]
  clear HV MI HT HT2 hkd
  go_upto_region 1 with (fail)
  go_quiet (fail)
  go_wp2
  go_ret
  exact ⟨rfl, Below.drewN' (Below.refl _ _) _⟩
def hitC (nodes : List GNode) (kd : Int) (tx : List Nat) (ks : List Int) : Bool := ks.any fun y => (ndAt nodes y.toNat).kind == kd && (ndAt nodes y.toNat).text == tx
set_option maxRecDepth 20000 in
set_option maxHeartbeats 8000000 in
theorem contains_cb {B g c n x y ck : Nat} {ncs : List Value} {nodes : List GNode} {kd : Int} {tx : List Nat} {u0 u1 u2 : Value} {K : Option Addr} {ks : List Int} (w : World) (hN : w.ownsRow B 60 5 (.slice (some ⟨g, 0, none⟩) n c) n ncs) (hx : Arr w x 24 [.slice (some ⟨g, 0, none⟩) n c]) (hy : Arr w y 60 [.int .i64 kd, .string (mks tx), u0, u1, u2])
  (hb : By tx) (hn : n ≤ 100000) (hl : ks.length ≤ 65536) (hK : Rd w K (I64 ks))
  (hks : ∀ z ∈ ks, ∃ k : Nat, z = (k : Int) ∧ k < n ∧ By (ndAt nodes k).text ∧ ncs[k * 5]? = some (.int .i64 (ndAt nodes k).kind) ∧ ncs[k * 5 + 1]? = some (.string (mks (ndAt nodes k).text))) :
  Calls Tryz.prog 23 #[.slice K ks.length ck, .func (.func 110) #[] #[.pointer (some ⟨x, 0, none⟩), .pointer (some ⟨y, 0, none⟩)]] w fun e w' => e = .returned (.bool (hitC nodes kd tx ks)) ∧ Below w.heap.size w w' := by
 have D := Lib.hid (fun (k : Nat) (hk : k < n) (h1 : By (ndAt nodes k).text) (h2 : ncs[k * 5]? = some (.int .i64 (ndAt nodes k).kind)) (h3 : ncs[k * 5 + 1]? = some (.string (mks (ndAt nodes k).text))) (w' : World) (hb' : Below w.heap.size w w') => key1_cb w' (own_below hN hb') (hx.keep hb') (hy.keep hb') hb h1 hk hn h2 h3)
 have HK := Lib.hid hK
 have HKS := Lib.hid hks
 obtain ⟨m, hm⟩ : ∃ m, ks.length = m := ⟨_, rfl⟩
 have hml : m ≤ 65536 := by omega
 have HM := Lib.hid hm
 have hix : Hid (Calls Tryz.prog 43 #[.slice K m ck, .func (.func 110) #[] #[.pointer (some ⟨x, 0, none⟩), .pointer (some ⟨y, 0, none⟩)]] w fun e w' => (∃ r : Int, e = .returned (.int .i64 r) ∧ decide (r ≥ 0) = hitC nodes kd tx ks) ∧ Below w.heap.size w w') := by
  have H0 := Lib.hid (Below.refl w.heap.size w)
  clear hK hx hy hb hks hN hm hn hl
  go_enter Tryz.func43, Tryz.ntmps43
  go_wp2_with (fail)
  go_loopw [8] (fun v wr => ∃ i : Nat, i ≤ m ∧ v = .int .i64 (i : Int) ∧ Hid (hitC nodes kd tx (ks.take i) = false) ∧ Hid (Below w.heap.size w wr)) (fun v _ => m - (intOf v).toNat)
  case atStart => exact ⟨0, Nat.zero_le _, rfl, rfl, H0⟩
  case round =>
   obtain ⟨i, hi, rfl, hno, hbw⟩ := hrel
   by_cases him : i = m
   ·have hi' : ¬ (i : Int) < m := by omega
    have hh : hitC nodes kd tx ks = false := by
     have h := hno.out
     rwa [List.take_of_length_le (by have := HM.out; omega)] at h
    clear hno
    go_wp2_with (fail)
    go_ret
    exact ⟨⟨-1, rfl, by first | decide | (rw [hh]; rfl)⟩, hbw.out⟩
   ·have hi' : (i : Int) < m := by omega
    have i0 : (0 : Int) ≤ i := by omega
    have him' : i < ks.length := by have := HM.out; omega
    obtain ⟨z, hz⟩ : ∃ z, ks[i]? = some z := ⟨_, List.getElem?_eq_getElem him'⟩
    obtain ⟨k, rfl, k1, k2, k3, k4⟩ := HKS.out z (List.mem_of_getElem? hz)
    obtain ⟨ad, rfl, hc⟩ := (HK.out.keep hbw.out).at_ (I64_get hz)
    have Dk := Lib.hid (D.out k k1 k2 k3 k4 _ hbw.out)
    have hst : hitC nodes kd tx (ks.take (i + 1)) = ((ndAt nodes k).kind == kd && (ndAt nodes k).text == tx) := by
     have h := hno.out
     unfold hitC at h ⊢
     rw [List.take_add_one, List.any_append, h, hz]
     simp
    have HST := Lib.hid hst
    have hsub : hitC nodes kd tx (ks.take (i + 1)) = true → hitC nodes kd tx ks = true := by
     intro h
     unfold hitC at h ⊢
     rw [List.any_eq_true] at h ⊢
     obtain ⟨z, h1, h2⟩ := h
     exact ⟨z, List.mem_of_mem_take h1, h2⟩
    have HSUB := Lib.hid hsub
    obtain ⟨b, hbb⟩ : ∃ b, ((ndAt nodes k).kind == kd && (ndAt nodes k).text == tx) = b := ⟨_, rfl⟩
    rw [hbb] at Dk HST
    clear hz hst hsub hbb k1 k2 k3 k4 hno him'
    cases b
    ·go_wp2_with (go_at_call 110; ((with_reducible refine Dk.out.mono ?_)); rintro e w2 ⟨rfl, hb2⟩)
     go_round
     case rel => exact ⟨i + 1, by omega, i64e (by omega), HST, hbw.out.trans (hb2.mono hbw.out.size)⟩
     case measure => simp [intOf]; omega
    ·go_wp2_with (go_at_call 110; ((with_reducible refine Dk.out.mono ?_)); rintro e w2 ⟨rfl, hb2⟩)
     go_ret
     exact ⟨⟨(i : Int), rfl, by have h5 := HSUB.out HST.out; first | (rw [h5]; exact decide_eq_true i0) | (simp [h5]; done) | (simp [h5]; omega)⟩, hbw.out.trans (hb2.mono hbw.out.size)⟩
 rw [hm]
 clear hK hx hy hb hks hN hm hn hl D
 go_enter Tryz.func23, Tryz.ntmps23
 obtain ⟨V, hV⟩ : ∃ V, hitC nodes kd tx ks = V := ⟨_, rfl⟩
 rw [hV] at hix ⊢
 clear hV
 go_wp2_with (go_at_call 43; ((with_reducible refine hix.out.mono ?_)); rintro e w2 ⟨⟨r, rfl, hr⟩, hb2⟩; have HR := Lib.hid hr; clear hr)
 go_ret
 exact ⟨by rw [← HR.out]; rfl, hb2⟩
end Go.Proofs.YtbhigefbihpnlaaGreatDoor
namespace Go.Proofs.YtbhigefbihpnlaaGreatDoor
open Go.RowKit
theorem top_dg {m : Nat} (h : m ≠ 0) : ∃ d r, (dg m).reverse = d :: r ∧ 1 ≤ d ∧ d < 10 := by
 induction m using Nat.strongRecOn with
 | _ m ih =>
  rw [dg_pos h, List.reverse_cons]
  by_cases h1 : m / 10 = 0
  ·rw [h1, dg_zero]
   exact ⟨m % 10, [], rfl, by omega, by omega⟩
  ·obtain ⟨d, r, e, h2, h3⟩ := ih (m / 10) (by omega) h1
   exact ⟨d, r ++ [m % 10], by rw [e]; rfl, h2, h3⟩
theorem ntx_pos {m : Nat} (h : m ≠ 0) (neg : Bool) : ntx neg m = (if neg then [45] else []) ++ (asc (dg m)).reverse := by unfold ntx; rw [if_neg h]
theorem asc_top {m : Nat} (h : m ≠ 0) : ∃ c r, (asc (dg m)).reverse = c :: r ∧ 49 ≤ c ∧ c ≤ 57 := by
 obtain ⟨d, r, e, h1, h2⟩ := top_dg h
 refine ⟨48 + d, asc r, ?_, by omega, by omega⟩
 unfold asc
 rw [← List.map_reverse, e]
 rfl
theorem all_asc (m : Nat) : ((asc (dg m)).reverse).all isDig = true := by
 rw [List.all_eq_true]
 intro c hc
 rw [List.mem_reverse] at hc
 obtain ⟨d, hd, rfl⟩ := List.mem_map.1 hc
 have := ten_dg m d hd
 unfold isDig
 exact decide_eq_true (by omega)
theorem dec_asc (ds : List Nat) : (dec (asc ds).reverse).reverse = ds := by
 unfold dec asc
 rw [← List.map_reverse, List.reverse_reverse, List.map_map]
 have : ((fun x => x - 48) ∘ (fun x => 48 + x)) = (id : Nat → Nat) := by funext x; simp
 rw [this, List.map_id]
theorem parseC_ntx (neg : Bool) (m : Nat) (h : (dg m).length ≤ 400) : parseC (ntx neg m) = some (neg && decide (0 < m), m) := by
 by_cases h0 : m = 0
 ·subst h0
  have e : ntx neg 0 = [48] := by unfold ntx; rw [if_pos rfl]
  have hn : negL [48] = false := by decide
  have hb : bodyL [48] = [48] := by unfold bodyL; rw [hn]; rfl
  rw [e]
  unfold parseC
  rw [if_neg (by unfold badL; rw [hb]; simp), hb, hn]
  cases neg <;> rfl
 ·obtain ⟨c, r, e, h1, h2⟩ := asc_top h0
  have hl : (c :: r).length ≤ 400 := by rw [← e]; simpa [asc] using h
  have hall := all_asc m
  have hval : val (dec (asc (dg m)).reverse).reverse = m := by rw [dec_asc, val_dg]
  rw [ntx_pos h0, e]
  rw [e] at hall hval
  cases neg with
  | true =>
   have hn : negL ([45] ++ c :: r) = true := by unfold negL; exact decide_eq_true ⟨by simp, rfl⟩
   have hb : bodyL ([45] ++ c :: r) = c :: r := by unfold bodyL; rw [hn]; rfl
   show parseC ([45] ++ c :: r) = _
   unfold parseC
   rw [if_neg (by unfold badL; rw [hb]; simp at hl ⊢; omega), hb, hn, if_pos hall, hval]
   simp; omega
  | false =>
   have hn : negL (c :: r) = false := by unfold negL; refine decide_eq_false ?_; rintro ⟨_, h⟩; have := Option.some.inj h; omega
   have hb : bodyL (c :: r) = c :: r := by unfold bodyL; rw [hn]; rfl
   show parseC (c :: r) = _
   unfold parseC
   rw [if_neg (by unfold badL; rw [hb]; simp at hl ⊢; omega), hb, hn, if_pos hall, hval]
   simp
end Go.Proofs.YtbhigefbihpnlaaGreatDoor
