/- The walk of Numeral of the reference's decimal. -/
import Derived.Test.YtbdnamcjhndpjaaGreatDoorMQc
import Derived.Test.YtbdnamcjhndpjaaGreatDoorMK
import Derived.Deep.DeepCutAuto
set_option linter.unusedVariables false
set_option linter.unusedSimpArgs false
set_option linter.defProp false
set_option linter.constructorNameAsVariable false
namespace Go.Proofs.YtbdnamcjhndpjaaGreatDoor
open Go.RowKit
section
variable {P : Program} {w : World} {ops : Array Oper} {rest : List Oper} {o : Oper} {a : Act} {Q : Exit → Act → World → Prop}
theorem wpList_apN (hg : o.guard = none) (s x : Operand) (t : TypeId) (ho : o.op = .call { callee := .builtin .append, args := #[s, x], argTypes := #[t, t] }) (base : Nat) (e : TypeId) (z : Value) (bytes : Nat)
  (ht : P.underlying t = some (.slice e)) (h2 : (P.info? e).map (fun i => (i.zero, i.size, i.bytes)) = some (some z, 1, bytes)) (hz : z.cells = #[z])
  (v : Value) (n : Nat) (xs : List Value) (hs : a.eval s = v) (hown : w.ownsRow base e 1 v n xs) (ad : Addr) (m c : Nat) (ys : List Value) (hx : a.eval x = .slice (some ad) m c)
  (hl : Hid (m = ys.length)) (hr : Rd w (some ad) ys) (h1 : ∀ u ∈ ys, u.oneCell' = true) (hm : n + m ≤ maxLen) (hb : (n + m) * bytes ≤ 140737488355328) (hbase : base ≤ w.heap.size)
  (hK : ∀ v' w', w'.ownsRow base e 1 v' (n + m) (xs ++ ys) → w.grownBy w' v.ownBlock → wpList P ops Q rest (a.put o.dst v') w') : wpList P ops Q (o :: rest) a w := by
 obtain ⟨i, hi, hz1, hz2, hz3⟩ := info_parts h2
 refine wpList_append_own w hg s x t ho base e i z 1 bytes ht hi hz1 hz2 hz3 (by rw [hz]; rfl) (by decide) v n xs hs hown ad m c ys hx (by rw [hl.out]; simp) ?_ h1 hm hb hbase (fun v' w' h3 h4 _ => hK v' w' h3 h4)
 intro j y hj
 obtain ⟨ad', e', hc⟩ := hr j y hj
 obtain rfl := Option.some.inj e'
 exact hc
end
def RNumO (w : World) (o : Option (Bool × List Nat × Int)) (e : Ending) (w' : World) : Prop :=
 Below w.heap.size w w' ∧ ∃ b A n c x ok, e = .returned (.tuple #[.agg #[.bool b, .slice A n c, .int .i64 x], .bool ok]) ∧ match o with
  | none => ok = false
  | some y => ok = true ∧ b = y.1 ∧ x = y.2.2 ∧ w'.ownsRow w.heap.size 3 1 (.slice A n c) y.2.1.length (IM y.2.1)
theorem rnum_none {w w' : World} (hb : Below w.heap.size w w') {b : Bool} {A : Option Addr} {n c : Nat} {x : Int} : RNumO w none (.returned (.tuple #[.agg #[.bool b, .slice A n c, .int .i64 x], .bool false])) w' := ⟨hb, _, _, _, _, _, _, rfl, rfl⟩
def RN1 (w W wx : World) (neg : Bool) (s : List Nat) (o : Option (Bool × List Nat × Int)) (a v e : Value) (r : List Nat) : Prop :=
 ∃ q m : Nat, ∃ D, a = .int .i64 (q : Int) ∧ q ≤ s.length ∧ Hid (s.drop q = r) ∧ e = .int .i64 (-(m : Int)) ∧ m ≤ s.length ∧ wx.ownsRow W.heap.size 3 1 v D.length (IM D) ∧ D.length ≤ 2 * s.length ∧
  Below W.heap.size W wx ∧ Hid (finR neg D m (expR r) = o)
def RN2 (w W wx : World) (neg : Bool) (s : List Nat) (o : Option (Bool × List Nat × Int)) (a v e : Value) : Prop :=
 ∃ q : Nat, ∃ D, ∃ E : Int, a = .int .i64 (q : Int) ∧ q ≤ s.length ∧ e = .int .i64 E ∧ -8000000000 ≤ E ∧ E ≤ 8000000000 ∧ wx.ownsRow W.heap.size 3 1 v D.length (IM D) ∧ D.length ≤ 2 * s.length ∧
  Below W.heap.size W wx ∧ Hid ((if q = s.length then some (normV neg D E) else none) = o)
theorem rdigits_h (s : List Nat) (hs : By s) (hl : s.length < 4294967296) (p : Nat) (hp : p ≤ s.length) : Hid (∀ w, Calls Tryz.prog 80 #[.string (mks s), .int .i64 (p : Int)] w (DigR w (dec ((s.drop p).take (runL (s.drop p)))) (p + runL (s.drop p)))) := fun w => rdig4_any s hs hl p hp w
theorem dec_len (l : List Nat) : (dec l).length = l.length := by simp [dec]
theorem exp_part (neg : Bool) (s : List Nat) (hs : By s) (D1 : List Nat) (m q1 : Nat) (r : List Nat) (hq1 : q1 ≤ s.length) (HR : s.drop q1 = r) :
  ∃ isE : Bool, Hid ((isE = false ∧ Hid (finR neg D1 m (expR r) = if q1 = s.length then some (normV neg D1 (-(m : Int))) else none)) ∨ (isE = true ∧ ∃ t u : List Nat, ∃ mi sg : Bool, ∃ q2 : Nat, q1 < s.length ∧ s.drop (q1 + 1) = t ∧ mi = hasP [45] t ∧ sg = (hasP [45] t || hasP [43] t) ∧ q2 = (if sg then q1 + 2 else q1 + 1) ∧ q2 ≤ s.length ∧ s.drop q2 = u ∧
   finR neg D1 m (expR r) = (if u = [] ∨ runL u ≠ u.length then none else some (normV neg D1 (-(m : Int) + (if mi then -((smallR (dec u) 0 : Nat) : Int) else ((smallR (dec u) 0 : Nat) : Int))))))) ∧
   ((q1 = s.length ∧ isE = false) ∨ ∃ c, c < 256 ∧ (∃ hlt : q1 < s.length, ((mks s)[q1]'(by rw [size_mks]; exact hlt)).toNat = c) ∧ isE = decide (c = 101 ∨ c = 69)) := by
 rcases byte_at s hs q1 hq1 with ⟨h2, h3⟩ | ⟨c, t, h2, h3, hc, hlt, hg⟩
 ·rw [h3] at HR
  subst HR
  refine ⟨false, .inl ⟨rfl, ?_⟩, .inl ⟨h2, rfl⟩⟩
  show _ = _
  rw [if_pos h2]
  simp [expR, finR]
 ·rw [h2] at HR
  subst HR
  by_cases he : c = 101 ∨ c = 69
  ·refine ⟨true, .inr ⟨rfl, t, if (hasP [45] t || hasP [43] t) then t.drop 1 else t, hasP [45] t, _, _, hlt, h3, rfl, rfl, rfl, ?_, ?_, ?_⟩, .inr ⟨c, hc, ⟨hlt, hg⟩, (decide_eq_true he).symm⟩⟩
   ·cases hsg : (hasP [45] t || hasP [43] t) with
    | false => simp; omega
    | true =>
     have : t ≠ [] := by rintro rfl; simp [hasP] at hsg
     have := List.length_pos_iff.2 this
     rw [← h3, List.length_drop] at this
     simp; omega
   ·cases hsg : (hasP [45] t || hasP [43] t) with
    | false => simp only [Bool.false_eq_true, if_false]; exact h3
    | true => simp only [if_true]; rw [← h3, List.drop_drop]
   ·unfold expR
    simp only
    rw [if_pos he]
    have e : (if hasP [45] t = true ∨ hasP [43] t = true then t.drop 1 else t) = (if (hasP [45] t || hasP [43] t) = true then t.drop 1 else t) := by simp only [Bool.or_eq_true]
    rw [e]
    generalize (if (hasP [45] t || hasP [43] t) = true then t.drop 1 else t) = u
    by_cases hb : u = [] ∨ runL u ≠ u.length
    ·rw [if_pos hb, if_pos hb]; rfl
    ·rw [if_neg hb, if_neg hb]; rfl
  ·refine ⟨false, .inl ⟨rfl, ?_⟩, .inr ⟨c, hc, ⟨hlt, hg⟩, (decide_eq_false he).symm⟩⟩
   show _ = _
   rw [if_neg (by omega)]
   unfold expR
   simp only
   rw [if_neg he]
   rfl
set_option maxRecDepth 100000 in
set_option maxHeartbeats 8000000 in
def rnum_shell (s : List Nat) (w : World) (o : Option (Bool × List Nat × Int)) :=
 fun (H1 : Box _) (hs : By s) (hl : s.length < 2000000000) (HV : Hid (rnumV s = o)) => (show Calls Tryz.prog 56 #[.string (mks s)] w (RNumO w o) from by
 have HAr := Lib.hid (Arr.new w 108 [.bool false, .slice none 0 0, .int .i64 0])
 have HBd : Below w.heap.size w (w.alloc (.cells #[.bool false, .slice none 0 0, .int .i64 0] 108)) := (Below.refl _ _).alloc (Nat.le_refl _) _
 change Hid (Arr (w.alloc (.cells #[.bool false, .slice none 0 0, .int .i64 0] 108)) w.heap.size 108 [.bool false, .slice none 0 0, .int .i64 0]) at HAr
 go_enter Tryz.func56, Tryz.ntmps56
 go_upto_region 2 with (fail)
 generalize (w.alloc (.cells #[.bool false, .slice none 0 0, .int .i64 0] 108)) = W at *
 have hlow : w.heap.size < W.heap.size := HAr.out.lt
 obtain ⟨neg, hneg⟩ : ∃ b, Hid (hasP [45] s = b) := ⟨_, rfl⟩
 go_cut [5] (fun v wx => v = .bool neg ∧ W = wx)
 case first =>
  rcases byte_at s hs 0 (Nat.zero_le _) with ⟨h1, h2⟩ | ⟨c, t, h1, h2, hc, hlt, hg⟩
  ·have hn : neg = false := by rw [← hneg.out]; rw [List.drop_zero] at h2; rw [h2]; rfl
   have h0 : ¬ (0 : Int) < s.length := by omega
   clear h1 h2
   go_wp2_with fail
   go_meet
   exact ⟨by rw [hn], rfl⟩
  ·have hn : neg = decide (c = 45) := by rw [← hneg.out]; rw [List.drop_zero] at h1; rw [h1]; simp [hasP]
   have h0 : (0 : Int) < s.length := by omega
   clear h1 h2
   by_cases h45 : c = 45
   ·have h45' : ((c : Int) == 45) = true := by simp; omega
    have hn2 : neg = true := by rw [hn]; simp [h45]
    clear h45 hn
    go_wp2_with fail
    go_meet
    exact ⟨by rw [hn2], rfl⟩
   ·have h45' : ((c : Int) == 45) = false := by simp; omega
    have hn2 : neg = false := by rw [hn]; simp [h45]
    clear h45 hn
    go_wp2_with fail
    go_meet
    exact ⟨by rw [hn2], rfl⟩
 case rest =>
  obtain ⟨rfl, rfl⟩ := hcut
  obtain ⟨p, hp⟩ : ∃ p, p = if neg then 1 else 0 := ⟨_, rfl⟩
  have hps : p ≤ s.length := by
   rw [hp, ← hneg.out]
   split
   ·rename_i h; obtain ⟨t, rfl⟩ := hasP_one h; simp
   ·omega
  have HP := Lib.hid hp
  clear hp
  go_upto_if 24 with (fail)
  go_cut [4] (fun v wx => v = .int .i64 (p : Int) ∧ W = wx)
  case first =>
   cases neg
   all_goals
    go_wp2_with fail
    go_meet
    exact ⟨by rw [HP.out]; rfl, rfl⟩
  case rest =>
   obtain ⟨rfl, rfl⟩ := hcut
   have hpl : p ≤ s.length := hps
   have DG1 := rdigits_h s hs (by omega) p hps
   have hbl : (s.drop p).length = s.length - p := List.length_drop
   have hdrop : ∀ k, s.drop (p + k) = (s.drop p).drop k := fun k => by rw [List.drop_drop]
   have hbV : bodyR neg (s.drop p) = o := by
    rw [← HV.out, HP.out]
    unfold rnumV
    rw [hneg.out]
    cases neg <;> rfl
   obtain ⟨b, hb⟩ : ∃ b, s.drop p = b := ⟨_, rfl⟩
   have HB := Lib.hid hb
   have HDR := Lib.hid hdrop
   rw [hb] at DG1 hbl hbV
   clear hb hdrop
   have hK := runL_le b
   have HBL := Lib.hid hbl
   obtain ⟨K, hKe⟩ : ∃ K, runL b = K := ⟨_, rfl⟩
   have hKs : p + K ≤ s.length := by omega
   clear hK hbl
   have HVb := Lib.hid hbV
   clear hbV HV
   have HK := Lib.hid hKe
   rw [hKe] at DG1
   clear hKe
   go_upto_region 6 with (go_at_call 80; ((with_reducible refine (DG1.out _).mono ?_)); rintro e w5 ⟨⟨v5, rfl, hown5⟩, hb5⟩)
   obtain ⟨bad, hbad⟩ : ∃ x, Hid (decide (K = 0 ∨ (1 < K ∧ b[0]? = some 48)) = x) := ⟨_, Lib.hid rfl⟩
   go_cut [45] (fun v wx => v = .bool bad ∧ w5 = wx)
   case first =>
    by_cases hK0 : K = 0
    ·subst hK0
     have h1 : (((p + 0 : Nat) : Int) == (p : Int)) = true := by simp
     have hx : bad = true := by rw [← hbad.out]; simp
     go_wp2_with fail
     go_meet
     exact ⟨by first | (rw [hx]; done) | exact congrArg Value.bool (by rw [hx, Bool.eq_iff_iff]; simp; try omega), rfl⟩
    ·have h1 : (((p + K : Nat) : Int) == (p : Int)) = false := by simp; omega
     rcases byte_at s hs p hps with ⟨h2, h3⟩ | ⟨c, t, h2, h3, hc, hlt, hg⟩
     ·exfalso; omega
     ·have hb0 : b[0]? = some c := by rw [← HB.out, h2]; rfl
      have hlt' : (p : Int) < s.length := by omega
      clear h2 h3
      by_cases h48 : c = 48
      ·have h48' : ((c : Int) == 48) = true := by simp; omega
       by_cases hK1 : 1 < K
       ·have hx : bad = true := by rw [← hbad.out, hb0, h48]; simp [hK1]
        have hk : (p : Int) + 1 < ((p + K : Nat) : Int) := by omega
        clear hb0 hbad h48
        go_wp2_with fail
        go_meet
        exact ⟨by first | (rw [hx]; done) | exact congrArg Value.bool (by rw [hx, Bool.eq_iff_iff]; simp; try omega), rfl⟩
       ·have hx : bad = false := by rw [← hbad.out]; simp; omega
        have hk : ¬ (p : Int) + 1 < ((p + K : Nat) : Int) := by omega
        clear hb0 hbad h48
        go_wp2_with fail
        go_meet
        exact ⟨by first | (rw [hx]; done) | exact congrArg Value.bool (by rw [hx, Bool.eq_iff_iff]; simp; try omega), rfl⟩
      ·have h48' : ((c : Int) == 48) = false := by simp; omega
       have hx : bad = false := by rw [← hbad.out, hb0]; simp [hK0]; intro _; exact h48
       clear hb0 hbad h48
       go_wp2_with fail
       go_meet
       exact ⟨by first | (rw [hx]; done) | exact congrArg Value.bool (by rw [hx, Bool.eq_iff_iff]; simp; try omega), rfl⟩
   case rest =>
    obtain ⟨rfl, rfl⟩ := hcut
    have hAr5 := Lib.hid (HAr.out.keep hb5)
    cases bad with
    | true =>
     have ho : o = none := by
      rw [← HVb.out]
      unfold bodyR
      rw [HK.out, if_pos (of_decide_eq_true hbad.out)]
     subst ho
     clear HVb
     go_wp2_with ((with_reducible show wpList _ _ _ (Oper.mk none (Op.store 108 (Operand.tmp 2) (Operand.tmp 46)) _ _ _ _ :: _) _ _); go_loud (refine wpList_sr rfl rfl 108 (.tmp 2) (.tmp 46) rfl (w.heap.size) [.bool false, .slice none 0 0, .int .i64 0] rfl rfl 108 _ hAr5.out _ Tryz.sz108 (by first | rfl | simp) (by first | rfl | simp) (by first | rfl | simp [Value.oneCell']) ?_; intro w6 hr6 hg6 hz6))
     have r0 := hr6.out.cell' (i := 0) rfl
     have r1 := hr6.out.cell' (i := 1) rfl
     have r2 := hr6.out.cell' (i := 2) rfl
     refine bodyPost_ret (v := .tuple #[.agg #[.bool false, .slice none 0 0, .int .i64 0], .bool false]) (by simp [results, Tryz.results56, go_sem, r0, r1, r2]) rfl ?_
     exact rnum_none ((HBd.trans (hb5.mono HBd.size)).grown hg6 (Nat.le_trans HBd.size hb5.size) (fun k e => by have := Option.some.inj e; omega))
    | false =>
     have hnb : ¬ (K = 0 ∨ (1 < K ∧ b[0]? = some 48)) := of_decide_eq_false hbad.out
     have hvb : fracR neg (dec (b.take K)) (fracV (b.drop K)) = o := by
      rw [← HVb.out]
      unfold bodyR
      rw [HK.out, if_neg hnb]
     have HF := Lib.hid hvb
     clear hvb hnb hbad HVb
     obtain ⟨q, hq⟩ : ∃ q, p + K = q := ⟨_, rfl⟩
     have hr0 : s.drop q = b.drop K := by rw [← hq, HDR.out K, HB.out]
     have eq1 : (p : Int) + (K : Int) = (q : Int) := by omega
     rw [eq1]
     rw [hq] at hKs
     clear eq1
     have hown : w5.ownsRow W.heap.size 3 1 v5 (dec (b.take K)).length (IM (dec (b.take K))) := hown5
     have hDl : (dec (b.take K)).length ≤ s.length := by rw [dec_len, List.length_take]; have := HBL.out; omega
     generalize dec (b.take K) = D at *
     obtain ⟨r0, hr0e⟩ : ∃ r, b.drop K = r := ⟨_, rfl⟩
     rw [hr0e] at hr0 HF
     have HR0 := Lib.hid hr0
     clear hr0 hr0e hq hown5
     obtain ⟨dot, hdot⟩ : ∃ x, Hid (hasP [46] r0 = x) := ⟨_, Lib.hid rfl⟩
     go_upto_region 10 with (fail)
     go_cut [57] (fun v wx => v = .bool dot ∧ w5 = wx)
     case first =>
      rcases byte_at s hs q hKs with ⟨h2, h3⟩ | ⟨c, t, h2, h3, hc, hlt, hg⟩
      ·have hx : dot = false := by rw [← hdot.out, ← HR0.out, h3]; rfl
       have h4 : ¬ (q : Int) < s.length := by omega
       clear h2 h3
       go_wp2_with fail
       go_meet
       exact ⟨by rw [hx], rfl⟩
      ·have hx : dot = decide (c = 46) := by rw [← hdot.out, ← HR0.out, h2]; simp [hasP]
       have h4 : (q : Int) < s.length := by omega
       clear h2 h3
       by_cases h46 : c = 46
       ·have h46' : ((c : Int) == 46) = true := by simp; omega
        rw [decide_eq_true h46] at hx
        clear h46
        go_wp2_with fail
        go_meet
        exact ⟨by rw [hx], rfl⟩
       ·have h46' : ((c : Int) == 46) = false := by simp; omega
        rw [decide_eq_false h46] at hx
        clear h46
        go_wp2_with fail
        go_meet
        exact ⟨by rw [hx], rfl⟩
     case rest =>
      obtain ⟨rfl, rfl⟩ := hcut
      go_upto_if 57 with (fail)
      go_cut [4, 6, 8] (fun av vv ev wx => ∃ r, RN1 w W wx neg s o av vv ev r)
      case first =>
       cases dot with
       | false =>
        go_wp2_with fail
        go_meet
        refine ⟨r0, q, 0, D, rfl, hKs, HR0, by simp, by omega, hown, by omega, hb5, ?_⟩
        have hf := HF.out
        unfold fracV at hf
        rw [hdot.out] at hf
        show _ = _
        simpa [fracR] using hf
       | true =>
        obtain ⟨t, rfl⟩ := hasP_one hdot.out
        have hql : q < s.length := by
         have h := congrArg List.length HR0.out
         rw [List.length_drop, List.length_cons] at h
         omega
        have ht : s.drop (q + 1) = t := by
         have h := congrArg (List.drop 1) HR0.out
         rw [List.drop_drop] at h
         exact h
        have D2 := rdigits_h s hs (by omega) (q + 1) (by omega)
        have htl : t.length = s.length - (q + 1) := by rw [← ht, List.length_drop]
        have hM := runL_le t
        rw [ht] at D2
        have HT := Lib.hid ht
        have e1 : ((q + 1 : Nat) : Int) = (q : Int) + 1 := by omega
        rw [e1] at D2
        clear ht
        have hf := HF.out
        unfold fracV at hf
        rw [hdot.out, if_pos rfl] at hf
        have hd1 : (46 :: t).drop 1 = t := rfl
        rw [hd1, List.drop_succ_cons] at hf
        obtain ⟨M, hMe⟩ : ∃ M, runL t = M := ⟨_, rfl⟩
        rw [hMe] at D2 hM hf
        have HFF := Lib.hid hf
        clear hf HF hMe
        by_cases hM0 : M = 0
        ·subst hM0
         have ho : o = none := by have h := HFF.out; rw [if_pos rfl] at h; exact h.symm
         subst ho
         have h1 : (((q + 1 + 0 : Nat) : Int) == (q : Int) + 1) = true := by simp
         clear HFF
         go_wp2_with (first | (go_at_call 80; ((with_reducible refine (D2.out _).mono ?_)); rintro e w6 ⟨⟨v6, rfl, hown6⟩, hb6⟩) | ((with_reducible show wpList _ _ _ (Oper.mk none (Op.store 108 (Operand.tmp 2) (Operand.tmp 69)) _ _ _ _ :: _) _ _); go_loud (refine wpList_sr rfl rfl 108 (.tmp 2) (.tmp 69) rfl (w.heap.size) [.bool false, .slice none 0 0, .int .i64 0] rfl rfl 108 _ (hAr5.out.keep hb6) _ Tryz.sz108 (by first | rfl | simp) (by first | rfl | simp) (by first | rfl | simp [Value.oneCell']) ?_; intro w7 hr7 hg7 hz7)))
         have r0 := hr7.out.cell' (i := 0) rfl
         have r1 := hr7.out.cell' (i := 1) rfl
         have r2 := hr7.out.cell' (i := 2) rfl
         refine bodyPost_ret (v := .tuple #[.agg #[.bool false, .slice none 0 0, .int .i64 0], .bool false]) (by simp [results, Tryz.results56, go_sem, r0, r1, r2]) rfl ?_
         have hB6 := (HBd.trans (hb5.mono HBd.size)).trans (hb6.mono (Nat.le_trans HBd.size hb5.size))
         exact rnum_none (hB6.grown hg7 hB6.size (fun k e => by have := Option.some.inj e; omega))
        ·have h1 : (((q + 1 + M : Nat) : Int) == (q : Int) + 1) = false := by simp; omega
         have hdl : (dec (t.take M)).length = M := by rw [dec_len, List.length_take]; omega
         have hne : ∃ u, (IM (dec (t.take M)))[0]? = some u := ⟨_, List.getElem?_eq_getElem (by rw [length_IM, hdl]; omega)⟩
         have HD2 := Lib.hid (show dec (t.take M) = dec (t.take M) from rfl)
         go_upto_region 14 with (go_at_call 80; ((with_reducible refine (D2.out _).mono ?_)); rintro e w6 ⟨⟨v6, rfl, hown6⟩, hb6⟩)
         obtain ⟨A6, c6, rfl, hn6, hc6, hm6, hr6, hf6⟩ := own_rd hown6
         obtain ⟨u0, hu0⟩ := hne
         obtain ⟨ad6, rfl, _⟩ := hr6 0 u0 hu0
         have hown' := own_below hown hb6
         have hb56 := hb5.trans (hb6.mono hb5.size)
         have hn6' : Hid (M = (IM (dec (t.take M))).length) := by show _ = _; rw [length_IM, hdl]
         rw [hdl]
         clear hu0 hown6 hn6
         go_wp2_with (at_builtin; go_loud (refine wpList_apN rfl (.tmp 70) (.tmp 71) 39 rfl W.heap.size 3 _ _ Tryz.underlying39 Tryz.info3 rfl _ D.length _ rfl hown' ad6 M c6 (IM (dec (t.take M))) rfl hn6' hr6 (IM_one _) (by unfold maxLen; omega) (by omega) (by have := hb5.size; have := hb6.size; omega) ?_; intro v7 w7 hown7 hg7))
         go_meet
         have hlen : (D ++ dec (t.take M)).length = D.length + M := by rw [List.length_append, hdl]
         refine ⟨t.drop M, q + 1 + M, M, D ++ dec (t.take M), i64e (by omega), by omega, ?_, i64e (by omega), by omega, ?_, by omega, ?_, ?_⟩
         ·show _ = _
          rw [← List.drop_drop, HT.out]
         ·rw [hlen, IM_append]; exact hown7
         ·exact Below.grown hb56 hg7 (by have := hb5.size; have := hb6.size; omega) (fun k e => (hown'.lt k e).1)
         ·have h := HFF.out
          rw [if_neg hM0] at h
          exact h
      case rest =>
       obtain ⟨r, q1, m, D1, rfl, hq1, HR, rfl, hm, hown1, hDl1, hbw, HF1⟩ := hcut
       obtain ⟨w8, hw8⟩ : ∃ x, x = wc := ⟨_, rfl⟩
       subst hw8
       obtain ⟨vv, hvv⟩ : ∃ x, x = u6 := ⟨_, rfl⟩
       subst hvv
       clear HF hown hDl hKs HR0 hdot hb5 DG1 HBL HK HB HDR hpl hps HP hneg
       have hAr8 := Lib.hid (HAr.out.keep hbw)
       clear hAr5 hAr8
       revert u3 u9 u10 u16 u17 u18 u19 u20 u21 u22 u23 u24 u25 u26 u27 u28 u29 u30 u31 u32 u33 u34 u35 u36 u37 u38 u39 u40 u41 u42 u43 u44 u45 u46 u47 u48 u49 u50 u51 u52 u53 u54 u55 u56 u57 u58 u59 u60 u61 u62 u63 u64 u65 u66 u67 u68 u69 u70 u71 u72 u73 u74 u75 u76 u77 u78 u79 u80 u81 u82 u83 u84 u85 u86 u87 u88 u89 u90 u91 u92 u93 u94 u95 u96 u97 u98 u99 u100 u101 u102 u103 u104 u105 u106 u107 u108 u109 u110 u111 u112 u113 u114 u115 u116 u117 u118 u119 u120 u121 u122 u123 u124 u125 u126 u127 u128 u129 u130 u131 u132 u133 u134 u135 u136 u137 u138 u139 u140 u141 u142 u143 u144 u145 u146 u147 u148 u149 u150 u151 u152 u153 u154
       rename_i K2 hK2
       revert K2 neg q r q1 m D1 w8 vv W
       exact H1.out)
end Go.Proofs.YtbdnamcjhndpjaaGreatDoor
