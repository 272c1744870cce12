/- The walk of Numeral of the reference's decimal: the exponent, the end. -/
import Derived.Test.YtbdnamcjhndpjaaGreatDoorMQd
set_option linter.unusedVariables false
set_option linter.unusedSimpArgs false
set_option linter.defProp false
set_option linter.constructorNameAsVariable false
namespace Go.Proofs.YtbdnamcjhndpjaaGreatDoor
open Go.RowKit
set_option maxRecDepth 100000 in
set_option maxHeartbeats 8000000 in
theorem rnum_tail (s : List Nat) (hs : By s) (hl : s.length < 2000000000) (w : World) (o : Option (Bool × List Nat × Int)) : Arg1 (rnum_shell s w o) := by
 intro W HBd HAr hlow neg q K2 hK2 r q1 m D1 hq1 HR hm hDl1 HF1 w8 hbw vv hown1
 intros
 have hAr8 := Lib.hid (HAr.out.keep hbw)
 have hcs : _ := exp_part neg s hs D1 m q1 r hq1 HR.out
 obtain ⟨isE, hE, hcs⟩ := hcs
 go_upto_region 17 with (fail)
 go_cut [92] (fun v wx => v = .bool isE ∧ w8 = wx)
 case first =>
  rcases hcs with ⟨h2, hx⟩ | ⟨c, hc, ⟨hlt, hg⟩, hx⟩
  ·have h4 : ¬ (q1 : Int) < s.length := by omega
   clear h2
   go_wp2_with fail
   go_meet
   exact ⟨by rw [hx], rfl⟩
  ·have h4 : (q1 : Int) < s.length := by omega
   by_cases h101 : c = 101
   ·have h1 : ((c : Int) == 101) = true := by simp; omega
    have hx2 : isE = true := by rw [hx]; simp [h101]
    clear h101 hx
    go_wp2_with fail
    go_meet
    exact ⟨by rw [hx2], rfl⟩
   ·have h1 : ((c : Int) == 101) = false := by simp; omega
    have hx2 : isE = decide (c = 69) := by rw [hx]; simp [h101]
    clear hx
    by_cases h69 : c = 69
    ·have h3 : ((c : Int) == 69) = true := by simp; omega
     rw [decide_eq_true h69] at hx2
     clear h69 h101
     go_wp2_with fail
     go_meet
     exact ⟨by rw [hx2], rfl⟩
    ·have h3 : ((c : Int) == 69) = false := by simp; omega
     rw [decide_eq_false h69] at hx2
     clear h69 h101
     go_wp2_with fail
     go_meet
     exact ⟨by rw [hx2], rfl⟩
 case rest =>
  obtain ⟨rfl, rfl⟩ := hcut
  clear hcs
  have hB8 : Below w.heap.size w w8 := HBd.trans (hbw.mono HBd.size)
  go_upto_if 92 with (fail)
  go_cut [4, 8] (fun av ev wx => RN2 w W wx neg s o av vv ev)
  case first =>
   rcases hE.out with ⟨rfl, hf⟩ | ⟨rfl, t, u, mi, sg, q2, hq1l, ht, hmi, hsg, hq2, hq2l, hu, hf⟩
   ·have hff := hf.out
    rw [HF1.out] at hff
    have HFF := Lib.hid hff
    clear hE hf hff HF1
    go_wp2_with fail
    go_meet
    exact ⟨q1, D1, -(m : Int), rfl, hq1, rfl, by omega, by omega, hown1, hDl1, hbw, Lib.hid HFF.out.symm⟩
   ·rw [HF1.out] at hf
    have HFF := Lib.hid hf
    have HU := Lib.hid hu
    have HMI := Lib.hid hmi
    have HSG := Lib.hid hsg
    have HT := Lib.hid ht
    have HQ2 := Lib.hid hq2
    clear hE hf HF1 hu hmi hsg ht hq2
    have h4 : (q1 : Int) < s.length := by omega
    go_upto_region 20 with (fail)
    go_cut [110] (fun v wx => v = .bool sg ∧ w8 = wx)
    case first =>
     rcases byte_at s hs (q1 + 1) (by omega) with ⟨h2, h3⟩ | ⟨c, t2, h2, h3, hc, hlt, hg⟩
     ·have hx : sg = false := by rw [HSG.out, ← HT.out, h3]; rfl
      have h5 : ¬ (q1 : Int) + 1 < s.length := by omega
      clear h2 h3
      go_wp2_with fail
      go_meet
      exact ⟨by rw [hx], rfl⟩
     ·have hx : sg = decide (c = 45 ∨ c = 43) := by rw [HSG.out, ← HT.out, h2]; simp [hasP]
      have h5 : (q1 : Int) + 1 < s.length := by omega
      clear h2 h3
      by_cases h43 : c = 43
      ·have h1 : ((c : Int) == 43) = true := by simp; omega
       have hx2 : sg = true := by rw [hx]; simp [h43]
       clear h43 hx
       go_wp2_with fail
       go_meet
       exact ⟨by rw [hx2], rfl⟩
      ·have h1 : ((c : Int) == 43) = false := by simp; omega
       have hx2 : sg = decide (c = 45) := by rw [hx]; simp [h43]
       clear hx
       by_cases h45 : c = 45
       ·have h3 : ((c : Int) == 45) = true := by simp; omega
        rw [decide_eq_true h45] at hx2
        clear h45 h43
        go_wp2_with fail
        go_meet
        exact ⟨by rw [hx2], rfl⟩
       ·have h3 : ((c : Int) == 45) = false := by simp; omega
        rw [decide_eq_false h45] at hx2
        clear h45 h43
        go_wp2_with fail
        go_meet
        exact ⟨by rw [hx2], rfl⟩
    case rest =>
     obtain ⟨rfl, rfl⟩ := hcut
     obtain ⟨gs, hgs⟩ : ∃ gs : Int, Hid ((if mi then -1 else 1) = gs) := ⟨_, Lib.hid rfl⟩
     go_upto_if 110 with (fail)
     go_cut [4, 11] (fun av gv wx => av = .int .i64 (q2 : Int) ∧ gv = .int .i64 gs ∧ w8 = wx)
     case first =>
      cases sg with
      | false =>
       have hm0 : mi = false := by
        have h := HSG.out
        rw [← HMI.out] at h
        cases mi
        ·rfl
        ·simp at h
       have h5 := HQ2.out
       rw [if_neg (by simp)] at h5
       have h6 : (q1 : Int) + 1 = (q2 : Int) := by omega
       clear h5
       go_wp2_with fail
       go_meet
       exact ⟨i64e (by omega), by rw [← hgs.out, hm0]; rfl, rfl⟩
      | true =>
       have h5 := HQ2.out
       rw [if_pos rfl] at h5
       rcases byte_at s hs (q1 + 1) (by omega) with ⟨h2, h3⟩ | ⟨c, t2, h2, h3, hc, hlt, hg⟩
       ·exfalso; have h := HSG.out; rw [← HT.out, h3] at h; simp [hasP] at h
       ·have hx : mi = decide (c = 45) := by rw [HMI.out, ← HT.out, h2]; simp [hasP]
        have h6 : (q1 : Int) + 1 < s.length := by omega
        clear h2 h3
        by_cases h45 : c = 45
        ·have h1 : ((c : Int) == 45) = true := by simp; omega
         rw [decide_eq_true h45] at hx
         clear h45
         have h7 : (q2 : Int) = (q1 : Int) + 2 := by omega
         clear h5
         go_wp2_with fail
         go_meet
         exact ⟨i64e (by omega), by rw [← hgs.out, hx]; rfl, rfl⟩
        ·have h1 : ((c : Int) == 45) = false := by simp; omega
         rw [decide_eq_false h45] at hx
         clear h45
         have h7 : (q2 : Int) = (q1 : Int) + 2 := by omega
         clear h5
         go_wp2_with fail
         go_meet
         exact ⟨i64e (by omega), by rw [← hgs.out, hx]; rfl, rfl⟩
     case rest =>
      obtain ⟨rfl, rfl, rfl⟩ := hcut
      have DG3 := rdigits_h s hs (by omega) q2 hq2l
      rw [HU.out] at DG3
      have hul : u.length = s.length - q2 := by rw [← HU.out, List.length_drop]
      have hUl := runL_le u
      obtain ⟨U, hUe⟩ : ∃ U, runL u = U := ⟨_, rfl⟩
      have hff := HFF.out
      rw [hUe] at DG3 hUl hff
      by_cases hU0 : U = 0
      ·have ho : o = none := by
        refine hff.trans (if_pos ?_)
        by_cases hu0 : u = []
        ·exact .inl hu0
        ·exact .inr (by have := List.length_pos_iff.2 hu0; omega)
       subst ho
       have h1 : (((q2 + U : Nat) : Int) == (q2 : Int)) = true := by simp [hU0]
       clear hff HFF hUe hul hU0
       go_wp2_with (first | (go_at_call 80; ((with_reducible refine (DG3.out _).mono ?_)); rintro e w6 ⟨⟨v6, rfl, hown6⟩, hb6⟩) | ((with_reducible show wpList _ _ _ (Oper.mk none (Op.store 108 (Operand.tmp 2) (Operand.tmp 126)) _ _ _ _ :: _) _ _); go_loud (refine wpList_sr rfl rfl 108 (.tmp 2) (.tmp 126) rfl (w.heap.size) [.bool false, .slice none 0 0, .int .i64 0] rfl rfl 108 _ (hAr8.out.keep hb6) _ Tryz.sz108 (by first | rfl | simp) (by first | rfl | simp) (by first | rfl | simp [Value.oneCell']) ?_; intro w7 hr7 hg7 hz7)))
       have r0 := hr7.out.cell' (i := 0) rfl
       have r1 := hr7.out.cell' (i := 1) rfl
       have r2 := hr7.out.cell' (i := 2) rfl
       refine bodyPost_ret (v := .tuple #[.agg #[.bool false, .slice none 0 0, .int .i64 0], .bool false]) (by simp [results, Tryz.results56, go_sem, r0, r1, r2]) rfl ?_
       have hB6 := hB8.trans (hb6.mono hB8.size)
       exact rnum_none (hB6.grown hg7 hB6.size (fun k e => by have := Option.some.inj e; omega))
      ·have h1 : (((q2 + U : Nat) : Int) == (q2 : Int)) = false := by simp; omega
       obtain ⟨x, hx⟩ : ∃ x, dec (u.take U) = x := ⟨_, rfl⟩
       have hxl : x.length = U := by rw [← hx, dec_len, List.length_take]; omega
       have hxt : ∀ c ∈ x, c < 10 := by
        intro c hc
        rw [← hx] at hc
        unfold dec at hc
        obtain ⟨y, hy, rfl⟩ := List.mem_map.1 hc
        have := runL_all u y (by rw [hUe]; exact hy)
        omega
       rw [hx] at DG3
       obtain ⟨N, hN⟩ : ∃ N, smallR x 0 = N := ⟨_, rfl⟩
       have hNl : N ≤ 1000000 := by rw [← hN]; exact smallR_le _ _ (by omega)
       have hfin : Hid ((if q2 + U = s.length then some (normV neg D1 (-(m : Int) + (if mi then -((N : Nat) : Int) else ((N : Nat) : Int)))) else none) = o) := by
        show _ = _
        refine Eq.trans ?_ hff.symm
        by_cases he : q2 + U = s.length
        ·have hUu : U = u.length := by omega
         have hxu : dec u = x := by rw [← hx, hUu, List.take_length]
         have hune : u ≠ [] := by intro h; rw [h] at hUu; exact hU0 (by simpa using hUu)
         have hno : ¬ (u = [] ∨ U ≠ u.length) := fun h => h.elim (fun h => hune h) (fun h => h hUu)
         rw [if_pos he, if_neg hno, hxu, hN]
        ·have hyes : u = [] ∨ U ≠ u.length := .inr (by omega)
         rw [if_neg he, if_pos hyes]
       have HN0 : Hid (smallR (x.drop 0) 0 = N) := hN
       have HXT := Lib.hid hxt
       clear hff HFF hUe hx hN hxt
       go_upto_region 29 with (go_at_call 80; ((with_reducible refine (DG3.out _).mono ?_)); rintro e w6 ⟨⟨v6, rfl, hown6⟩, hb6⟩)
       obtain ⟨A6, c6, rfl, hn6, hc6, hm6, hr6, hf6⟩ := own_rd hown6
       have HR6 := Lib.hid hr6
       have hbw6 := hbw.trans (hb6.mono hbw.size)
       have hown' := own_below hown1 hb6
       rw [hxl]
       clear hr6 hn6 hown6
       go_loopw [14, 15] (fun nv iv wr => ∃ k n : Nat, k ≤ U ∧ n ≤ 1000000 ∧ nv = .int .i64 (n : Int) ∧ iv = .int .i64 (k : Int) ∧ Hid (smallR (x.drop k) n = N) ∧ w6 = wr) (fun _ iv _ => U - (intOf iv).toNat)
       case atStart => exact ⟨0, 0, by omega, by omega, rfl, rfl, HN0, rfl⟩
       case round =>
        obtain ⟨k, n, hk, hn, rfl, rfl, hsm, rfl⟩ := hrel
        clear HN0
        by_cases hkU : k < U
        ·obtain ⟨d, hd⟩ : ∃ d, x[k]? = some d := ⟨_, List.getElem?_eq_getElem (by omega)⟩
         have hd10 := HXT.out d (List.mem_of_getElem? hd)
         obtain ⟨ad, rfl, hcell⟩ := HR6.out.at_ (IM_get hd)
         have hst := hsm.out
         rw [drop_cons hd, smallR] at hst
         have HS := Lib.hid hst
         clear hst hsm hd
         by_cases hlt : 10 * n + d < 1000000
         ·have HS2 : Hid (smallR (x.drop (k + 1)) (10 * n + d) = N) := by have h := HS.out; rw [if_pos hlt] at h; exact h
          clear HS
          go_wp2
          go_roundw
          case rel => exact ⟨k + 1, 10 * n + d, by omega, by omega, i64e (by omega), i64e (by omega), HS2, trivial⟩
          case measure => simp [intOf]; omega
         ·have HS2 : Hid (smallR (x.drop (k + 1)) 1000000 = N) := by have h := HS.out; rw [if_neg hlt] at h; exact h
          clear HS
          go_wp2
          go_roundw
          case rel => exact ⟨k + 1, 1000000, by omega, by omega, i64e (by omega), i64e (by omega), HS2, trivial⟩
          case measure => simp [intOf]; omega
        ·obtain rfl : k = U := by omega
         have hnN : n = N := by
          have h := hsm.out
          rw [List.drop_eq_nil_of_le (by omega), smallR] at h
          exact h
         subst hnN
         clear hsm
         cases mi with
         | true =>
          obtain rfl : -1 = gs := hgs.out
          go_wp2_with fail
          go_meet
          exact ⟨q2 + k, D1, -(m : Int) + -(n : Int), i64e (by omega), by omega, i64e (by omega), by omega, by omega, hown', hDl1, hbw6, hfin⟩
         | false =>
          obtain rfl : 1 = gs := hgs.out
          go_wp2_with fail
          go_meet
          exact ⟨q2 + k, D1, -(m : Int) + (n : Int), i64e (by omega), by omega, i64e (by omega), by omega, by omega, hown', hDl1, hbw6, hfin⟩
  case rest =>
   obtain ⟨q, D, E, rfl, hq, rfl, hE1, hE2, hown, hDl, hbf, HF⟩ := hcut
   obtain ⟨w9, hw9⟩ : ∃ x, x = wc := ⟨_, rfl⟩
   subst hw9
   clear hE HF1 hq1 HR hm hown1 hDl1 hB8
   have hB9 : Below w.heap.size w w9 := HBd.trans (hbf.mono HBd.size)
   obtain ⟨A9, c9, rfl, hn9, hc9, hm9, hr9, hf9⟩ := own_rd hown
   have hn9' : Hid (D.length = D.length) := rfl
   have DN : ∀ w1, Below w9.heap.size w9 w1 → Calls Tryz.prog 81 #[.bool neg, .slice A9 D.length c9, .int .i64 E] w1 (NumS w1 (normV neg D E)) := fun w1 hb1 => rnorm_any neg A9 D.length c9 D E w1 rfl (hr9.keep hb1) (by omega) (by omega) (by omega)
   have DNH := Lib.hid (DN w9 (Below.refl _ _))
   have HF2 := HF.out
   have hAr9 := Lib.hid (HAr.out.keep hbf)
   clear DN HF hr9 hf9 hn9 hn9' hown
   generalize normV neg D E = z at *
   by_cases hqs : q = s.length
   ·have h1 : ((q : Int) == s.length) = true := by simp [hqs]
    rw [if_pos hqs] at HF2
    subst HF2
    clear hqs
    go_wp2_with (first | (go_at_call 81; ((with_reducible refine DNH.out.mono ?_)); rintro e w10 ⟨v10, rfl, hown10, hb10⟩; obtain ⟨A10, c10, rfl, _⟩ := own_rd hown10) | ((with_reducible show wpList _ _ _ (Oper.mk none (Op.store 108 (Operand.tmp 2) (Operand.tmp 150)) _ _ _ _ :: _) _ _); go_loud (refine wpList_sr rfl rfl 108 (.tmp 2) (.tmp 150) rfl (w.heap.size) [.bool z.1, .slice A10 z.2.1.length c10, .int .i64 z.2.2] rfl rfl 108 _ (hAr9.out.keep hb10) _ Tryz.sz108 (by first | rfl | simp) (by first | rfl | simp) (by first | rfl | simp [Value.oneCell']) ?_; intro w11 hr11 hg11 hz11)))
    have r0 := hr11.out.cell' (i := 0) rfl
    have r1 := hr11.out.cell' (i := 1) rfl
    have r2 := hr11.out.cell' (i := 2) rfl
    refine bodyPost_ret (v := .tuple #[.agg #[.bool z.1, .slice A10 z.2.1.length c10, .int .i64 z.2.2], .bool true]) (by simp [results, Tryz.results56, go_sem, r0, r1, r2]) rfl ?_
    have hB10 := hB9.trans (hb10.mono hB9.size)
    have hl9 := hbf.size
    refine ⟨hB10.grown hg11 hB10.size (fun k e => by have := Option.some.inj e; omega), _, _, _, _, _, _, rfl, rfl, rfl, rfl, ?_⟩
    exact own_base (own_same hown10 (fun g hg => hg11.block g (hown10.lt g hg).2 (fun e => by have := Option.some.inj e; have := (hown10.lt g hg).1; omega))) (by omega)
   ·have h1 : ((q : Int) == s.length) = false := by simp; omega
    rw [if_neg hqs] at HF2
    subst HF2
    clear hqs
    go_wp2_with (first | (go_at_call 81; ((with_reducible refine DNH.out.mono ?_)); rintro e w10 ⟨v10, rfl, hown10, hb10⟩; obtain ⟨A10, c10, rfl, _⟩ := own_rd hown10) | ((with_reducible show wpList _ _ _ (Oper.mk none (Op.store 108 (Operand.tmp 2) (Operand.tmp 150)) _ _ _ _ :: _) _ _); go_loud (refine wpList_sr rfl rfl 108 (.tmp 2) (.tmp 150) rfl (w.heap.size) [.bool z.1, .slice A10 z.2.1.length c10, .int .i64 z.2.2] rfl rfl 108 _ (hAr9.out.keep hb10) _ Tryz.sz108 (by first | rfl | simp) (by first | rfl | simp) (by first | rfl | simp [Value.oneCell']) ?_; intro w11 hr11 hg11 hz11)))
    have r0 := hr11.out.cell' (i := 0) rfl
    have r1 := hr11.out.cell' (i := 1) rfl
    have r2 := hr11.out.cell' (i := 2) rfl
    refine bodyPost_ret (v := .tuple #[.agg #[.bool z.1, .slice A10 z.2.1.length c10, .int .i64 z.2.2], .bool false]) (by simp [results, Tryz.results56, go_sem, r0, r1, r2]) rfl ?_
    have hB10 := hB9.trans (hb10.mono hB9.size)
    exact rnum_none (hB10.grown hg11 hB10.size (fun k e => by have := Option.some.inj e; omega))
theorem rnumeral_any (s : List Nat) (hs : By s) (hl : s.length < 2000000000) (w : World) : Calls Tryz.prog 56 #[.string (mks s)] w (RNumO w (rnumV s)) :=
 rnum_shell s w (rnumV s) ⟨rnum_tail s hs hl w (rnumV s)⟩ hs hl (Lib.hid rfl)
end Go.Proofs.YtbdnamcjhndpjaaGreatDoor
