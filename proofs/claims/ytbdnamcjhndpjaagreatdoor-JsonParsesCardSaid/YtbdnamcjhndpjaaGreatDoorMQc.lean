/- The walk of digits of the reference's decimal. -/
import Derived.Test.YtbdnamcjhndpjaaGreatDoorMC
import Derived.Test.YtbdnamcjhndpjaaGreatDoorMG
import Derived.Test.YtbdnamcjhndpjaaGreatDoorMQa
import Derived.Test.YtbdnamcjhndpjaaGreatDoorMD
import Derived.Test.YtbdnamcjhndpjaaGreatDoorMQb
set_option linter.unusedVariables false
set_option linter.unusedSimpArgs false
set_option linter.defProp false
set_option linter.constructorNameAsVariable false
namespace Go.Proofs.YtbdnamcjhndpjaaGreatDoor
open Go.RowKit
def IM (ds : List Nat) : List Value := ds.map fun (d : Nat) => Value.int .i64 (d : Int)
theorem length_IM (ds : List Nat) : (IM ds).length = ds.length := by simp [IM]
theorem IM_get {ds : List Nat} {k d : Nat} (h : ds[k]? = some d) : (IM ds)[k]? = some (.int .i64 (d : Int)) := by simp [IM, h]
theorem IM_append (a b : List Nat) : IM (a ++ b) = IM a ++ IM b := by simp [IM]
theorem IM_one (ds : List Nat) : ∀ u ∈ IM ds, u.oneCell' = true := by
 intro u hu
 obtain ⟨_, _, rfl⟩ := List.mem_map.1 hu
 rfl
def DigR (w : World) (l : List Nat) (p : Nat) (e : Ending) (w' : World) : Prop :=
 (∃ v, e = .returned (.tuple #[v, .int .i64 (p : Int)]) ∧ w'.ownsRow w.heap.size 3 1 v l.length (IM l)) ∧ Below w.heap.size w w'
theorem run_step {s : List Nat} {k c N : Nat} (hc : s[k]? = some c) (h : k + runL (s.drop k) = N) : (48 ≤ c ∧ c ≤ 57 ∧ k + 1 + runL (s.drop (k + 1)) = N) ∨ ((c < 48 ∨ 57 < c) ∧ k = N) := by
 rw [drop_cons hc, runL] at h
 by_cases hd : 48 ≤ c ∧ c ≤ 57
 ·rw [if_pos hd] at h; exact .inl ⟨hd.1, hd.2, by omega⟩
 ·rw [if_neg hd] at h; exact .inr ⟨by omega, by omega⟩
set_option maxRecDepth 8000 in
set_option maxHeartbeats 2000000 in
theorem rdig4_any (s : List Nat) (hs : By s) (hl : s.length < 4294967296) (p : Nat) (hp : p ≤ s.length) (w : World) :
  Calls Tryz.prog 80 #[.string (mks s), .int .i64 (p : Int)] w (DigR w (dec ((s.drop p).take (runL (s.drop p)))) (p + runL (s.drop p))) := by
 obtain ⟨t, ht⟩ : ∃ t, s.drop p = t := ⟨_, rfl⟩
 have htl : t.length = s.length - p := by rw [← ht, List.length_drop]
 rw [ht]
 generalize hN : runL t = N
 have HN : Hid (0 + runL (t.drop 0) = N) := by show _ = _; simpa using hN
 have hNl : N ≤ t.length := hN ▸ runL_le t
 have HT := Lib.hid ht
 clear hN ht
 go_enter Tryz.func80, Tryz.ntmps80
 go_wp2
 go_loopw [1, 6] (fun iv ov wr => ∃ k : Nat, k ≤ t.length ∧ iv = .int .i64 ((p + k : Nat) : Int) ∧ Hid (k + runL (t.drop k) = N) ∧ wr.ownsRow w.heap.size 3 1 ov k (IM (dec (t.take k))) ∧ Below w.heap.size w wr) (fun iv _ _ => s.length - (intOf iv).toNat)
 case atStart => exact ⟨0, by omega, by simp, HN, World.ownsRow_nil _ _ _ _, Below.refl _ _⟩
 case round =>
  obtain ⟨k, hk, rfl, hq, hown, hbw⟩ := hrel
  clear HN
  obtain ⟨i, hi⟩ : ∃ i, p + k = i := ⟨_, rfl⟩
  rw [hi]
  have hcases : (∃ hlt : i < s.length, ∃ c, ((mks s)[i]'(by rw [size_mks]; exact hlt)).toNat = c ∧ c < 256 ∧ 48 ≤ c ∧ c ≤ 57 ∧ k < t.length ∧ Hid (dec (t.take (k + 1)) = dec (t.take k) ++ [c - 48]) ∧ Hid (k + 1 + runL (t.drop (k + 1)) = N)) ∨
    (k = N ∧ ((∃ hlt : i < s.length, ∃ c, ((mks s)[i]'(by rw [size_mks]; exact hlt)).toNat = c ∧ c < 256 ∧ (c < 48 ∨ 57 < c)) ∨ ¬ (i : Int) < s.length)) := by
   by_cases hlt : i < s.length
   ·obtain ⟨c, hc⟩ : ∃ c, s[i]? = some c := ⟨_, List.getElem?_eq_getElem hlt⟩
    have gc := get_mks hc (hs.get hc) (by rw [size_mks]; exact hlt)
    have hct : t[k]? = some c := by rw [← HT.out, List.getElem?_drop, hi]; exact hc
    rcases run_step hct hq.out with ⟨h1, h2, h3⟩ | ⟨h1, h2⟩
    ·refine .inl ⟨hlt, c, gc, hs.get hc, h1, h2, by omega, ?_, h3⟩
     show _ = _
     rw [List.take_add_one, hct]
     simp [dec]
    ·exact .inr ⟨h2, .inl ⟨hlt, c, gc, hs.get hc, h1⟩⟩
   ·have : k = t.length := by omega
    subst this
    have h := hq.out
    rw [List.drop_length, runL] at h
    exact .inr ⟨by omega, .inr (by omega)⟩
  clear hq
  rcases hcases with ⟨hlt, c, gc, hcb, h1, h2, hkt, hdec, hq⟩ | ⟨rfl, hstop⟩
  ·have e0 : (c : Int) - 48 = ((c - 48 : Nat) : Int) := by omega
   go_wp2_with (at_builtin; go_loud (refine wpList_ap1 rfl (.tmp 23) (.tmp 29) 39 rfl w.heap.size 3 _ _ Tryz.underlying39 Tryz.info3 rfl _ k _ rfl (hown.alloc _) ⟨wr.heap.size, 0, none⟩ _ (.int .i64 ((c - 48 : Nat) : Int)) rfl (cell_new _ _ _) rfl (by unfold maxLen; omega) (by omega) (by have := hbw.size; simp; omega) ?_; intro v9 w9 hown9 hg9))
   go_roundw
   case rel =>
    refine ⟨k + 1, by omega, i64e (by omega), hq, ?_, ?_⟩
    ·rw [hdec.out, IM_append]; exact hown9
    ·exact Below.grown (hbw.alloc (by have := hbw.size; omega) _) hg9 (by have := hbw.size; simp; omega) (fun k e => (hown.lt k e).1)
   case measure => simp [intOf]; omega
  ·have hkl : k = (dec (t.take k)).length := by simp [dec]; omega
   have hown2 := Eq.mp (congrArg (fun m => wr.ownsRow w.heap.size 3 1 _ m (IM (dec (t.take k)))) hkl) hown
   clear hkl
   rcases hstop with ⟨hlt, c, gc, hcb, h1 | h1⟩ | hge
   all_goals
    go_wp2
    go_ret2
    exact ⟨⟨_, (by first | rfl | (rw [hi]; rfl)), hown2⟩, hbw⟩
end Go.Proofs.YtbdnamcjhndpjaaGreatDoor
namespace Go.Proofs.YtbdnamcjhndpjaaGreatDoor
open Go.RowKit
theorem Tryz.sz108 : (Tryz.prog.info? 108).map (·.size) = some 3 := by kernel_rfl
def NumS (w : World) (x : Bool × List Nat × Int) (e : Ending) (w' : World) : Prop :=
 ∃ v, e = .returned (.agg #[.bool x.1, v, .int .i64 x.2.2]) ∧ w'.ownsRow w.heap.size 3 1 v x.2.1.length (IM x.2.1) ∧ Below w.heap.size w w'
theorem own_base {w : World} {b b' : Nat} {e : TypeId} {k : Nat} {v : Value} {n : Nat} {xs : List Value} (h : w.ownsRow b' e k v n xs) (hb : b ≤ b') : w.ownsRow b e k v n xs := by
 refine ⟨h.1, ?_⟩
 rcases h.2 with h2 | ⟨g, cap, cur, h1, h2, h3⟩
 ·exact .inl h2
 ·exact .inr ⟨g, cap, cur, h1, by omega, h3⟩
set_option maxRecDepth 8000 in
set_option maxHeartbeats 4000000 in
theorem rnorm_any (neg : Bool) (A : Option Addr) (n c : Nat) (d : List Nat) (ex : Int) (w : World) (hn : Hid (n = d.length)) (hr : Rd w A (IM d)) (hm : n ≤ 4294967296)
  (h1 : -4398046511104 ≤ ex) (h2 : ex ≤ 4398046511104) :
  Calls Tryz.prog 81 #[.bool neg, .slice A n c, .int .i64 ex] w (NumS w (normV neg d ex)) := by
 generalize hv : normV neg d ex = v
 have HV := Lib.hid hv
 clear hv
 have HAr := Lib.hid (Arr.new w 108 [.bool false, .slice none 0 0, .int .i64 0])
 have HBd : Below w.heap.size w (w.alloc (.cells #[.bool false, .slice none 0 0, .int .i64 0] 108)) := (Below.refl _ _).alloc (Nat.le_refl _) _
 have HRD := Lib.hid (hr.alloc (.cells #[.bool false, .slice none 0 0, .int .i64 0] 108))
 clear hr
 change Hid (Arr (w.alloc (.cells #[.bool false, .slice none 0 0, .int .i64 0] 108)) w.heap.size 108 [.bool false, .slice none 0 0, .int .i64 0]) at HAr
 go_enter Tryz.func81, Tryz.ntmps81
 go_upto_region 2 with (fail)
 generalize (w.alloc (.cells #[.bool false, .slice none 0 0, .int .i64 0] 108)) = W at *
 have hlow : w.heap.size < W.heap.size := HAr.out.lt
 go_loopw [7] (fun fv wr => ∃ k : Nat, k ≤ n ∧ fv = .int .i64 (k : Int) ∧ Hid (lead 0 (d.drop k) = lead 0 d) ∧ ∃ j, wr = W.drewN j) (fun fv _ => n - (intOf fv).toNat)
 case atStart => exact ⟨0, Nat.zero_le _, rfl, rfl, by first | exact q0 _ | exact q1 _ _⟩
 case round =>
  obtain ⟨k, hk, rfl, hlead, j, rfl⟩ := hrel
  have hcase : (k < n ∧ d[k]? = some 0) ∨ (k < n ∧ ∃ x, d[k]? = some x ∧ x ≠ 0) ∨ k = n := by
   by_cases hlt : k < n
   ·obtain ⟨x, hx⟩ : ∃ x, d[k]? = some x := ⟨_, List.getElem?_eq_getElem (by have := hn.out; omega)⟩
    by_cases hx0 : x = 0
    ·subst hx0; exact .inl ⟨hlt, hx⟩
    ·exact .inr (.inl ⟨hlt, x, hx, hx0⟩)
   ·exact .inr (.inr (by omega))
  rcases hcase with ⟨hlt, hx⟩ | hcase
  ·obtain ⟨ad, rfl, hcell⟩ := HRD.out.at_ (IM_get hx)
   have hdr := drop_cons hx
   have hl2 : lead 0 (d.drop (k + 1)) = lead 0 d := by rw [← hlead.out, hdr, lead_eq]
   have HL := Lib.hid hl2
   clear hdr hl2 hx hlead
   go_wp2
   try (go_quiet (fail); go_wp2)
   go_roundw
   case rel => exact ⟨k + 1, by omega, i64e (by omega), HL, by first | exact q0 _ | exact q1 _ _ | exact q2 _ _ _ | exact q3 _ _ _ _⟩
   case measure => simp [intOf]; omega
  ·have hfin : Hid (lead 0 d = d.drop k) := by
    show _ = _
    rcases hcase with ⟨_, x, hx, hx0⟩ | rfl
    ·rw [← hlead.out, drop_cons hx, lead_ne hx0]
    ·rw [← hlead.out, List.drop_eq_nil_of_le (by have := hn.out; omega)]; rfl
   have HV2 : Hid ((if tlen (d.drop k) = 0 then (false, [], 0) else (neg, (d.drop k).take (tlen (d.drop k)), ex + (((d.drop k).length - tlen (d.drop k) : Nat) : Int))) = v) := by
    have h := HV.out
    unfold normV at h
    rw [hfin.out] at h
    exact h
   have hstop : (k < n ∧ ∃ ad, A = some ad ∧ ∃ x : Nat, W.cell? (ad.add k) = some (.int .i64 (x : Int)) ∧ ((x : Int) == 0) = false) ∨ ¬ (k : Int) < n := by
    rcases hcase with ⟨hlt, x, hx, hx0⟩ | rfl
    ·obtain ⟨ad, rfl, hcell⟩ := HRD.out.at_ (IM_get hx)
     exact .inl ⟨hlt, ad, rfl, x, hcell, by simp; omega⟩
    ·exact .inr (by omega)
   have hdl : Hid ((d.drop k).length = n - k) := by show _ = _; have := hn.out; simp; omega
   have hget : Hid (∀ j, k < j → j ≤ n → ∃ y ad, (d.drop k)[j - 1 - k]? = some y ∧ A = some ad ∧ W.cell? (ad.add (j - 1)) = some (.int .i64 (y : Int))) := by
    intro j hj1 hj2
    obtain ⟨y, hy⟩ : ∃ y, d[j - 1]? = some y := ⟨_, List.getElem?_eq_getElem (by have := hn.out; omega)⟩
    obtain ⟨ad, e, hcell⟩ := HRD.out.at_ (IM_get hy)
    exact ⟨y, ad, by rw [List.getElem?_drop, show k + (j - 1 - k) = j - 1 by omega]; exact hy, e, hcell⟩
   clear hfin HV hlead hcase
   generalize d.drop k = d1 at *
   rcases hstop with ⟨hlt, ad, rfl, x, hcell, hx0⟩ | hge
   all_goals
    go_wp2
    try (go_quiet (fail); go_wp2)
    go_loopw [2, 8] (fun ev tv wr => ∃ j : Nat, k ≤ j ∧ j ≤ n ∧ tv = .int .i64 (j : Int) ∧ ev = .int .i64 (ex + ((n - j : Nat) : Int)) ∧ Hid (tlen (d1.take (j - k)) = tlen d1) ∧ ∃ i, wr = W.drewN i) (fun _ tv _ => (intOf tv).toNat)
    case atStart => exact ⟨n, by omega, Nat.le_refl _, i64e (by omega), i64e (by omega), by show _ = _; rw [List.take_of_length_le (by have := hdl.out; omega)], by first | exact q0 _ | exact q1 _ _ | exact q2 _ _ _⟩
    case round =>
     obtain ⟨j, hj1, hj2, rfl, rfl, htl, i, rfl⟩ := hrel
     by_cases hj0 : j = k
     ·subst hj0
      have hv1 : v = (false, [], 0) := by
       have h := HV2.out
       rw [if_pos (by rw [← htl.out]; simp [tlen])] at h
       exact h.symm
      subst hv1
      clear HV2 htl
      have hAr2 := Lib.hid (show Arr (W.drewN i) w.heap.size 108 [.bool false, .slice none 0 0, .int .i64 0] from HAr.out)
      go_wp2_with ((with_reducible show wpList _ _ _ (Oper.mk none (Op.store 108 (Operand.tmp 6) (Operand.tmp 43)) _ _ _ _ :: _) _ _); go_loud (refine wpList_sr rfl rfl 108 (.tmp 6) (.tmp 43) rfl (w.heap.size) [.bool false, .slice none 0 0, .int .i64 0] rfl rfl 108 _ hAr2.out _ Tryz.sz108 (by first | rfl | simp) (by first | rfl | simp) (by first | rfl | simp [Value.oneCell']) ?_; intro w5 hr5 hg5 hz5))
      have r0 := hr5.out.cell' (i := 0) rfl
      have r1 := hr5.out.cell' (i := 1) rfl
      have r2 := hr5.out.cell' (i := 2) rfl
      refine bodyPost_ret (v := .agg #[.bool false, .slice none 0 0, .int .i64 0]) (by simp [results, Tryz.results81, go_sem, r0, r1, r2]) rfl ?_
      exact ⟨_, rfl, World.ownsRow_nil _ _ _ _, (Below.drewN' HBd i).grown hg5 (Below.drewN' HBd i).size (fun k e => by have := Option.some.inj e; omega)⟩
     ·all_goals try (exfalso; omega)
      all_goals
       obtain ⟨y, ad2, hy, hA, hcy⟩ := hget.out j (by omega) hj2
       obtain ⟨m, hm1⟩ : ∃ m, j - 1 - k = m := ⟨_, rfl⟩
       rw [hm1] at hy
       have hs := tlen_take_succ hy
       rw [show m + 1 = j - k by omega] at hs
       have HS := Lib.hid hs
       have HY := Lib.hid hy
       have HA := Lib.hid hA
       clear hs hy hA
       have e1 : ((j : Int) - 1).toNat = j - 1 := by omega
       have e2 : (k : Int) < (j : Int) := by omega
       have e3 : (0 : Int) ≤ (j : Int) - 1 := by omega
       have e4 : (j : Int) - 1 < n := by omega
       by_cases hz : y = 0
       ·subst hz
        first | (obtain rfl := HA.out) | (have hA := HA.out; injection hA with hA; subst hA)
        go_wp2
        try (go_quiet (fail); go_wp2)
        go_roundw
        case rel =>
         refine ⟨j - 1, by omega, by omega, i64e (by omega), i64e (by omega), ?_, by first | exact q0 _ | exact q1 _ _ | exact q2 _ _ _ | exact q3 _ _ _ _⟩
         have h1 := HS.out
         rw [if_pos rfl] at h1
         show _ = _
         rw [show j - 1 - k = m by omega, ← h1]
         exact htl.out
        case measure => simp [intOf]; omega
       ·have hz' : ((y : Int) == 0) = false := by simp; omega
        have htj : tlen d1 = j - k := by
         have h1 := HS.out
         rw [if_neg hz] at h1
         rw [← htl.out]
         omega
        have hv1 : v = (neg, d1.take (j - k), ex + ((n - j : Nat) : Int)) := by
         have h := HV2.out
         rw [if_neg (by omega), htj, hdl.out] at h
         rw [show n - j = n - k - (j - k) by omega]
         exact h.symm
        subst hv1
        first | (obtain rfl := HA.out) | (have hA := HA.out; injection hA with hA; subst hA)
        clear HV2 htl HS htj HY
        obtain ⟨E, hE⟩ : ∃ E, ex + ((n - j : Nat) : Int) = E := ⟨_, rfl⟩
        rw [hE]
        obtain ⟨L, hL⟩ : ∃ L, Hid (j = k + L) := ⟨j - k, by show _ = _; omega⟩
        have HE := Lib.hid hE
        clear hE
        have hLd : Hid (L ≤ d1.length) := by show _ ≤ _; have := hdl.out; have := hL.out; omega
        have HN := Lib.hid (show Arr ((W.drewN i).alloc (.cells #[.bool false, .slice none 0 0, .int .i64 0] 108)) W.heap.size 108 [.bool false, .slice none 0 0, .int .i64 0] from Arr.new (W.drewN i) _ _)
        have HBN : Below W.heap.size W ((W.drewN i).alloc (.cells #[.bool false, .slice none 0 0, .int .i64 0] 108)) := (Below.drewN' (Below.refl _ _) i).alloc (Nat.le_refl _) _
        go_upto_region 10 with ((with_reducible show wpList _ _ _ (Oper.mk none (Op.store 108 (Operand.tmp 9) (Operand.tmp 46)) _ _ _ _ :: _) _ _); go_loud (refine wpList_sr rfl rfl 108 (.tmp 9) (.tmp 46) rfl (W.heap.size) [.bool neg, .slice none 0 0, .int .i64 E] rfl rfl 108 _ HN.out _ Tryz.sz108 (by first | rfl | simp) (by first | rfl | simp) (by first | rfl | simp [Value.oneCell']) ?_; intro w5 hr5 hg5 hz5))
        have hB5 : Below W.heap.size W w5 := HBN.grown hg5 HBN.size (fun k e => by have := Option.some.inj e; omega)
        have hs5 : W.heap.size < w5.heap.size := hr5.out.lt
        clear HN HBN hg5 hz5
        go_wp2
        go_loopw [10] (fun iv wr => ∃ (q : Nat) (v : Value), q ≤ L ∧ iv = .int .i64 ((k + q : Nat) : Int) ∧ Hid (Arr wr W.heap.size 108 [.bool neg, v, .int .i64 E]) ∧ wr.ownsRow (W.heap.size + 1) 3 1 v q (IM (d1.take q)) ∧ Below W.heap.size W wr) (fun iv _ => j - (intOf iv).toNat)
        case atStart => exact ⟨0, _, Nat.zero_le _, rfl, hr5, World.ownsRow_nil _ _ _ _, hB5⟩
        case round =>
         obtain ⟨q, v, hq, rfl, hx, hown, hb⟩ := hrel
         have hws := hb.size
         by_cases hqL : q < L
         ·obtain ⟨y2, hy2⟩ : ∃ y, d1[q]? = some y := ⟨_, List.getElem?_eq_getElem (by have := hLd.out; omega)⟩
          have hcy2 : wr.cell? (ad.add (k + q)) = some (.int .i64 (y2 : Int)) := by
           obtain ⟨y3, ad3, h3, h4, h5⟩ := hget.out (k + q + 1) (by omega) (by have := hL.out; omega)
           rw [show k + q + 1 - 1 - k = q by omega, hy2] at h3
           obtain rfl := Option.some.inj h3
           injection h4 with h4
           subst h4
           rw [show k + q + 1 - 1 = k + q by omega] at h5
           exact (hb.cell (block_lt_of_cell h5)).trans h5
          have hi1 : k + q < j := by have := hL.out; omega
          have hi2 : k + q < n := by omega
          have hdec : Hid (IM (d1.take (q + 1)) = IM (d1.take q) ++ [.int .i64 (y2 : Int)]) := by
           show _ = _
           rw [List.take_add_one, hy2]
           simp [IM]
          clear hy2
          obtain ⟨ii, hii⟩ : ∃ ii, Hid (k + q = ii) := ⟨_, rfl⟩
          rw [hii.out] at hcy2 hi1 hi2 ⊢
          have hqn : q ≤ n := by have := hii.out; omega
          go_wp2
          have hlo := hown.lt
          have hownd : wr.drew.ownsRow (W.heap.size + 1) 3 1 v q (IM (d1.take q)) := hown
          have hxd : Arr wr.drew W.heap.size 108 [.bool neg, v, .int .i64 E] := hx.out
          have HXD := Lib.hid hxd
          have x1 := hx.out.cell' (i := 1) rfl
          have qa := (hx.out.alloc (.cells #[.int .i64 (y2 : Int)] 3)).cell' (i := 1) rfl
          have qb := (Rd.alloc (w := wr) (xs := [.int .i64 (y2 : Int)]) (A := some (ad.add ii)) (by intro j u h; match j, h with | 0, h => simp at h; subst h; exact ⟨_, rfl, hcy2⟩) (.cells #[.int .i64 (y2 : Int)] 3)) 0 _ rfl
          have hbd : Below W.heap.size W wr.drew := hb.drew
          clear qb
          go_region_law (refine step_ap1 rfl (.tmp 54) (.tmp 59) 39 rfl (W.heap.size + 1) 3 _ _ Tryz.underlying39 Tryz.info3 rfl _ q (IM (d1.take q)) rfl (hownd.alloc _) ⟨wr.heap.size, 0, none⟩ _ (.int .i64 (y2 : Int)) rfl (cell_new _ _ _) rfl (by unfold maxLen; omega) (by omega) (by simp; omega) ?_; intro v' w3 hown3 hgr3; obtain ⟨A3, c3, rfl, hl3, hc3, hm3, hr3, hf3⟩ := own_rd hown3; have X3 := (HXD.out.alloc (.cells #[.int .i64 (y2 : Int)] 3)).grown hgr3 (fun e => by have := hlo W.heap.size e.symm; omega); have x31 := X3.cell' (i := 1) rfl; have f31 := X3.frozen 1)
          all_goals
           go_wp2
           go_roundw
           case rel => exact ⟨q + 1, .slice A3 (q + 1) c3, by omega, i64e (by have := hii.out; omega), X3.store 1 _, ownsRow_setCell_below (by rw [hdec.out]; exact hown3) (by dsimp only; omega) _, (((hb.alloc (by omega) _).drew).grown hgr3 (by show _ ≤ (wr.alloc _).heap.size; simp; omega) (fun k e => by have := hlo k e; omega)).setCell (by dsimp only; omega) _⟩
           case measure => simp [intOf]; omega
         ·obtain rfl : q = L := by omega
          have hkj : k + q = j := hL.out.symm
          have hji : ¬ ((k + q : Nat) : Int) < (j : Int) := by omega
          obtain ⟨A3, c3, rfl, hl3, hc3, hm3, hr3, hf3⟩ := own_rd hown
          have hxw : Arr wr w.heap.size 108 [.bool false, .slice none 0 0, .int .i64 0] := HAr.out.keep hb
          have HXW := Lib.hid hxw
          rw [hkj] at hji ⊢
          clear hkj hl3 hxw
          go_wp2_with (first | ((with_reducible show wpList _ _ _ (Oper.mk _ (Op.load 108 (Operand.tmp 9)) _ _ _ _ :: _) _ _); go_loud (refine wpList_lr rfl 108 (.tmp 9) rfl (W.heap.size) [.bool neg, .slice A3 q c3, .int .i64 E] rfl 108 hx.out _ Tryz.underlying108 (by simp) _ Tryz.sz108 (by first | rfl | simp) ?_)) | ((with_reducible show wpList _ _ _ (Oper.mk none (Op.store 108 (Operand.tmp 6) (Operand.tmp 62)) _ _ _ _ :: _) _ _); go_loud (refine wpList_sr rfl rfl 108 (.tmp 6) (.tmp 62) rfl (w.heap.size) [.bool neg, .slice A3 q c3, .int .i64 E] rfl rfl 108 _ HXW.out _ Tryz.sz108 (by first | rfl | simp) (by first | rfl | simp) (by first | rfl | simp [Value.oneCell']) ?_; intro w6 hr6 hg6 hz6)))
          have r0 := hr6.out.cell' (i := 0) rfl
          have r1 := hr6.out.cell' (i := 1) rfl
          have r2 := hr6.out.cell' (i := 2) rfl
          refine bodyPost_ret (v := .agg #[.bool neg, .slice A3 q c3, .int .i64 E]) (by simp [results, Tryz.results81, go_sem, r0, r1, r2]) rfl ?_
          rw [← HE.out, show j - k = q by have := hL.out; omega]
          refine ⟨_, rfl, ?_, ?_⟩
          ·have hlen : (d1.take q).length = q := by rw [List.length_take]; have := hLd.out; omega
           show w6.ownsRow w.heap.size 3 1 _ (d1.take q).length _
           rw [hlen]
           exact own_base (own_same hown (fun g hg => hg6.block g (hown.lt g hg).2 (fun e => by have := Option.some.inj e; have := (hown.lt g hg).1; omega))) (by omega)
          ·exact (HBd.trans (hb.mono (by omega))).grown hg6 (by have := hb.size; omega) (fun k e => by have := Option.some.inj e; omega)
end Go.Proofs.YtbdnamcjhndpjaaGreatDoor
namespace Go.Proofs.YtbdnamcjhndpjaaGreatDoor
open Go.RowKit
def smallR : List Nat → Nat → Nat
  | [], n => n
  | d :: l, n => smallR l (if 10 * n + d < 1000000 then 10 * n + d else 1000000)
def expR (s : List Nat) : Option Int :=
  match s with
  | [] => some 0
  | c :: t => if c = 101 ∨ c = 69 then
      (if (if hasP [45] t ∨ hasP [43] t then t.drop 1 else t) = [] ∨ runL (if hasP [45] t ∨ hasP [43] t then t.drop 1 else t) ≠ (if hasP [45] t ∨ hasP [43] t then t.drop 1 else t).length then none
       else some (if hasP [45] t then -((smallR (dec (if hasP [45] t ∨ hasP [43] t then t.drop 1 else t)) 0 : Nat) : Int) else ((smallR (dec (if hasP [45] t ∨ hasP [43] t then t.drop 1 else t)) 0 : Nat) : Int)))
    else none
def finR (neg : Bool) (D : List Nat) (m : Nat) (k : Option Int) : Option (Bool × List Nat × Int) := match k with
  | none => none
  | some k => some (normV neg D (-(m : Int) + k))
def fracR (neg : Bool) (c : List Nat) (x : Option (List Nat × Nat × List Nat)) : Option (Bool × List Nat × Int) := match x with
  | none => none
  | some (d', m, r) => finR neg (c ++ d') m (expR r)
def bodyR (neg : Bool) (b : List Nat) : Option (Bool × List Nat × Int) :=
  if runL b = 0 ∨ (1 < runL b ∧ b[0]? = some 48) then none else fracR neg (dec (b.take (runL b))) (fracV (b.drop (runL b)))
def rnumV (s : List Nat) : Option (Bool × List Nat × Int) := bodyR (hasP [45] s) (if hasP [45] s then s.drop 1 else s)
theorem small_law : ∀ (l : List Nat) (n m : Nat), AllD l → m = min n 1000000 → smallR (dec l) m = min (smallV l n) 1000000 := by
  intro l
  induction l with
  | nil => intro n m _ h; exact h
  | cons c l ih =>
    intro n m ha h
    have hc := ha c (by simp)
    show smallR (dec l) (if 10 * m + (c - 48) < 1000000 then 10 * m + (c - 48) else 1000000) = min (smallV l (if 1099511627776 < 10 * n + (c - 48) then 1099511627776 else 10 * n + (c - 48))) 1000000
    refine ih _ _ (fun x hx => ha x (by simp [hx])) ?_
    (repeat' split) <;> omega
theorem smallR_le : ∀ (l : List Nat) (n : Nat), n ≤ 1000000 → smallR l n ≤ 1000000 := by
  intro l
  induction l with
  | nil => intro n h; exact h
  | cons d l ih => intro n h; unfold smallR; exact ih _ (by split <;> omega)
theorem exp_law (r : List Nat) : (expV r = none ∧ expR r = none) ∨ ∃ k k', expV r = some k ∧ expR r = some k' ∧ (k = k' ∨ (1000000 ≤ k ∧ k' = 1000000) ∨ (k ≤ -1000000 ∧ k' = -1000000)) := by
  cases r with
  | nil => exact .inr ⟨0, 0, rfl, rfl, .inl rfl⟩
  | cons c t =>
    unfold expV expR
    simp only
    by_cases hc : c = 101 ∨ c = 69
    · rw [if_pos hc, if_pos hc]
      generalize hu : (if hasP [45] t ∨ hasP [43] t then t.drop 1 else t) = u
      by_cases hb : u = [] ∨ runL u ≠ u.length
      · rw [if_pos hb, if_pos hb]; exact .inl ⟨rfl, rfl⟩
      · rw [if_neg hb, if_neg hb]
        have hs := small_law u 0 0 (allD_of_run (by omega)) rfl
        refine .inr ⟨_, _, rfl, rfl, ?_⟩
        rw [hs]
        cases hasP [45] t with
        | true => simp only [if_true]; omega
        | false => simp only [Bool.false_eq_true, if_false]; omega
    · rw [if_neg hc, if_neg hc]; exact .inl ⟨rfl, rfl⟩
def NumEq (x y : Bool × List Nat × Int) : Prop := x = y ∨ (limV x = limV y ∧ limV x ≠ 0)
theorem fracV_len {s d r : List Nat} {m : Nat} (h : fracV s = some (d, m, r)) : d.length ≤ s.length ∧ m ≤ s.length := by
  unfold fracV at h
  have hr := runL_le (s.drop 1)
  rw [List.length_drop] at hr
  split at h
  · split at h
    · cases h
    · injection h with h
      injection h with h1 h
      injection h with h2 h3
      subst h1
      subst h2
      refine ⟨?_, by omega⟩
      unfold dec
      rw [List.length_map, List.length_take, List.length_drop]
      omega
  · injection h with h
    injection h with h1 h
    injection h with h2 h3
    subst h1
    subst h2
    simp
theorem norm_far {neg : Bool} {d : List Nat} {a b : Int} (hd : d.length ≤ 200000) (h : (500000 ≤ a ∧ 500000 ≤ b) ∨ (a ≤ -500000 ∧ b ≤ -500000)) : NumEq (normV neg d a) (normV neg d b) := by
  have hl := lead_le 0 d
  unfold normV
  by_cases h0 : tlen (lead 0 d) = 0
  · rw [if_pos h0, if_pos h0]; exact .inl rfl
  · rw [if_neg h0, if_neg h0]
    right
    unfold limV
    simp only
    by_cases h4 : 400 < ((lead 0 d).take (tlen (lead 0 d))).length
    · rw [if_pos h4, if_pos h4]; exact ⟨rfl, by decide⟩
    · rw [if_neg h4, if_neg h4, if_pos (by omega), if_pos (by omega)]
      exact ⟨rfl, by decide⟩
theorem rnum_law (s : List Nat) (hs : s.length ≤ 65536) : (numeralV s = none ∧ rnumV s = none) ∨ ∃ x y, numeralV s = some x ∧ rnumV s = some y ∧ NumEq x y := by
  unfold numeralV rnumV
  generalize hb : (if hasP [45] s then s.drop 1 else s) = b
  have hbl : b.length ≤ 65536 := by
    rw [← hb]
    split
    · rw [List.length_drop]; omega
    · exact hs
  generalize hasP [45] s = neg
  unfold bodyV bodyR
  by_cases h1 : runL b = 0 ∨ (1 < runL b ∧ b[0]? = some 48)
  · rw [if_pos h1, if_pos h1]; exact .inl ⟨rfl, rfl⟩
  · rw [if_neg h1, if_neg h1]
    cases hf : fracV (b.drop (runL b)) with
    | none => exact .inl ⟨rfl, rfl⟩
    | some p =>
      obtain ⟨d', m, r⟩ := p
      obtain ⟨hd', hm⟩ := fracV_len hf
      rw [List.length_drop] at hd' hm
      have ef : fracR neg (dec (b.take (runL b))) (some (d', m, r)) = finR neg (dec (b.take (runL b)) ++ d') m (expR r) := rfl
      rw [ef]
      simp only
      rcases exp_law r with ⟨e1, e2⟩ | ⟨k, k', e1, e2, hk⟩
      · rw [e1, e2]; exact .inl ⟨rfl, rfl⟩
      · rw [e1, e2]
        refine .inr ⟨_, _, rfl, rfl, ?_⟩
        have hdl : (dec (b.take (runL b)) ++ d').length ≤ 200000 := by
          rw [List.length_append]
          unfold dec
          rw [List.length_map, List.length_take]
          omega
        rcases hk with rfl | ⟨h2, rfl⟩ | ⟨h2, rfl⟩
        · exact .inl rfl
        · exact norm_far hdl (.inl ⟨by omega, by omega⟩)
        · exact norm_far hdl (.inr ⟨by omega, by omega⟩)
theorem byte_at (s : List Nat) (hs : By s) (q : Nat) (hq : q ≤ s.length) : (q = s.length ∧ s.drop q = []) ∨ ∃ c t, s.drop q = c :: t ∧ s.drop (q + 1) = t ∧ c < 256 ∧ ∃ hlt : q < s.length, ((mks s)[q]'(by rw [size_mks]; exact hlt)).toNat = c := by
  by_cases hlt : q < s.length
  · obtain ⟨c, hc⟩ : ∃ c, s[q]? = some c := ⟨_, List.getElem?_eq_getElem hlt⟩
    exact .inr ⟨c, s.drop (q + 1), drop_cons hc, rfl, hs.get hc, hlt, get_mks hc (hs.get hc) _⟩
  · exact .inl ⟨by omega, List.drop_eq_nil_of_le (by omega)⟩
end Go.Proofs.YtbdnamcjhndpjaaGreatDoor
namespace Go.Proofs.YtbdnamcjhndpjaaGreatDoor
open Go.RowKit
theorem itoaL_neg {n : Int} (h : n < 0) : itoaL n = 45 :: itoaL (-n) := by
 unfold itoaL Lib.itoa
 rw [if_pos h, if_neg (by omega), show (-n).toNat = n.natAbs by omega]
 rfl
theorem itoaL_small {u : Nat} (h : u < 10) : itoaL (u : Int) = [48 + u] := by
 unfold itoaL Lib.itoa
 rw [if_neg (by omega), Int.toNat_natCast, Lib.decDigits_one h]
 simp; omega
theorem itoaL_big {u : Nat} (h : ¬ u < 10) : itoaL (u : Int) = itoaL ((u / 10 : Nat) : Int) ++ [48 + u % 10] := by
 unfold itoaL Lib.itoa
 rw [if_neg (by omega), if_neg (by omega), Int.toNat_natCast, Int.toNat_natCast, Lib.decDigits, dif_neg h, List.map_append]
 simp; omega
set_option maxRecDepth 8000 in
set_option maxHeartbeats 2000000 in
theorem number_nat (u : Nat) : ∀ (w : World), u ≤ 1000000000000 → Calls Tryz.prog 83 #[.int .i64 (u : Int)] w (fun e w' => e = .returned (.string (mks (itoaL (u : Int)))) ∧ Below w.heap.size w w') := by
 induction u using Nat.strongRecOn with
 | ind u ih =>
  intro w hu
  by_cases h9 : u < 10
  ·rw [itoaL_small h9]
   have hc : (convert 103 9 (.slice (some ⟨w.heap.size, 0, none⟩) 1 1)).run Tryz.prog (w.alloc (.cells #[.int .u8 (48 + (u : Int))] 5)) = _ := conv_cells [48 + u] w
   have h9' : ¬ (9 : Int) < u := by omega
   clear ih
   go_enter Tryz.func83, Tryz.ntmps83
   go_wp2_with (fail)
   go_ret
   exact ⟨rfl, (Below.refl _ _).alloc (Nat.le_refl _) _⟩
  ·rw [itoaL_big h9]
   have hq := Lib.hid (fun (w : World) => ih (u / 10) (by omega) w (by omega))
   have hr := Lib.hid (fun (w : World) => ih (u % 10) (by omega) w (by omega))
   have h9' : (9 : Int) < u := by omega
   have hsm : itoaL ((u % 10 : Nat) : Int) = [48 + u % 10] := itoaL_small (by omega)
   rw [hsm] at hr
   obtain ⟨q, hq1⟩ : ∃ q, u / 10 = q := ⟨_, rfl⟩
   obtain ⟨r, hr1⟩ : ∃ r, u % 10 = r := ⟨_, rfl⟩
   rw [hq1] at hq ⊢
   rw [hr1] at hr ⊢
   have e1 : (u : Int) / 10 = (q : Int) := by omega
   have e2 : (u : Int) % 10 = (r : Int) := by omega
   have hl : (itoaL ((q : Nat) : Int)).length ≤ 21 := itoaL_len _ (by omega) (by omega)
   generalize itoaL ((q : Nat) : Int) = il at *
   have hl2 : ¬ 9223372036854775807 < il.length + 1 := by omega
   have hl3 : ([48 + r] : List Nat).length = 1 := rfl
   have HBd : Below w.heap.size w w := Below.refl _ _
   clear ih hq1 hr1 hsm h9
   go_enter Tryz.func83, Tryz.ntmps83
   go_wp2_with (first | (go_at_call 83; ((with_reducible refine (hq.out _).mono ?_)); rintro e wn ⟨rfl, hbn⟩; replace HBd := HBd.trans (hbn.mono HBd.size); clear hbn) | (go_at_call 83; ((with_reducible refine (hr.out _).mono ?_)); rintro e wn ⟨rfl, hbn⟩; replace HBd := HBd.trans (hbn.mono HBd.size); clear hbn))
   go_ret
   exact ⟨by simp, HBd⟩
set_option maxRecDepth 8000 in
set_option maxHeartbeats 2000000 in
theorem number_any (n : Int) (h0 : -1000000000000 ≤ n) (h1 : n ≤ 1000000000000) (w : World) : Calls Tryz.prog 83 #[.int .i64 n] w (fun e w' => e = .returned (.string (mks (itoaL n))) ∧ Below w.heap.size w w') := by
 by_cases hn : n < 0
 ·obtain ⟨u, hu⟩ : ∃ u : Nat, -n = (u : Int) := ⟨(-n).toNat, by omega⟩
  have D := Lib.hid (fun (w : World) => number_nat u w (by omega))
  rw [itoaL_neg hn]
  rw [hu]
  have hl : (itoaL ((u : Nat) : Int)).length ≤ 21 := itoaL_len _ (by omega) (by omega)
  generalize itoaL ((u : Nat) : Int) = il at *
  have hl2 : ¬ 9223372036854775807 < 1 + il.length := by omega
  have hl3 : ([45] : List Nat).length = 1 := rfl
  have e45 : (ByteArray.mk #[45] : ByteArray) = mks [45] := mks_lit1 45
  have HBd : Below w.heap.size w w := Below.refl _ _
  go_enter Tryz.func83, Tryz.ntmps83
  go_wp2_with (first | (go_at_call 83; ((with_reducible refine (D.out _).mono ?_)); rintro e wn ⟨rfl, hbn⟩; replace HBd := HBd.trans (hbn.mono HBd.size); clear hbn))
  go_ret
  exact ⟨by simp, HBd⟩
 ·obtain ⟨u, rfl⟩ : ∃ u : Nat, n = (u : Int) := ⟨n.toNat, by omega⟩
  exact number_nat u w (by omega)
theorem number_h (n : Int) (h0 : -1000000000000 ≤ n) (h1 : n ≤ 1000000000000) : Hid (∀ w, Calls Tryz.prog 83 #[.int .i64 n] w (fun e w' => e = .returned (.string (mks (itoaL n))) ∧ Below w.heap.size w w')) := fun w => number_any n h0 h1 w
set_option maxRecDepth 8000 in
set_option maxHeartbeats 2000000 in
theorem word_any (d : List Nat) (A : Option Addr) (n c : Nat) (w : World) (hn : Hid (n = d.length)) (hr : Rd w A (IM d)) (ht : Ten d) (hm : n ≤ 4294967296) :
  Calls Tryz.prog 109 #[.slice A n c] w fun e w' => e = .returned (.string (mks (asc d))) ∧ Below w.heap.size w w' := by
 have HRD := Lib.hid hr
 clear hr
 have e0 : (ByteArray.mk #[] : ByteArray) = mks (asc (d.take 0)) := rfl
 go_enter Tryz.func109, Tryz.ntmps109
 go_wp2
 go_loopw [3, 4] (fun sv iv wr => ∃ k : Nat, k ≤ n ∧ iv = .int .i64 (k : Int) ∧ sv = .string (mks (asc (d.take k))) ∧ Below w.heap.size w wr) (fun _ iv _ => n - (intOf iv).toNat)
 case atStart => exact ⟨0, by omega, rfl, rfl, Below.refl _ _⟩
 case round =>
  obtain ⟨k, hk, rfl, rfl, hb⟩ := hrel
  by_cases hlt : k < n
  ·obtain ⟨x, hx⟩ : ∃ x, d[k]? = some x := ⟨_, List.getElem?_eq_getElem (by have := hn.out; omega)⟩
   have cb := ht.get hx
   obtain ⟨ad, rfl, hcell0⟩ := HRD.out.at_ (IM_get hx)
   have hcell := (hb.cell (block_lt_of_cell hcell0)).trans hcell0
   have D := number_h (x : Int) (by omega) (by omega)
   have hsm : itoaL (x : Int) = [48 + x] := itoaL_small cb
   rw [hsm] at D
   have hs : asc (d.take (k + 1)) = asc (d.take k) ++ [48 + x] := by
    rw [List.take_add_one, hx]; simp [asc]
   have HS := Lib.hid hs
   have hlen : (asc (d.take k)).length ≤ 4294967296 := by simp [asc]; omega
   generalize asc (d.take k) = a at *
   have hl2 : ¬ 9223372036854775807 < a.length + 1 := by omega
   have hl3 : ([48 + x] : List Nat).length = 1 := rfl
   have HBd := hb
   clear hs hsm hx hcell0 e0
   go_wp2_with (go_at_call 83; ((with_reducible refine (D.out _).mono ?_)); rintro e wn ⟨rfl, hbn⟩; replace HBd := HBd.trans (hbn.mono HBd.size); clear hbn)
   go_roundw
   case rel => exact ⟨k + 1, by omega, i64e (by omega), by rw [HS.out], HBd⟩
   case measure => simp [intOf]; omega
  ·obtain rfl : k = n := by omega
   have hkn := hn.out
   have hd : d.take k = d := List.take_of_length_le (by omega)
   rw [hd]
   clear hd hkn e0
   go_wp2
   go_ret
   exact ⟨rfl, hb⟩
set_option maxHeartbeats 1000000 in
theorem rsign_any (neg : Bool) (ex : Int) (A : Option Addr) (n c : Nat) (w : World) :
  Calls Tryz.prog 108 #[.agg #[.bool neg, .slice A n c, .int .i64 ex]] w fun e w' => e = .returned (.string (mks (signL neg))) ∧ Below w.heap.size w w' := by
 have HX := Arr.new w 108 [.bool neg, .slice A n c, .int .i64 ex]
 have HBd : Below w.heap.size w (w.alloc (.cells #[.bool neg, .slice A n c, .int .i64 ex] 108)) := (Below.refl _ _).alloc (Nat.le_refl _) _
 have x0 := HX.cell' (i := 0) rfl
 go_enter Tryz.func108, Tryz.ntmps108
 go_upto_region 1 with (fail)
 generalize (w.alloc (.cells #[.bool neg, .slice A n c, .int .i64 ex] 108)) = W at *
 cases neg
 all_goals
  go_wp2
  go_ret
  exact ⟨rfl, HBd⟩
set_option maxHeartbeats 1000000 in
theorem rlimit_any (x : Bool × List Nat × Int) (A : Option Addr) (n c : Nat) (w : World) (hn : Hid (n = x.2.1.length)) :
  Calls Tryz.prog 57 #[.agg #[.bool x.1, .slice A n c, .int .i64 x.2.2]] w fun e w' => e = .returned (.int .i64 (limV x)) ∧ Below w.heap.size w w' := by
 have hv : limV x = if 400 < n then 6 else if x.2.2 < -2000 ∨ 2000 < x.2.2 then 2 else 0 := by unfold limV; rw [hn.out]
 rw [hv]
 have HX := Arr.new w 108 [.bool x.1, .slice A n c, .int .i64 x.2.2]
 have HBd : Below w.heap.size w (w.alloc (.cells #[.bool x.1, .slice A n c, .int .i64 x.2.2] 108)) := (Below.refl _ _).alloc (Nat.le_refl _) _
 have x0 := HX.cell' (i := 0) rfl
 have x1 := HX.cell' (i := 1) rfl
 have x2 := HX.cell' (i := 2) rfl
 clear hv
 go_enter Tryz.func57, Tryz.ntmps57
 go_upto_region 1 with (fail)
 generalize (w.alloc (.cells #[.bool x.1, .slice A n c, .int .i64 x.2.2] 108)) = W at *
 go_wp2
 all_goals
  go_ret
  refine ⟨ret_i ?_, HBd⟩
  (repeat' split) <;> omega
set_option maxRecDepth 8000 in
set_option maxHeartbeats 2000000 in
theorem rcoef_any (neg : Bool) (d : List Nat) (ex : Int) (A : Option Addr) (n c : Nat) (w : World) (hn : Hid (n = d.length)) (hr : Rd w A (IM d)) (ht : Ten d) (hm : n ≤ 4294967296) :
  Calls Tryz.prog 82 #[.agg #[.bool neg, .slice A n c, .int .i64 ex]] w fun e w' => e = .returned (.string (mks (coefL neg d))) ∧ Below w.heap.size w w' := by
 generalize hcl : coefL neg d = cl
 have HCL := Lib.hid hcl
 clear hcl
 have HX := Lib.hid (Arr.new w 108 [.bool neg, .slice A n c, .int .i64 ex])
 have HBd : Below w.heap.size w (w.alloc (.cells #[.bool neg, .slice A n c, .int .i64 ex] 108)) := (Below.refl _ _).alloc (Nat.le_refl _) _
 have hrW := hr.keep HBd
 go_enter Tryz.func82, Tryz.ntmps82
 go_upto_region 1 with (fail)
 have hlow : w.heap.size < (w.alloc (.cells #[.bool neg, .slice A n c, .int .i64 ex] 108)).heap.size := HX.out.lt
 generalize (w.alloc (.cells #[.bool neg, .slice A n c, .int .i64 ex] 108)) = W at *
 have x1 := HX.out.cell' (i := 1) rfl
 by_cases hd : d = []
 ·subst hd
  have hn0 : n = 0 := by have := hn.out; simpa using this
  subst hn0
  have hc : cl = [48] := HCL.out.symm
  subst hc
  have e48 : (ByteArray.mk #[48] : ByteArray) = mks [48] := mks_lit1 48
  go_wp2
  go_ret
  exact ⟨rfl, HBd⟩
 ·have hc : cl = signL neg ++ asc d := by rw [← HCL.out]; unfold coefL; rw [if_neg hd]
  subst hc
  clear HCL
  have hn0 : ((n : Int) == 0) = false := by
   have h1 := hn.out
   have h2 : 0 < d.length := List.length_pos_iff.2 hd
   simp; omega
  go_upto_region 3 with (fail)
  obtain ⟨zz, hzz⟩ : ∃ zz, Hid (W.heap.size = zz) := ⟨_, rfl⟩
  have hz1 : w.heap.size < zz := by have := hzz.out; omega
  have hz2 : zz ≤ W.heap.size := by have := hzz.out; omega
  have RX : ∀ w', Below zz W w' → Rd w' A (IM d) := fun w' h => hrW.keep (by rw [hzz.out]; exact h)
  have q0 : ∀ w', Below zz W w' → w'.cell? ⟨w.heap.size, 0, none⟩ = some (.bool neg) := fun w' h => (Arr.below (w := W) HX.out h (by omega)).cell' (i := 0) rfl; have qf0 : ∀ w', Below zz W w' → w'.frozen? ⟨w.heap.size, 0, none⟩ = false := fun w' h => (Arr.below (w := W) HX.out h (by omega)).frozen 0; have q1 : ∀ w', Below zz W w' → w'.cell? ⟨w.heap.size, 1, none⟩ = some (.slice A n c) := fun w' h => (Arr.below (w := W) HX.out h (by omega)).cell' (i := 1) rfl; have qf1 : ∀ w', Below zz W w' → w'.frozen? ⟨w.heap.size, 1, none⟩ = false := fun w' h => (Arr.below (w := W) HX.out h (by omega)).frozen 1; have q2 : ∀ w', Below zz W w' → w'.cell? ⟨w.heap.size, 2, none⟩ = some (.int .i64 ex) := fun w' h => (Arr.below (w := W) HX.out h (by omega)).cell' (i := 2) rfl; have qf2 : ∀ w', Below zz W w' → w'.frozen? ⟨w.heap.size, 2, none⟩ = false := fun w' h => (Arr.below (w := W) HX.out h (by omega)).frozen 2
  have E1 : Hid (∀ w, Calls Tryz.prog 108 #[.agg #[.bool neg, .slice A n c, .int .i64 ex]] w fun e w' => e = .returned (.string (mks (signL neg))) ∧ Below w.heap.size w w') := fun w => rsign_any neg ex A n c w
  have E2 : Hid (∀ w, Below zz W w → Calls Tryz.prog 109 #[.slice A n c] w fun e w' => e = .returned (.string (mks (asc d))) ∧ Below w.heap.size w w') := fun w h => word_any d A n c w hn (RX w h) ht hm
  have HS : Below zz W W := Below.refl _ _
  have HSd : Below zz W W.drew := Below.drew HS
  have hz3 : zz ≤ W.drew.heap.size := hz2
  have hl1 : (signL neg).length ≤ 1 := by cases neg <;> decide
  have hl2 : (asc d).length ≤ 4294967296 := by have := hn.out; simp [asc]; omega
  have hl3 : ¬ 9223372036854775807 < (signL neg).length + (asc d).length := by omega
  clear RX hr hrW x1
  go_region_held3 (fun w' => Below zz W w') (assumption) (first | (go_at_call 108; ((with_reducible refine (E1.out _).mono ?_)); (all_goals try (fail)); rintro e w5 ⟨rfl, hb5⟩; have z5 := hb5.size; (try simp at z5); have hS5_0 : Below zz W w5 := Below.trans (by first | assumption | exact Below.alloc (by assumption) (by first | omega | (simp; omega)) _ | exact Below.allocDrew (by assumption) (by first | omega | (simp; omega)) _) (hb5.mono (by first | omega | (simp; omega)))) | (go_at_call 109; ((with_reducible refine (E2.out _ (by assumption)).mono ?_)); (all_goals try (fail)); rintro e w6 ⟨rfl, hb6⟩; have z6 := hb6.size; (try simp at z6); have hS6_0 : Below zz W w6 := Below.trans (by first | assumption | exact Below.alloc (by assumption) (by first | omega | (simp; omega)) _ | exact Below.allocDrew (by assumption) (by first | omega | (simp; omega)) _) (hb6.mono (by first | omega | (simp; omega)))))
  all_goals
   go_wp2
   go_ret
   refine ⟨rfl, HBd.trans ?_⟩
   have hdw : W.drew.heap.size = W.heap.size := rfl
   have hW : Below w.heap.size W W.drew := Below.drew (Below.refl _ _)
   first
    | exact (hW.trans (hb5.mono (by omega))).trans (hb6.mono (by omega))
    | exact (hW.trans (hb6.mono (by omega))).trans (hb5.mono (by omega))
set_option maxRecDepth 8000 in
set_option maxHeartbeats 2000000 in
theorem rshow_any (neg : Bool) (d : List Nat) (ex : Int) (A : Option Addr) (n c : Nat) (w : World) (hn : Hid (n = d.length)) (hr : Rd w A (IM d)) (ht : Ten d) (hm : n ≤ 4294967296) (h0 : -1000000000000 ≤ ex) (h1 : ex ≤ 1000000000000) :
  Calls Tryz.prog 58 #[.agg #[.bool neg, .slice A n c, .int .i64 ex]] w fun e w' => e = .returned (.string (mks (textV (neg, d, ex)))) ∧ Below w.heap.size w w' := by
 have hT : textV (neg, d, ex) = coefL neg d ++ [101] ++ itoaL ex := rfl
 rw [hT]
 have hl1 := coefL_len neg d
 have hl2 := itoaL_len ex (by omega) (by omega)
 generalize hcl : coefL neg d = cl at *
 generalize hil : itoaL ex = il at *
 have HCL := Lib.hid hcl
 have HIL := Lib.hid hil
 clear hcl hil hT
 have HX := Lib.hid (Arr.new w 108 [.bool neg, .slice A n c, .int .i64 ex])
 have HBd : Below w.heap.size w (w.alloc (.cells #[.bool neg, .slice A n c, .int .i64 ex] 108)) := (Below.refl _ _).alloc (Nat.le_refl _) _
 have hrW := hr.keep HBd
 go_enter Tryz.func58, Tryz.ntmps58
 go_upto_region 1 with (fail)
 have hlow : w.heap.size < (w.alloc (.cells #[.bool neg, .slice A n c, .int .i64 ex] 108)).heap.size := HX.out.lt
 generalize (w.alloc (.cells #[.bool neg, .slice A n c, .int .i64 ex] 108)) = W at *
 obtain ⟨zz, hzz⟩ : ∃ zz, Hid (W.heap.size = zz) := ⟨_, rfl⟩
 have hz1 : w.heap.size < zz := by have := hzz.out; omega
 have hz2 : zz ≤ W.heap.size := by have := hzz.out; omega
 have RX : ∀ w', Below zz W w' → Rd w' A (IM d) := fun w' h => hrW.keep (by rw [hzz.out]; exact h)
 have q0 : ∀ w', Below zz W w' → w'.cell? ⟨w.heap.size, 0, none⟩ = some (.bool neg) := fun w' h => (Arr.below (w := W) HX.out h (by omega)).cell' (i := 0) rfl; have qf0 : ∀ w', Below zz W w' → w'.frozen? ⟨w.heap.size, 0, none⟩ = false := fun w' h => (Arr.below (w := W) HX.out h (by omega)).frozen 0; have q1 : ∀ w', Below zz W w' → w'.cell? ⟨w.heap.size, 1, none⟩ = some (.slice A n c) := fun w' h => (Arr.below (w := W) HX.out h (by omega)).cell' (i := 1) rfl; have qf1 : ∀ w', Below zz W w' → w'.frozen? ⟨w.heap.size, 1, none⟩ = false := fun w' h => (Arr.below (w := W) HX.out h (by omega)).frozen 1; have q2 : ∀ w', Below zz W w' → w'.cell? ⟨w.heap.size, 2, none⟩ = some (.int .i64 ex) := fun w' h => (Arr.below (w := W) HX.out h (by omega)).cell' (i := 2) rfl; have qf2 : ∀ w', Below zz W w' → w'.frozen? ⟨w.heap.size, 2, none⟩ = false := fun w' h => (Arr.below (w := W) HX.out h (by omega)).frozen 2
 have E1 : Hid (∀ w, Below zz W w → Calls Tryz.prog 82 #[.agg #[.bool neg, .slice A n c, .int .i64 ex]] w fun e w' => e = .returned (.string (mks cl)) ∧ Below w.heap.size w w') := fun w h => by rw [← HCL.out]; exact rcoef_any neg d ex A n c w hn (RX w h) ht hm
 have E2 : Hid (∀ w, Calls Tryz.prog 83 #[.int .i64 ex] w fun e w' => e = .returned (.string (mks il)) ∧ Below w.heap.size w w') := fun w => by rw [← HIL.out]; exact number_any ex h0 h1 w
 have HS : Below zz W W := Below.refl _ _
 have HSd : Below zz W W.drew := Below.drew HS
 have hz3 : zz ≤ W.drew.heap.size := hz2
 have hdn : d.length ≤ 4294967296 := by have := hn.out; omega
 have e101 : (ByteArray.mk #[101] : ByteArray) = mks [101] := mks_lit1 101
 have hl3 : ¬ 9223372036854775807 < cl.length + 1 := by omega
 have hl4 : ¬ 9223372036854775807 < cl.length + 1 + il.length := by omega
 have hl5 : (([101] : List Nat)).length = 1 := rfl
 clear RX hr hrW
 go_region_held3 (fun w' => Below zz W w') (assumption) (first | (go_at_call 82; ((with_reducible refine (E1.out _ (by assumption)).mono ?_)); (all_goals try (fail)); rintro e w5 ⟨rfl, hb5⟩; have z5 := hb5.size; (try simp at z5); have hS5_0 : Below zz W w5 := Below.trans (by first | assumption | exact Below.alloc (by assumption) (by first | omega | (simp; omega)) _ | exact Below.allocDrew (by assumption) (by first | omega | (simp; omega)) _) (hb5.mono (by first | omega | (simp; omega)))) | (go_at_call 83; ((with_reducible refine (E2.out _).mono ?_)); (all_goals try (fail)); rintro e w6 ⟨rfl, hb6⟩; have z6 := hb6.size; (try simp at z6); have hS6_0 : Below zz W w6 := Below.trans (by first | assumption | exact Below.alloc (by assumption) (by first | omega | (simp; omega)) _ | exact Below.allocDrew (by assumption) (by first | omega | (simp; omega)) _) (hb6.mono (by first | omega | (simp; omega)))))
 all_goals
  go_wp2
  go_ret
  refine ⟨by simp, HBd.trans ?_⟩
  have hdw : W.drew.heap.size = W.heap.size := rfl
  have hW : Below w.heap.size W W.drew := Below.drew (Below.refl _ _)
  first
   | exact (hW.trans (hb5.mono (by omega))).trans (hb6.mono (by omega))
   | exact (hW.trans (hb6.mono (by omega))).trans (hb5.mono (by omega))
end Go.Proofs.YtbdnamcjhndpjaaGreatDoor
