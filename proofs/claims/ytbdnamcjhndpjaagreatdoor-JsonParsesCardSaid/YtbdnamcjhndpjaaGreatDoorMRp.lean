/- The reference's Parse. -/
import Derived.Test.YtbdnamcjhndpjaaGreatDoorMRr
set_option linter.unusedVariables false
set_option linter.unusedSimpArgs false
set_option linter.defProp false
set_option linter.constructorNameAsVariable false
namespace Go.Proofs.YtbdnamcjhndpjaaGreatDoor
open Go.RowKit
def RP (w : World) (l : List Nat) (base : Int) (e : Ending) (w' : World) : Prop :=
 ∃ (x : Bool × Nat) (no : Int) (A : Option Addr) (n c : Nat), e = .returned (.tuple #[.agg #[.bool x.1, .slice A n c], .int .i64 no]) ∧ Hid ((no = 0 ∧ parR l base = (tS x, 0) ∧ (dg x.2).length ≤ 400) ∨ (no ≠ 0 ∧ parR l base = ([], no))) ∧
  Hid (n = (dg x.2).length) ∧ Rd w' A (B8 (dg x.2)) ∧ Below w.heap.size w w'
theorem tS_sign (neg : Bool) (v : Nat) : tS (neg && decide (0 < v), v) = tS (neg, v) := by
 unfold tS
 by_cases h : v = 0
 ·subst h; unfold ntx; simp
 ·rw [decide_eq_true (show 0 < v by omega), Bool.and_true]
theorem digV_pos {c : Nat} (h : c ≠ 48) : 1 ≤ digV c := by
 unfold digV
 (repeat' split) <;> omega
theorem ten_two (K : Nat) : (10 : Nat) ^ K ≤ 2 ^ (4 * K) := by
 rw [Nat.pow_mul]
 exact Nat.pow_le_pow_left (by decide) _
theorem hor_longK {b K : Nat} {l : List Nat} (hb : 2 ≤ b) (hl : 4 * K < (lead 48 l).length) : ¬ (dg (hor b digV l)).length ≤ K := by
 have h := hor_big (b := b) (f := digV) (z := 48) (l := l) (k := 4 * K) (by omega) (fun c _ hc => digV_pos hc) hl
 rw [hor_lead (by rfl)] at h
 rw [dg_len_le]
 have h1 : 2 ^ (4 * K) ≤ b ^ (4 * K) := Nat.pow_le_pow_left hb _
 exact Nat.not_lt.2 (Nat.le_trans (ten_two K) (Nat.le_trans h1 h))
theorem hor_long {b : Nat} {l : List Nat} (hb : 2 ≤ b) (hl : 1600 < (lead 48 l).length) : ¬ (dg (hor b digV l)).length ≤ 400 := hor_longK hb (by omega)
theorem parR_ok {l body : List Nat} {neg : Bool} {b : Nat} (hk : knownB (b : Int) = true) (hp : parB l = (neg, body)) (hb : body ≠ []) (hl : body.length ≤ 66000) (hall : body.all (fun c => decide (digV c < b)) = true) :
  parR l (b : Int) = (tS (neg && decide (0 < hor b digV body), hor b digV body), tE (neg && decide (0 < hor b digV body), hor b digV body)) := by
 have hb2 : 2 ≤ b := by unfold knownB at hk; have := of_decide_eq_true hk; omega
 unfold parR
 rw [if_pos hk, hp]
 dsimp only
 rw [if_neg hb, Int.toNat_natCast]
 unfold pB
 rw [if_pos hall]
 by_cases hlong : (lead 48 body).length ≤ 1600
 ·rw [if_pos hlong, hor_lead (by rfl), tS_sign]
  rfl
 ·rw [if_neg hlong]
  have h := hor_long hb2 (by omega : 1600 < (lead 48 body).length)
  unfold tS tE
  rw [if_neg h, if_neg h]
theorem parR_form {l body : List Nat} {neg : Bool} {b : Nat} (hk : knownB (b : Int) = true) (hp : parB l = (neg, body)) (hall : ¬ body.all (fun c => decide (digV c < b)) = true) : parR l (b : Int) = ([], 3) := by
 unfold parR
 rw [if_pos hk, hp]
 dsimp only
 by_cases hb : body = []
 ·rw [if_pos hb]
 ·rw [if_neg hb, Int.toNat_natCast]
  unfold pB
  rw [if_neg hall]
theorem r0_of {w : World} {g : Nat} {t : TypeId} {u v : Value} (h : Arr w g t [u, v]) : w.cell? ⟨g, 0, none⟩ = some u := h.cell' (i := 0) rfl
theorem r1_of {w : World} {g : Nat} {t : TypeId} {u v : Value} (h : Arr w g t [u, v]) : w.cell? ⟨g, 1, none⟩ = some v := h.cell' (i := 1) rfl
theorem rparse_un (l : List Nat) (base : Int) (w : World) (hk : knownB base = false) : Calls Tryz.prog 59 #[.string (mks l), .int .i64 base] w (RP w l base) := by
 have hpr : parR l base = ([], 1) := by unfold parR; rw [if_neg (by rw [hk]; decide)]
 have HPR := Lib.hid hpr
 have HK := Lib.hid hk
 have HR := Arr.new w 114 [.bool false, .slice none 0 0]
 have r0 := HR.cell' (i := 0) rfl
 have r1 := HR.cell' (i := 1) rfl
 have f0 := HR.frozen 0
 have f1 := HR.frozen 1
 have hB : Below w.heap.size w (w.alloc (.cells #[.bool false, .slice none 0 0] 114)) := (Below.refl _ _).alloc (Nat.le_refl _) _
 clear hk hpr
 go_enter Tryz.func59, Tryz.ntmps59
 go_wp2_with (go_at_call 84; go_loud (refine (base_any _ _).mono ?_; rintro e w1 ⟨rfl, rfl⟩; rw [HK.out]))
 refine bodyPost_ret (v := .tuple #[.agg #[.bool false, .slice none 0 0], .int .i64 1]) (by simp [results, Tryz.results59, go_sem]) rfl ?_
 refine ⟨(false, 0), 1, none, 0, 0, rfl, .inr ⟨by decide, HPR.out⟩, by show _ = _; rw [dg_zero]; rfl, by rw [dg_zero]; exact Rd.nil, ?_⟩
 first | exact hB | exact (hB.setCell (Nat.le_refl _) _).setCell (Nat.le_refl _) _
theorem drop_take_snoc {l : List Nat} {j c : Nat} (h : l[j]? = some c) (p : Nat → Bool) : (l.take (j + 1)).all p = ((l.take j).all p && p c) := by
 rw [take_cons h, List.all_append]; simp
set_option maxHeartbeats 8000000 in
theorem rparse_a (l : List Nat) (b : Nat) (w : World) (hl : By l) (hm : l.length ≤ 66000) (hk : knownB (b : Int) = true) (c0 : Nat) (hc0 : l[0]? = some c0) (hne : c0 ≠ 45) (hne2 : c0 ≠ 43) (hKl : 0 < l.length) (hpB : parB l = (false, l.drop 0)) :
  Calls Tryz.prog 59 #[.string (mks l), .int .i64 (b : Int)] w (RP w l (b : Int)) := by
 have hb2 : 2 ≤ b ∧ b ≤ 16 := by unfold knownB at hk; have := of_decide_eq_true hk; omega
 have hl0 : 0 < l.length := by omega
 have hg0 := get_mks hc0 (hl.get hc0) (by rw [size_mks]; omega)
 have hne' : ((c0 : Int) == 45) = false := by simp; omega
 have hne2' : ((c0 : Int) == 43) = false := by simp; omega
 have hK1 : ((0 : Int) == (l.length : Int)) = false := by simp; omega
 have HF := Lib.hid (fun hall => parR_form (l := l) hk hpB hall)
 have HO := Lib.hid (fun h1 h2 hall => parR_ok (l := l) hk hpB h1 h2 hall)
 have HK := Lib.hid hk
 have hbodylen : (l.drop 0).length = l.length - 0 := by simp
 have hby : By (l.drop 0) := fun c hc => hl c (List.mem_of_mem_drop hc)
 have hget : ∀ (j c : Nat), (l.drop 0)[j]? = some c → l[j]? = some c := fun j c h => by rw [List.drop_zero] at h; exact h
 have HGET := Lib.hid hget
 have HBL := Lib.hid hbodylen
 clear hk hpB hc0 hget hbodylen
 generalize hbd : l.drop 0 = body at *
 clear hbd
 have HR : Hid (Arr (w.alloc (.cells #[.bool false, .slice none 0 0] 114)) w.heap.size 114 [.bool false, .slice none 0 0]) := Arr.new w _ _
 have hBW : Below w.heap.size w (w.alloc (.cells #[.bool false, .slice none 0 0] 114)) := (Below.refl _ _).alloc (Nat.le_refl _) _
 have hsW : w.heap.size + 1 ≤ (w.alloc (.cells #[.bool false, .slice none 0 0] 114)).heap.size := by simp
 go_enter Tryz.func59, Tryz.ntmps59
 go_upto_region 3 with (go_at_call 84; go_loud (refine (base_any _ _).mono ?_; rintro e w1 ⟨rfl, rfl⟩; rw [HK.out]))
 generalize (w.alloc (.cells #[.bool false, .slice none 0 0] 114)) = W at *
 go_wp2
 go_loopw [7, 8] (fun dv iv wr => ∃ (j : Nat) (A1 : Option Addr) (n1 c1 : Nat), j ≤ body.length ∧ iv = .int .i64 ((j : Nat) : Int) ∧ dv = .slice A1 n1 c1 ∧ Hid ((body.take j).all (fun c => decide (digV c < b)) = true) ∧ Hid (n1 = (dg (hor b digV (body.take j))).length) ∧ n1 ≤ c1 ∧ Rd wr A1 (B8 (dg (hor b digV (body.take j)))) ∧ From (w.heap.size + 1) A1 ∧ Below (w.heap.size + 1) W wr) (fun _ iv _ => l.length - (intOf iv).toNat)
 case atStart => exact ⟨0, none, 0, 0, Nat.zero_le _, rfl, rfl, rfl, by show _ = _; rw [show hor b digV (body.take 0) = 0 from rfl, dg_zero]; rfl, Nat.le_refl _, by rw [show hor b digV (body.take 0) = 0 from rfl, dg_zero]; exact Rd.nil, fun _ h => (by cases h), Below.refl _ _⟩
 case round =>
  obtain ⟨j, A1, n1, c1, hj, rfl, rfl, hall, hn1, hc1, hr1, hf1, hb⟩ := hrel
  have hbs := hb.size
  have hBa : body.length + 0 ≤ l.length := by have := HBL.out; omega
  have hBb : l.length ≤ body.length + 0 := by have := HBL.out; omega
  have hRw := HR.out.below hb (by omega)
  have hnl : n1 ≤ 300000 := by
   have h1 := hor_dg_len (b := b) (f := digV) (l := body.take j) (fun c hc => by have := List.all_eq_true.1 hall.out c hc; exact of_decide_eq_true this) (by omega)
   have h2 := hn1.out
   have h3 : (body.take j).length ≤ body.length := by simp; omega
   omega
  by_cases hlt : j < body.length
  ·obtain ⟨c, hc⟩ : ∃ c, body[j]? = some c := ⟨_, List.getElem?_eq_getElem hlt⟩
   have hcb := hby.get hc
   have hgk := get_mks (HGET.out j c hc) hcb (by rw [size_mks]; omega)
   have hlt' : ((j : Nat) : Int) < (l.length : Int) := by omega
   have hge0 : (0 : Int) ≤ ((j : Nat) : Int) := by omega
   have hS := drop_take_snoc hc (fun c => decide (digV c < b))
   rw [hall.out] at hS
   have hrd0 := r0_of hRw
   have hrd1 := r1_of hRw
   have hfz0 := hRw.frozen 0
   have hfz1 := hRw.frozen 1
   by_cases hd : digV c < b
   ·rw [decide_eq_true hd] at hS
    have HS := Lib.hid hS
    have hst := hor_step (b := b) (f := digV) hc
    have hsc := scale_any A1 n1 c1 (hor b digV (body.take j)) (b : Int) (digV c : Int) wr hn1 hr1 (by omega) (by omega) (by omega) (by omega) (by omega)
    rw [Int.toNat_natCast, Int.toNat_natCast, ← hst] at hsc
    have HSC := Lib.hid hsc
    have hd' : ¬ (b : Int) ≤ (digV c : Int) := by omega
    have hdig := rdigit_any (c : Int) (by omega) (by omega) wr
    rw [Int.toNat_natCast] at hdig
    have HDG := Lib.hid hdig
    clear hS hst hsc hc hdig
    go_wp2_with (first | (go_at_call 85; go_loud (refine HDG.out.mono ?_; rintro e w1 ⟨rfl, rfl⟩)) | (go_at_call 86; go_loud (refine HSC.out.mono ?_; rintro e w5 ⟨A5, n5, c5, rfl, hn5, hc5, hr5, hf5, hb5⟩)))
    go_roundw
    case rel => exact ⟨j + 1, A5, n5, c5, by omega, by go_num, rfl, HS.out, by have := hn5.out; rw [length_B8] at this; exact this, hc5, hr5, fun ad e => by have := hf5 ad e; omega, hb.trans (hb5.mono (by omega))⟩
    case measure => simp [intOf]; omega
   ·have hbad : ¬ body.all (fun c => decide (digV c < b)) = true := by
     intro h
     have := List.all_eq_true.1 h c (List.mem_of_getElem? hc)
     exact hd (of_decide_eq_true this)
    have HBAD := Lib.hid (HF.out hbad)
    have hd' : (b : Int) ≤ (digV c : Int) := by omega
    have hdig := rdigit_any (c : Int) (by omega) (by omega) wr
    rw [Int.toNat_natCast] at hdig
    have HDG := Lib.hid hdig
    clear hS hc hdig hbad
    go_wp2_with (go_at_call 85; go_loud (refine HDG.out.mono ?_; rintro e w1 ⟨rfl, rfl⟩))
    refine bodyPost_ret (v := .tuple #[.agg #[.bool false, .slice none 0 0], .int .i64 3]) (by simp [results, Tryz.results59, go_sem, hrd0, hrd1]) rfl ?_
    exact ⟨(false, 0), 3, none, 0, 0, rfl, .inr ⟨by decide, HBAD.out⟩, by show _ = _; rw [dg_zero]; rfl, by rw [dg_zero]; exact Rd.nil, ((hBW.trans (hb.mono (by omega))).setCell (Nat.le_refl _) _).setCell (Nat.le_refl _) _⟩
  ·have htk : body.take j = body := List.take_of_length_le (by omega)
   rw [htk] at hn1 hr1 hall
   have hok := HO.out (by intro e; have h0 := congrArg List.length e; rw [List.length_nil] at h0; omega) (by omega) hall.out
   generalize hor b digV body = V at *
   have hsg := fun w h => signed_any A1 n1 c1 (dg V) false w hn1 h (ten_dg V) hc1 (by unfold maxLen; omega)
   rw [val_dg] at hsg
   generalize (false && decide (0 < V)) = sg at *
   have HOK := Lib.hid hok
   have HSG := Lib.hid hsg
   have hge : ¬ ((j : Nat) : Int) < (l.length : Int) := by omega
   clear htk hok hall hby hsg
   go_upto_region 17 with (go_at_call 87; go_loud (refine (HSG.out _ hr1).mono ?_; rintro e w6 ⟨kk, rfl, hkk, hkn, hb6⟩))
   obtain ⟨HX, hb7, hz7⟩ := boxes1 w6 114 [.bool sg, .slice A1 kk c1]
   have hRw7 := (hRw.keep hb6).keep hb7
   have hBB : Below w.heap.size w w6 := (hBW.trans (hb.mono (by omega))).trans (hb6.mono (by omega))
   have hB7 := hBB.trans (hb7.mono hBB.size)
   have hr7 := (hr1.keep hb6).keep hb7
   have hHX := HX.out
   generalize (w6.alloc (.cells #[.bool sg, .slice A1 kk c1] 114)) = W7 at *
   have x0 := r0_of hHX
   have x1 := r1_of hHX
   have HLG := Lib.hid (fun w => long_any sg A1 kk c1 w)
   by_cases hlong : kk ≤ 400
   ·have hlg : decide ((400 : Int) < (kk : Int)) = false := by simp; omega
    have HL := Lib.hid hlg
    clear hlg
    go_wp2_with (go_at_call 88; go_loud (refine (HLG.out _).mono ?_; rintro e w8 ⟨rfl, hb8⟩; rw [HL.out]; have y0 := r0_of (hHX.keep hb8); have y1 := r1_of (hHX.keep hb8); have s0 := r0_of (hRw7.keep hb8); have s1 := r1_of (hRw7.keep hb8); have t0 := (hRw7.keep hb8).frozen 0; have t1 := (hRw7.keep hb8).frozen 1))
    refine bodyPost_ret (v := .tuple #[.agg #[.bool sg, .slice A1 kk c1], .int .i64 0]) (by simp [results, Tryz.results59, go_sem, s0, s1]) rfl ?_
    have hV : (dg V).length ≤ 400 := by have := hkk.out; omega
    have hfin : From (w.heap.size + 1) A1 := hf1
    refine ⟨(sg, V), 0, A1, kk, c1, rfl, .inl ⟨rfl, ?_, hV⟩, hkk, ((hr7.keep hb8).setCell _ (fun ad e => by have := hfin ad e; dsimp only; omega)).setCell _ (fun ad e => by have := hfin ad e; dsimp only; omega), ((hB7.trans (hb8.mono hB7.size)).setCell (Nat.le_refl _) _).setCell (Nat.le_refl _) _⟩
    rw [HOK.out, tE_le (x := (sg, V)) hV]
   ·have hlg : decide ((400 : Int) < (kk : Int)) = true := by simp; omega
    have HL := Lib.hid hlg
    clear hlg
    go_wp2_with (go_at_call 88; go_loud (refine (HLG.out _).mono ?_; rintro e w8 ⟨rfl, hb8⟩; rw [HL.out]; have s0 := r0_of (hRw7.keep hb8); have s1 := r1_of (hRw7.keep hb8); have t0 := (hRw7.keep hb8).frozen 0; have t1 := (hRw7.keep hb8).frozen 1))
    refine bodyPost_ret (v := .tuple #[.agg #[.bool false, .slice none 0 0], .int .i64 6]) (by simp [results, Tryz.results59, go_sem, s0, s1]) rfl ?_
    have hV : ¬ (dg V).length ≤ 400 := by have := hkk.out; omega
    refine ⟨(false, 0), 6, none, 0, 0, rfl, .inr ⟨by decide, ?_⟩, by show _ = _; rw [dg_zero]; rfl, by rw [dg_zero]; exact Rd.nil, ((hB7.trans (hb8.mono hB7.size)).setCell (Nat.le_refl _) _).setCell (Nat.le_refl _) _⟩
    rw [HOK.out, tE_gt (x := (sg, V)) hV, tS_gt (x := (sg, V)) hV]
set_option maxHeartbeats 8000000 in
theorem rparse_b (l : List Nat) (b : Nat) (w : World) (hl : By l) (hm : l.length ≤ 66000) (hk : knownB (b : Int) = true) (hc0 : l[0]? = some 45) (hKl : 1 < l.length) (hpB : parB l = (true, l.drop 1)) :
  Calls Tryz.prog 59 #[.string (mks l), .int .i64 (b : Int)] w (RP w l (b : Int)) := by
 have hb2 : 2 ≤ b ∧ b ≤ 16 := by unfold knownB at hk; have := of_decide_eq_true hk; omega
 have hl0 : 0 < l.length := by omega
 have hg0 := get_mks hc0 (hl.get hc0) (by rw [size_mks]; omega)
 skip
 skip
 have hK1 : ((1 : Int) == (l.length : Int)) = false := by simp; omega
 have HF := Lib.hid (fun hall => parR_form (l := l) hk hpB hall)
 have HO := Lib.hid (fun h1 h2 hall => parR_ok (l := l) hk hpB h1 h2 hall)
 have HK := Lib.hid hk
 have hbodylen : (l.drop 1).length = l.length - 1 := by simp
 have hby : By (l.drop 1) := fun c hc => hl c (List.mem_of_mem_drop hc)
 have hget : ∀ (j c : Nat), (l.drop 1)[j]? = some c → l[(1 + j)]? = some c := fun j c h => by rw [List.getElem?_drop] at h; exact h
 have HGET := Lib.hid hget
 have HBL := Lib.hid hbodylen
 clear hk hpB hc0 hget hbodylen
 generalize hbd : l.drop 1 = body at *
 clear hbd
 have HR : Hid (Arr (w.alloc (.cells #[.bool false, .slice none 0 0] 114)) w.heap.size 114 [.bool false, .slice none 0 0]) := Arr.new w _ _
 have hBW : Below w.heap.size w (w.alloc (.cells #[.bool false, .slice none 0 0] 114)) := (Below.refl _ _).alloc (Nat.le_refl _) _
 have hsW : w.heap.size + 1 ≤ (w.alloc (.cells #[.bool false, .slice none 0 0] 114)).heap.size := by simp
 go_enter Tryz.func59, Tryz.ntmps59
 go_upto_region 3 with (go_at_call 84; go_loud (refine (base_any _ _).mono ?_; rintro e w1 ⟨rfl, rfl⟩; rw [HK.out]))
 generalize (w.alloc (.cells #[.bool false, .slice none 0 0] 114)) = W at *
 go_wp2
 go_loopw [7, 8] (fun dv iv wr => ∃ (j : Nat) (A1 : Option Addr) (n1 c1 : Nat), j ≤ body.length ∧ iv = .int .i64 (((1 + j) : Nat) : Int) ∧ dv = .slice A1 n1 c1 ∧ Hid ((body.take j).all (fun c => decide (digV c < b)) = true) ∧ Hid (n1 = (dg (hor b digV (body.take j))).length) ∧ n1 ≤ c1 ∧ Rd wr A1 (B8 (dg (hor b digV (body.take j)))) ∧ From (w.heap.size + 1) A1 ∧ Below (w.heap.size + 1) W wr) (fun _ iv _ => l.length - (intOf iv).toNat)
 case atStart => exact ⟨0, none, 0, 0, Nat.zero_le _, rfl, rfl, rfl, by show _ = _; rw [show hor b digV (body.take 0) = 0 from rfl, dg_zero]; rfl, Nat.le_refl _, by rw [show hor b digV (body.take 0) = 0 from rfl, dg_zero]; exact Rd.nil, fun _ h => (by cases h), Below.refl _ _⟩
 case round =>
  obtain ⟨j, A1, n1, c1, hj, rfl, rfl, hall, hn1, hc1, hr1, hf1, hb⟩ := hrel
  have hbs := hb.size
  have hBa : body.length + 1 ≤ l.length := by have := HBL.out; omega
  have hBb : l.length ≤ body.length + 1 := by have := HBL.out; omega
  have hRw := HR.out.below hb (by omega)
  have hnl : n1 ≤ 300000 := by
   have h1 := hor_dg_len (b := b) (f := digV) (l := body.take j) (fun c hc => by have := List.all_eq_true.1 hall.out c hc; exact of_decide_eq_true this) (by omega)
   have h2 := hn1.out
   have h3 : (body.take j).length ≤ body.length := by simp; omega
   omega
  by_cases hlt : j < body.length
  ·obtain ⟨c, hc⟩ : ∃ c, body[j]? = some c := ⟨_, List.getElem?_eq_getElem hlt⟩
   have hcb := hby.get hc
   have hgk := get_mks (HGET.out j c hc) hcb (by rw [size_mks]; omega)
   have hlt' : (((1 + j) : Nat) : Int) < (l.length : Int) := by omega
   have hge0 : (0 : Int) ≤ (((1 + j) : Nat) : Int) := by omega
   have hS := drop_take_snoc hc (fun c => decide (digV c < b))
   rw [hall.out] at hS
   have hrd0 := r0_of hRw
   have hrd1 := r1_of hRw
   have hfz0 := hRw.frozen 0
   have hfz1 := hRw.frozen 1
   by_cases hd : digV c < b
   ·rw [decide_eq_true hd] at hS
    have HS := Lib.hid hS
    have hst := hor_step (b := b) (f := digV) hc
    have hsc := scale_any A1 n1 c1 (hor b digV (body.take j)) (b : Int) (digV c : Int) wr hn1 hr1 (by omega) (by omega) (by omega) (by omega) (by omega)
    rw [Int.toNat_natCast, Int.toNat_natCast, ← hst] at hsc
    have HSC := Lib.hid hsc
    have hd' : ¬ (b : Int) ≤ (digV c : Int) := by omega
    have hdig := rdigit_any (c : Int) (by omega) (by omega) wr
    rw [Int.toNat_natCast] at hdig
    have HDG := Lib.hid hdig
    clear hS hst hsc hc hdig
    go_wp2_with (first | (go_at_call 85; go_loud (refine HDG.out.mono ?_; rintro e w1 ⟨rfl, rfl⟩)) | (go_at_call 86; go_loud (refine HSC.out.mono ?_; rintro e w5 ⟨A5, n5, c5, rfl, hn5, hc5, hr5, hf5, hb5⟩)))
    go_roundw
    case rel => exact ⟨j + 1, A5, n5, c5, by omega, by go_num, rfl, HS.out, by have := hn5.out; rw [length_B8] at this; exact this, hc5, hr5, fun ad e => by have := hf5 ad e; omega, hb.trans (hb5.mono (by omega))⟩
    case measure => simp [intOf]; omega
   ·have hbad : ¬ body.all (fun c => decide (digV c < b)) = true := by
     intro h
     have := List.all_eq_true.1 h c (List.mem_of_getElem? hc)
     exact hd (of_decide_eq_true this)
    have HBAD := Lib.hid (HF.out hbad)
    have hd' : (b : Int) ≤ (digV c : Int) := by omega
    have hdig := rdigit_any (c : Int) (by omega) (by omega) wr
    rw [Int.toNat_natCast] at hdig
    have HDG := Lib.hid hdig
    clear hS hc hdig hbad
    go_wp2_with (go_at_call 85; go_loud (refine HDG.out.mono ?_; rintro e w1 ⟨rfl, rfl⟩))
    refine bodyPost_ret (v := .tuple #[.agg #[.bool false, .slice none 0 0], .int .i64 3]) (by simp [results, Tryz.results59, go_sem, hrd0, hrd1]) rfl ?_
    exact ⟨(false, 0), 3, none, 0, 0, rfl, .inr ⟨by decide, HBAD.out⟩, by show _ = _; rw [dg_zero]; rfl, by rw [dg_zero]; exact Rd.nil, ((hBW.trans (hb.mono (by omega))).setCell (Nat.le_refl _) _).setCell (Nat.le_refl _) _⟩
  ·have htk : body.take j = body := List.take_of_length_le (by omega)
   rw [htk] at hn1 hr1 hall
   have hok := HO.out (by intro e; have h0 := congrArg List.length e; rw [List.length_nil] at h0; omega) (by omega) hall.out
   generalize hor b digV body = V at *
   have hsg := fun w h => signed_any A1 n1 c1 (dg V) true w hn1 h (ten_dg V) hc1 (by unfold maxLen; omega)
   rw [val_dg] at hsg
   generalize (true && decide (0 < V)) = sg at *
   have HOK := Lib.hid hok
   have HSG := Lib.hid hsg
   have hge : ¬ (((1 + j) : Nat) : Int) < (l.length : Int) := by omega
   clear htk hok hall hby hsg
   go_upto_region 17 with (go_at_call 87; go_loud (refine (HSG.out _ hr1).mono ?_; rintro e w6 ⟨kk, rfl, hkk, hkn, hb6⟩))
   obtain ⟨HX, hb7, hz7⟩ := boxes1 w6 114 [.bool sg, .slice A1 kk c1]
   have hRw7 := (hRw.keep hb6).keep hb7
   have hBB : Below w.heap.size w w6 := (hBW.trans (hb.mono (by omega))).trans (hb6.mono (by omega))
   have hB7 := hBB.trans (hb7.mono hBB.size)
   have hr7 := (hr1.keep hb6).keep hb7
   have hHX := HX.out
   generalize (w6.alloc (.cells #[.bool sg, .slice A1 kk c1] 114)) = W7 at *
   have x0 := r0_of hHX
   have x1 := r1_of hHX
   have HLG := Lib.hid (fun w => long_any sg A1 kk c1 w)
   by_cases hlong : kk ≤ 400
   ·have hlg : decide ((400 : Int) < (kk : Int)) = false := by simp; omega
    have HL := Lib.hid hlg
    clear hlg
    go_wp2_with (go_at_call 88; go_loud (refine (HLG.out _).mono ?_; rintro e w8 ⟨rfl, hb8⟩; rw [HL.out]; have y0 := r0_of (hHX.keep hb8); have y1 := r1_of (hHX.keep hb8); have s0 := r0_of (hRw7.keep hb8); have s1 := r1_of (hRw7.keep hb8); have t0 := (hRw7.keep hb8).frozen 0; have t1 := (hRw7.keep hb8).frozen 1))
    refine bodyPost_ret (v := .tuple #[.agg #[.bool sg, .slice A1 kk c1], .int .i64 0]) (by simp [results, Tryz.results59, go_sem, s0, s1]) rfl ?_
    have hV : (dg V).length ≤ 400 := by have := hkk.out; omega
    have hfin : From (w.heap.size + 1) A1 := hf1
    refine ⟨(sg, V), 0, A1, kk, c1, rfl, .inl ⟨rfl, ?_, hV⟩, hkk, ((hr7.keep hb8).setCell _ (fun ad e => by have := hfin ad e; dsimp only; omega)).setCell _ (fun ad e => by have := hfin ad e; dsimp only; omega), ((hB7.trans (hb8.mono hB7.size)).setCell (Nat.le_refl _) _).setCell (Nat.le_refl _) _⟩
    rw [HOK.out, tE_le (x := (sg, V)) hV]
   ·have hlg : decide ((400 : Int) < (kk : Int)) = true := by simp; omega
    have HL := Lib.hid hlg
    clear hlg
    go_wp2_with (go_at_call 88; go_loud (refine (HLG.out _).mono ?_; rintro e w8 ⟨rfl, hb8⟩; rw [HL.out]; have s0 := r0_of (hRw7.keep hb8); have s1 := r1_of (hRw7.keep hb8); have t0 := (hRw7.keep hb8).frozen 0; have t1 := (hRw7.keep hb8).frozen 1))
    refine bodyPost_ret (v := .tuple #[.agg #[.bool false, .slice none 0 0], .int .i64 6]) (by simp [results, Tryz.results59, go_sem, s0, s1]) rfl ?_
    have hV : ¬ (dg V).length ≤ 400 := by have := hkk.out; omega
    refine ⟨(false, 0), 6, none, 0, 0, rfl, .inr ⟨by decide, ?_⟩, by show _ = _; rw [dg_zero]; rfl, by rw [dg_zero]; exact Rd.nil, ((hB7.trans (hb8.mono hB7.size)).setCell (Nat.le_refl _) _).setCell (Nat.le_refl _) _⟩
    rw [HOK.out, tE_gt (x := (sg, V)) hV, tS_gt (x := (sg, V)) hV]
set_option maxHeartbeats 8000000 in
theorem rparse_c (l : List Nat) (b : Nat) (w : World) (hl : By l) (hm : l.length ≤ 66000) (hk : knownB (b : Int) = true) (hc0 : l[0]? = some 43) (hKl : 1 < l.length) (hpB : parB l = (false, l.drop 1)) :
  Calls Tryz.prog 59 #[.string (mks l), .int .i64 (b : Int)] w (RP w l (b : Int)) := by
 have hb2 : 2 ≤ b ∧ b ≤ 16 := by unfold knownB at hk; have := of_decide_eq_true hk; omega
 have hl0 : 0 < l.length := by omega
 have hg0 := get_mks hc0 (hl.get hc0) (by rw [size_mks]; omega)
 skip
 skip
 have hK1 : ((1 : Int) == (l.length : Int)) = false := by simp; omega
 have HF := Lib.hid (fun hall => parR_form (l := l) hk hpB hall)
 have HO := Lib.hid (fun h1 h2 hall => parR_ok (l := l) hk hpB h1 h2 hall)
 have HK := Lib.hid hk
 have hbodylen : (l.drop 1).length = l.length - 1 := by simp
 have hby : By (l.drop 1) := fun c hc => hl c (List.mem_of_mem_drop hc)
 have hget : ∀ (j c : Nat), (l.drop 1)[j]? = some c → l[(1 + j)]? = some c := fun j c h => by rw [List.getElem?_drop] at h; exact h
 have HGET := Lib.hid hget
 have HBL := Lib.hid hbodylen
 clear hk hpB hc0 hget hbodylen
 generalize hbd : l.drop 1 = body at *
 clear hbd
 have HR : Hid (Arr (w.alloc (.cells #[.bool false, .slice none 0 0] 114)) w.heap.size 114 [.bool false, .slice none 0 0]) := Arr.new w _ _
 have hBW : Below w.heap.size w (w.alloc (.cells #[.bool false, .slice none 0 0] 114)) := (Below.refl _ _).alloc (Nat.le_refl _) _
 have hsW : w.heap.size + 1 ≤ (w.alloc (.cells #[.bool false, .slice none 0 0] 114)).heap.size := by simp
 go_enter Tryz.func59, Tryz.ntmps59
 go_upto_region 3 with (go_at_call 84; go_loud (refine (base_any _ _).mono ?_; rintro e w1 ⟨rfl, rfl⟩; rw [HK.out]))
 generalize (w.alloc (.cells #[.bool false, .slice none 0 0] 114)) = W at *
 go_wp2
 go_loopw [7, 8] (fun dv iv wr => ∃ (j : Nat) (A1 : Option Addr) (n1 c1 : Nat), j ≤ body.length ∧ iv = .int .i64 (((1 + j) : Nat) : Int) ∧ dv = .slice A1 n1 c1 ∧ Hid ((body.take j).all (fun c => decide (digV c < b)) = true) ∧ Hid (n1 = (dg (hor b digV (body.take j))).length) ∧ n1 ≤ c1 ∧ Rd wr A1 (B8 (dg (hor b digV (body.take j)))) ∧ From (w.heap.size + 1) A1 ∧ Below (w.heap.size + 1) W wr) (fun _ iv _ => l.length - (intOf iv).toNat)
 case atStart => exact ⟨0, none, 0, 0, Nat.zero_le _, rfl, rfl, rfl, by show _ = _; rw [show hor b digV (body.take 0) = 0 from rfl, dg_zero]; rfl, Nat.le_refl _, by rw [show hor b digV (body.take 0) = 0 from rfl, dg_zero]; exact Rd.nil, fun _ h => (by cases h), Below.refl _ _⟩
 case round =>
  obtain ⟨j, A1, n1, c1, hj, rfl, rfl, hall, hn1, hc1, hr1, hf1, hb⟩ := hrel
  have hbs := hb.size
  have hBa : body.length + 1 ≤ l.length := by have := HBL.out; omega
  have hBb : l.length ≤ body.length + 1 := by have := HBL.out; omega
  have hRw := HR.out.below hb (by omega)
  have hnl : n1 ≤ 300000 := by
   have h1 := hor_dg_len (b := b) (f := digV) (l := body.take j) (fun c hc => by have := List.all_eq_true.1 hall.out c hc; exact of_decide_eq_true this) (by omega)
   have h2 := hn1.out
   have h3 : (body.take j).length ≤ body.length := by simp; omega
   omega
  by_cases hlt : j < body.length
  ·obtain ⟨c, hc⟩ : ∃ c, body[j]? = some c := ⟨_, List.getElem?_eq_getElem hlt⟩
   have hcb := hby.get hc
   have hgk := get_mks (HGET.out j c hc) hcb (by rw [size_mks]; omega)
   have hlt' : (((1 + j) : Nat) : Int) < (l.length : Int) := by omega
   have hge0 : (0 : Int) ≤ (((1 + j) : Nat) : Int) := by omega
   have hS := drop_take_snoc hc (fun c => decide (digV c < b))
   rw [hall.out] at hS
   have hrd0 := r0_of hRw
   have hrd1 := r1_of hRw
   have hfz0 := hRw.frozen 0
   have hfz1 := hRw.frozen 1
   by_cases hd : digV c < b
   ·rw [decide_eq_true hd] at hS
    have HS := Lib.hid hS
    have hst := hor_step (b := b) (f := digV) hc
    have hsc := scale_any A1 n1 c1 (hor b digV (body.take j)) (b : Int) (digV c : Int) wr hn1 hr1 (by omega) (by omega) (by omega) (by omega) (by omega)
    rw [Int.toNat_natCast, Int.toNat_natCast, ← hst] at hsc
    have HSC := Lib.hid hsc
    have hd' : ¬ (b : Int) ≤ (digV c : Int) := by omega
    have hdig := rdigit_any (c : Int) (by omega) (by omega) wr
    rw [Int.toNat_natCast] at hdig
    have HDG := Lib.hid hdig
    clear hS hst hsc hc hdig
    go_wp2_with (first | (go_at_call 85; go_loud (refine HDG.out.mono ?_; rintro e w1 ⟨rfl, rfl⟩)) | (go_at_call 86; go_loud (refine HSC.out.mono ?_; rintro e w5 ⟨A5, n5, c5, rfl, hn5, hc5, hr5, hf5, hb5⟩)))
    go_roundw
    case rel => exact ⟨j + 1, A5, n5, c5, by omega, by go_num, rfl, HS.out, by have := hn5.out; rw [length_B8] at this; exact this, hc5, hr5, fun ad e => by have := hf5 ad e; omega, hb.trans (hb5.mono (by omega))⟩
    case measure => simp [intOf]; omega
   ·have hbad : ¬ body.all (fun c => decide (digV c < b)) = true := by
     intro h
     have := List.all_eq_true.1 h c (List.mem_of_getElem? hc)
     exact hd (of_decide_eq_true this)
    have HBAD := Lib.hid (HF.out hbad)
    have hd' : (b : Int) ≤ (digV c : Int) := by omega
    have hdig := rdigit_any (c : Int) (by omega) (by omega) wr
    rw [Int.toNat_natCast] at hdig
    have HDG := Lib.hid hdig
    clear hS hc hdig hbad
    go_wp2_with (go_at_call 85; go_loud (refine HDG.out.mono ?_; rintro e w1 ⟨rfl, rfl⟩))
    refine bodyPost_ret (v := .tuple #[.agg #[.bool false, .slice none 0 0], .int .i64 3]) (by simp [results, Tryz.results59, go_sem, hrd0, hrd1]) rfl ?_
    exact ⟨(false, 0), 3, none, 0, 0, rfl, .inr ⟨by decide, HBAD.out⟩, by show _ = _; rw [dg_zero]; rfl, by rw [dg_zero]; exact Rd.nil, ((hBW.trans (hb.mono (by omega))).setCell (Nat.le_refl _) _).setCell (Nat.le_refl _) _⟩
  ·have htk : body.take j = body := List.take_of_length_le (by omega)
   rw [htk] at hn1 hr1 hall
   have hok := HO.out (by intro e; have h0 := congrArg List.length e; rw [List.length_nil] at h0; omega) (by omega) hall.out
   generalize hor b digV body = V at *
   have hsg := fun w h => signed_any A1 n1 c1 (dg V) false w hn1 h (ten_dg V) hc1 (by unfold maxLen; omega)
   rw [val_dg] at hsg
   generalize (false && decide (0 < V)) = sg at *
   have HOK := Lib.hid hok
   have HSG := Lib.hid hsg
   have hge : ¬ (((1 + j) : Nat) : Int) < (l.length : Int) := by omega
   clear htk hok hall hby hsg
   go_upto_region 17 with (go_at_call 87; go_loud (refine (HSG.out _ hr1).mono ?_; rintro e w6 ⟨kk, rfl, hkk, hkn, hb6⟩))
   obtain ⟨HX, hb7, hz7⟩ := boxes1 w6 114 [.bool sg, .slice A1 kk c1]
   have hRw7 := (hRw.keep hb6).keep hb7
   have hBB : Below w.heap.size w w6 := (hBW.trans (hb.mono (by omega))).trans (hb6.mono (by omega))
   have hB7 := hBB.trans (hb7.mono hBB.size)
   have hr7 := (hr1.keep hb6).keep hb7
   have hHX := HX.out
   generalize (w6.alloc (.cells #[.bool sg, .slice A1 kk c1] 114)) = W7 at *
   have x0 := r0_of hHX
   have x1 := r1_of hHX
   have HLG := Lib.hid (fun w => long_any sg A1 kk c1 w)
   by_cases hlong : kk ≤ 400
   ·have hlg : decide ((400 : Int) < (kk : Int)) = false := by simp; omega
    have HL := Lib.hid hlg
    clear hlg
    go_wp2_with (go_at_call 88; go_loud (refine (HLG.out _).mono ?_; rintro e w8 ⟨rfl, hb8⟩; rw [HL.out]; have y0 := r0_of (hHX.keep hb8); have y1 := r1_of (hHX.keep hb8); have s0 := r0_of (hRw7.keep hb8); have s1 := r1_of (hRw7.keep hb8); have t0 := (hRw7.keep hb8).frozen 0; have t1 := (hRw7.keep hb8).frozen 1))
    refine bodyPost_ret (v := .tuple #[.agg #[.bool sg, .slice A1 kk c1], .int .i64 0]) (by simp [results, Tryz.results59, go_sem, s0, s1]) rfl ?_
    have hV : (dg V).length ≤ 400 := by have := hkk.out; omega
    have hfin : From (w.heap.size + 1) A1 := hf1
    refine ⟨(sg, V), 0, A1, kk, c1, rfl, .inl ⟨rfl, ?_, hV⟩, hkk, ((hr7.keep hb8).setCell _ (fun ad e => by have := hfin ad e; dsimp only; omega)).setCell _ (fun ad e => by have := hfin ad e; dsimp only; omega), ((hB7.trans (hb8.mono hB7.size)).setCell (Nat.le_refl _) _).setCell (Nat.le_refl _) _⟩
    rw [HOK.out, tE_le (x := (sg, V)) hV]
   ·have hlg : decide ((400 : Int) < (kk : Int)) = true := by simp; omega
    have HL := Lib.hid hlg
    clear hlg
    go_wp2_with (go_at_call 88; go_loud (refine (HLG.out _).mono ?_; rintro e w8 ⟨rfl, hb8⟩; rw [HL.out]; have s0 := r0_of (hRw7.keep hb8); have s1 := r1_of (hRw7.keep hb8); have t0 := (hRw7.keep hb8).frozen 0; have t1 := (hRw7.keep hb8).frozen 1))
    refine bodyPost_ret (v := .tuple #[.agg #[.bool false, .slice none 0 0], .int .i64 6]) (by simp [results, Tryz.results59, go_sem, s0, s1]) rfl ?_
    have hV : ¬ (dg V).length ≤ 400 := by have := hkk.out; omega
    refine ⟨(false, 0), 6, none, 0, 0, rfl, .inr ⟨by decide, ?_⟩, by show _ = _; rw [dg_zero]; rfl, by rw [dg_zero]; exact Rd.nil, ((hB7.trans (hb8.mono hB7.size)).setCell (Nat.le_refl _) _).setCell (Nat.le_refl _) _⟩
    rw [HOK.out, tE_gt (x := (sg, V)) hV, tS_gt (x := (sg, V)) hV]
theorem rparse_ee (b : Nat) (w : World) (hk : knownB (b : Int) = true) : Calls Tryz.prog 59 #[.string (mks []), .int .i64 (b : Int)] w (RP w [] (b : Int)) := by
 have hpr : parR [] (b : Int) = ([], 3) := by
  unfold parR
  rw [if_pos hk, show parB [] = (false, []) from rfl]
  rfl
 have HPR := Lib.hid hpr
 have HK := Lib.hid hk
 skip
 have HR := Arr.new w 114 [.bool false, .slice none 0 0]
 have r0 := HR.cell' (i := 0) rfl
 have r1 := HR.cell' (i := 1) rfl
 have f0 := HR.frozen 0
 have f1 := HR.frozen 1
 have hB : Below w.heap.size w (w.alloc (.cells #[.bool false, .slice none 0 0] 114)) := (Below.refl _ _).alloc (Nat.le_refl _) _
 clear hk hpr
 go_enter Tryz.func59, Tryz.ntmps59
 go_wp2_with (go_at_call 84; go_loud (refine (base_any _ _).mono ?_; rintro e w1 ⟨rfl, rfl⟩; rw [HK.out]))
 refine bodyPost_ret (v := .tuple #[.agg #[.bool false, .slice none 0 0], .int .i64 3]) (by simp [results, Tryz.results59, go_sem]) rfl ?_
 refine ⟨(false, 0), 3, none, 0, 0, rfl, .inr ⟨by decide, HPR.out⟩, by show _ = _; rw [dg_zero]; rfl, by rw [dg_zero]; exact Rd.nil, ?_⟩
 first | exact hB | exact (hB.setCell (Nat.le_refl _) _).setCell (Nat.le_refl _) _
theorem rparse_ep (b : Nat) (w : World) (hk : knownB (b : Int) = true) : Calls Tryz.prog 59 #[.string (mks [43]), .int .i64 (b : Int)] w (RP w [43] (b : Int)) := by
 have hpr : parR [43] (b : Int) = ([], 3) := by
  unfold parR
  rw [if_pos hk, show parB [43] = (false, []) from rfl]
  rfl
 have HPR := Lib.hid hpr
 have HK := Lib.hid hk
 have hg0 := get_mks (l := [43]) (i := 0) rfl (by omega) (by rw [size_mks]; simp)
 have HR := Arr.new w 114 [.bool false, .slice none 0 0]
 have r0 := HR.cell' (i := 0) rfl
 have r1 := HR.cell' (i := 1) rfl
 have f0 := HR.frozen 0
 have f1 := HR.frozen 1
 have hB : Below w.heap.size w (w.alloc (.cells #[.bool false, .slice none 0 0] 114)) := (Below.refl _ _).alloc (Nat.le_refl _) _
 clear hk hpr
 go_enter Tryz.func59, Tryz.ntmps59
 go_wp2_with (go_at_call 84; go_loud (refine (base_any _ _).mono ?_; rintro e w1 ⟨rfl, rfl⟩; rw [HK.out]))
 refine bodyPost_ret (v := .tuple #[.agg #[.bool false, .slice none 0 0], .int .i64 3]) (by simp [results, Tryz.results59, go_sem]) rfl ?_
 refine ⟨(false, 0), 3, none, 0, 0, rfl, .inr ⟨by decide, HPR.out⟩, by show _ = _; rw [dg_zero]; rfl, by rw [dg_zero]; exact Rd.nil, ?_⟩
 first | exact hB | exact (hB.setCell (Nat.le_refl _) _).setCell (Nat.le_refl _) _
theorem rparse_em (b : Nat) (w : World) (hk : knownB (b : Int) = true) : Calls Tryz.prog 59 #[.string (mks [45]), .int .i64 (b : Int)] w (RP w [45] (b : Int)) := by
 have hpr : parR [45] (b : Int) = ([], 3) := by
  unfold parR
  rw [if_pos hk, show parB [45] = (true, []) from rfl]
  rfl
 have HPR := Lib.hid hpr
 have HK := Lib.hid hk
 have hg0 := get_mks (l := [45]) (i := 0) rfl (by omega) (by rw [size_mks]; simp)
 have HR := Arr.new w 114 [.bool false, .slice none 0 0]
 have r0 := HR.cell' (i := 0) rfl
 have r1 := HR.cell' (i := 1) rfl
 have f0 := HR.frozen 0
 have f1 := HR.frozen 1
 have hB : Below w.heap.size w (w.alloc (.cells #[.bool false, .slice none 0 0] 114)) := (Below.refl _ _).alloc (Nat.le_refl _) _
 clear hk hpr
 go_enter Tryz.func59, Tryz.ntmps59
 go_wp2_with (go_at_call 84; go_loud (refine (base_any _ _).mono ?_; rintro e w1 ⟨rfl, rfl⟩; rw [HK.out]))
 refine bodyPost_ret (v := .tuple #[.agg #[.bool false, .slice none 0 0], .int .i64 3]) (by simp [results, Tryz.results59, go_sem]) rfl ?_
 refine ⟨(false, 0), 3, none, 0, 0, rfl, .inr ⟨by decide, HPR.out⟩, by show _ = _; rw [dg_zero]; rfl, by rw [dg_zero]; exact Rd.nil, ?_⟩
 first | exact hB | exact (hB.setCell (Nat.le_refl _) _).setCell (Nat.le_refl _) _
theorem rparse_any (l : List Nat) (base : Int) (w : World) (hl : By l) (hm : l.length ≤ 66000) : Calls Tryz.prog 59 #[.string (mks l), .int .i64 base] w (RP w l base) := by
 cases hk : knownB base with
 | false => exact rparse_un l base w hk
 | true =>
  obtain ⟨b, rfl⟩ : ∃ b : Nat, base = (b : Int) := by
   have : base = 2 ∨ base = 8 ∨ base = 10 ∨ base = 16 := by unfold knownB at hk; exact of_decide_eq_true hk
   exact ⟨base.toNat, by omega⟩
  cases l with
  | nil => exact rparse_ee b w hk
  | cons c r =>
   by_cases h3 : c = 43
   ·subst h3
    cases r with
    | nil => exact rparse_ep b w hk
    | cons d r => exact rparse_c (43 :: d :: r) b w hl hm hk rfl (by simp) rfl
   ·by_cases h5 : c = 45
    ·subst h5
     cases r with
     | nil => exact rparse_em b w hk
     | cons d r => exact rparse_b (45 :: d :: r) b w hl hm hk rfl (by simp) rfl
    ·refine rparse_a (c :: r) b w hl hm hk c rfl h5 h3 (by simp) ?_
     unfold parB
     split
     ·next h2 => exact absurd (List.cons.inj h2).1 h3
     ·next h2 => exact absurd (List.cons.inj h2).1 h5
     ·rfl
end Go.Proofs.YtbdnamcjhndpjaaGreatDoor
