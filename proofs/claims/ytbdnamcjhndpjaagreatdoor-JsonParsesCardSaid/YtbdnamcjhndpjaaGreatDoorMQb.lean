/- The walk of At of the reference's UTF-8. -/
import Derived.Test.YtbdnamcjhndpjaaGreatDoorMQa
import Derived.Laws.IdiomStrings
import Derived.Test.YtbdnamcjhndpjaaGreatDoorMH
import Derived.Test.YtbdnamcjhndpjaaGreatDoorMF
import Derived.Test.YtbdnamcjhndpjaaGreatDoorMD
set_option linter.unusedVariables false
set_option linter.unusedSimpArgs false
set_option linter.defProp false
set_option linter.constructorNameAsVariable false
namespace Go.Proofs.YtbdnamcjhndpjaaGreatDoor
open Go.RowKit
def PairB (w : World) (p : Nat × Nat) (e : Ending) (w' : World) : Prop := e = .returned (.tuple #[.int .i64 (p.1 : Int), .int .i64 (p.2 : Int)]) ∧ Below w.heap.size w w'
theorem run_b8 (l : List Nat) (hl : By l) (w : World) : ∃ c W, (convert 9 103 (.string (mks l))).run Tryz.prog w = .ok (.slice (some ⟨w.heap.size, 0, none⟩) l.length c) W ∧ l.length ≤ c ∧
  Rd W (some ⟨w.heap.size, 0, none⟩) (B8 l) ∧ Below w.heap.size w W := by
 have h := run_bytes_of_string (P := Tryz.prog) w 9 103 5 (mks l) Tryz.underlying9 Tryz.underlying103 Tryz.underlying5
 rw [size_mks] at h
 refine ⟨_, _, h, grownCap_ge _ _ _ _, ?_, ?_⟩
 ·intro j u hj
  refine ⟨_, rfl, ?_⟩
  have e : (⟨w.heap.size, 0, none⟩ : Addr).add j = ⟨w.drew.heap.size, j, none⟩ := by unfold Addr.add; split <;> simp_all
  rw [e, World.cell?_alloc_mark]
  obtain ⟨d, hd, rfl⟩ : ∃ d, l[j]? = some d ∧ u = .int .u8 (d : Int) := by
   unfold B8 at hj
   rw [List.getElem?_map] at hj
   cases hd : l[j]? with
   | none => rw [hd] at hj; cases hj
   | some d => rw [hd] at hj; exact ⟨d, rfl, (Option.some.inj hj).symm⟩
  have hlt := (List.getElem?_eq_some_iff.1 hd).1
  rw [bytesRow_at _ _ _ (by show j < (mks l).size; rw [size_mks]; exact hlt)]
  have := get_mks hd (hl.get hd) (by rw [size_mks]; exact hlt)
  have e2 : ((mks l).data[j]'(by show j < (mks l).size; rw [size_mks]; exact hlt)).toNat = d := this
  rw [e2]
 ·exact ((Below.refl _ _).drew).alloc (Nat.le_refl _) _
theorem add_zero_off (g p : Nat) : (⟨g, 0, none⟩ : Addr).add p = ⟨g, p, none⟩ := by unfold Addr.add; split <;> simp_all
theorem begins_h (a : Nat) (t : List Nat) (hb : By (a :: t)) (ad : Addr) (n c : Nat) (hn : Hid (n = t.length + 1)) : Hid (∀ w, Rd w (some ad) (B8 (a :: t)) → Calls Tryz.prog 77 #[.slice (some ad) n c] w (PairQ w (begV (a :: t)))) := fun w hr => begins_any a t hb ad n c hn w hr
theorem at_cases {m k : Nat} {l : List Nat} {r : Nat × Nat} (h : atG (m + 1) k l = r) : (l.length < k ∧ r = (0, 0)) ∨ (k ≤ l.length ∧ (begV (l.take k)).2 = k ∧ r = begV (l.take k)) ∨ (k ≤ l.length ∧ (begV (l.take k)).2 ≠ k ∧ atG m (k + 1) l = r) := by
 rw [atG] at h
 by_cases h1 : l.length < k
 ·rw [if_pos h1] at h; exact .inl ⟨h1, h.symm⟩
 ·rw [if_neg h1] at h
  by_cases h2 : (begV (l.take k)).2 = k
  ·rw [if_pos h2] at h; exact .inr (.inl ⟨by omega, h2, h.symm⟩)
  ·rw [if_neg h2] at h; exact .inr (.inr ⟨by omega, h2, h⟩)
set_option maxRecDepth 8000 in
set_option maxHeartbeats 4000000 in
theorem at_any (l : List Nat) (hl : By l) (hlen : l.length < 4294967296) (p : Nat) (hp : p ≤ l.length) (w : World) : Calls Tryz.prog 46 #[.string (mks l), .int .i64 (p : Int)] w (PairB w (atV (l.drop p))) := by
 generalize hr : atV (l.drop p) = r
 have HR : Hid (atG 4 1 (l.drop p) = r) := hr
 clear hr
 obtain ⟨c, W, hcv, hc, hrd, hbw⟩ := run_b8 l hl w
 have hgs := hbw.size
 generalize hg : w.heap.size = g at *
 have HG := Lib.hid hg.symm
 clear hg
 have HBW := Lib.hid hbw
 have HRD := Lib.hid hrd
 clear hbw hrd
 go_enter Tryz.func46, Tryz.ntmps46
 go_wp2
 go_loopw [7] (fun kv wr => ∃ m k : Nat, m + k = 5 ∧ 1 ≤ k ∧ Hid (atG m k (l.drop p) = r) ∧ kv = .int .i64 (k : Int) ∧ ∃ j, wr = W.drewN j) (fun kv _ => 5 - (intOf kv).toNat)
 case atStart => exact ⟨4, 1, rfl, by omega, HR, rfl, by first | exact q0 _ | exact q1 _ _⟩
 case round =>
  clear hcv
  obtain ⟨m, k, hmk, hk1, hat, rfl, j, rfl⟩ := hrel
  cases m with
  | zero =>
   obtain rfl : k = 5 := by omega
   obtain rfl : (0, 0) = r := hat.out
   clear hat HR
   go_wp2
   go_ret2
   exact ⟨rfl, HG.out ▸ Below.drewN' HBW.out _⟩
  | succ m =>
   have hk4 : (k : Int) ≤ 4 := by omega
   rcases at_cases hat.out with ⟨h1, rfl⟩ | ⟨h1, h2, rfl⟩ | ⟨h1, h2, h3⟩
   ·have hle : ¬ ((p : Int) + k ≤ l.length) := by rw [List.length_drop] at h1; omega
    clear hat HR
    go_wp2
    go_ret2
    exact ⟨rfl, HG.out ▸ Below.drewN' HBW.out _⟩
   all_goals
    rw [List.length_drop] at h1
    have h1' : p + k ≤ l.length := by clear hc hgs; omega
    have hle : (p : Int) + k ≤ l.length := by omega
    have hle2 : (p : Int) + k ≤ c := by omega
    have hpk : (p : Int) ≤ p + k := by omega
    have e1 : (((p : Int) + k).toNat) = p + k := by omega
    obtain ⟨a, t, hat2, htl⟩ : ∃ a t, (l.drop p).take k = a :: t ∧ Hid (k = t.length + 1) := by
     have hlk : ((l.drop p).take k).length = k := by rw [List.length_take, List.length_drop]; omega
     cases h : (l.drop p).take k with
     | nil => rw [h] at hlk; simp at hlk; omega
     | cons a t => rw [h] at hlk; exact ⟨a, t, rfl, by show _ = _; simp at hlk; omega⟩
    have hby : By (a :: t) := hat2 ▸ (hl.drop p).take k
    have hrd2 : Rd W (some ((⟨g, 0, none⟩ : Addr).add p)) (B8 (a :: t)) := by
     rw [← hat2]
     have := (HRD.out.drop p).take k
     have e5 : (B8 l).drop p = B8 (l.drop p) := by simp [B8]
     have e6 : ∀ x, (B8 x).take k = B8 (x.take k) := fun x => by simp [B8]
     rw [e5, e6] at this
     exact this
    rw [add_zero_off] at hrd2
    have DB := (begins_h a t hby ⟨g, p, none⟩ k (c - p) htl).out
    rw [hat2] at h2
    try rw [hat2]
    have DB2 : ∀ j, Calls Tryz.prog 77 #[.slice (some ⟨g, p, none⟩) k (c - p)] (W.drewN j) (PairQ (W.drewN j) (begV (a :: t))) := fun j => DB _ (hrd2.drewN j)
    have DB3 := Lib.hid DB2
    clear DB DB2 hat HR hat2 hby hrd2
    generalize begV (a :: t) = q at *
    obtain ⟨x1, x2⟩ := q
   ·obtain rfl : x2 = k := h2
    clear h1
    go_wp2_with (go_at_call 77; ((with_reducible refine (DB3.out _).mono ?_)); rintro e w8 ⟨rfl, j8, rfl⟩)
    go_ret2
    exact ⟨rfl, HG.out ▸ Below.drewN' HBW.out _⟩
   ·have h2' : ((x2 : Int) == (k : Int)) = false := by have h2 : x2 ≠ k := h2; simp; omega
    have H3 := Lib.hid h3
    clear h1 h2 h3
    go_wp2_with (go_at_call 77; ((with_reducible refine (DB3.out _).mono ?_)); rintro e w8 ⟨rfl, j8, rfl⟩)
    go_roundw
    case rel => exact ⟨m, k + 1, by omega, by omega, H3, i64e (by omega), by first | exact q0 _ | exact q1 _ _ | exact q2 _ _ _⟩
    case measure => simp [intOf]; omega
end Go.Proofs.YtbdnamcjhndpjaaGreatDoor
namespace Go.Proofs.YtbdnamcjhndpjaaGreatDoor
open Go.RowKit
def decR (l : List Nat) : Nat × Nat := if l = [] ∨ decL l = (65533, 1) then (0, 0) else decL l
theorem cont_iff (c : Nat) : contB c = true ↔ c / 64 = 2 := by
 unfold contB
 rw [decide_eq_true_eq]
 omega
theorem By.head_lt {a : Nat} {t : List Nat} (h : By (a :: t)) : a < 256 ∧ By t := ⟨h a (by simp), fun c hc => h c (by simp [hc])⟩
theorem atG_short {m k : Nat} {l : List Nat} (h : l.length < k) : atG m k l = (0, 0) := by
 cases m with
 | zero => rfl
 | succ m => rw [atG, if_pos h]
theorem atG_skip {m k : Nat} {l : List Nat} (h : (begV (l.take k)).2 ≠ k) : atG (m + 1) k l = atG m (k + 1) l := by
 rw [atG]
 by_cases hl : l.length < k
 ·rw [if_pos hl, atG_short (by omega)]
 ·rw [if_neg hl, if_neg h]
theorem atG_no {m : Nat} {l : List Nat} : ∀ {k : Nat}, (∀ j, k ≤ j → (begV (l.take j)).2 ≠ j) → atG m k l = (0, 0) := by
 induction m with
 | zero => intro k _; rfl
 | succ m ih => intro k h; rw [atG_skip (h k (Nat.le_refl _))]; exact ih fun j hj => h j (by omega)
theorem at_lead (a : Nat) (t : List Nat) (h1 : ¬ a < 128) : atV (a :: t) = if (leadV a).1 = 0 ∨ (a :: t).length < (leadV a).1 then (0, 0) else if (begV ((a :: t).take (leadV a).1)).2 = (leadV a).1 then begV ((a :: t).take (leadV a).1) else (0, 0) := by
 have hk : ∀ j, 1 ≤ j → j ≠ (leadV a).1 → (begV ((a :: t).take j)).2 ≠ j := fun j hj hn => by
  obtain ⟨q, rfl⟩ : ∃ q, j = q + 1 := ⟨j - 1, by omega⟩
  rw [List.take_succ_cons]
  rcases beg_len a (t.take q) (fun h => h1 h.1) with h | h
  ·rw [h]; omega
  ·rw [h]; exact fun e => hn e.symm
 have hit : ∀ m n, n = (leadV a).1 → 1 ≤ n → atG (m + 1) n (a :: t) = if (leadV a).1 = 0 ∨ (a :: t).length < (leadV a).1 then (0, 0) else if (begV ((a :: t).take (leadV a).1)).2 = (leadV a).1 then begV ((a :: t).take (leadV a).1) else (0, 0) := fun m n hn h => by
  rw [atG, ← hn]
  by_cases hl : (a :: t).length < n
  ·rw [if_pos hl, if_pos (.inr hl)]
  ·have hno : ¬ (n = 0 ∨ (a :: t).length < n) := by intro h2; rcases h2 with h2 | h2; omega; exact hl h2
   rw [if_neg hl, if_neg hno, atG_no fun j hj => hk j (by omega) (by omega)]
 have hv : (leadV a).1 = 0 ∨ (leadV a).1 = 2 ∨ (leadV a).1 = 3 ∨ (leadV a).1 = 4 := by
  rcases lead_cases a with ⟨_, _, e⟩ | ⟨_, _, e⟩ | ⟨_, _, e⟩ | ⟨_, e⟩ <;> rw [e] <;> simp
 unfold atV
 rcases hv with e | e | e | e
 ·rw [if_pos (.inl e)]
  exact atG_no fun j hj => hk j hj (by omega)
 ·rw [atG_skip (hk 1 (by omega) (by omega))]
  exact hit 2 2 e.symm (by omega)
 ·rw [atG_skip (hk 1 (by omega) (by omega)), atG_skip (hk 2 (by omega) (by omega))]
  exact hit 1 3 e.symm (by omega)
 ·rw [atG_skip (hk 1 (by omega) (by omega)), atG_skip (hk 2 (by omega) (by omega)), atG_skip (hk 3 (by omega) (by omega))]
  exact hit 0 4 e.symm (by omega)
theorem decR_of {l : List Nat} {x : Nat × Nat} (hl : l ≠ []) (h : decL l = x) (hx : x.2 ≠ 1) : decR l = x := by
 unfold decR
 rw [h, if_neg]
 rintro (h1 | h1)
 ·exact hl h1
 ·rw [h1] at hx; exact hx rfl
theorem decR_bad {l : List Nat} (h : decL l = (65533, 1)) : decR l = (0, 0) := by
 unfold decR; rw [if_pos (.inr h)]
theorem all1 (b : Nat) : ([b].all contB = true) = (b / 64 = 2) := by rw [List.all_cons, List.all_nil, Bool.and_true]; exact propext (cont_iff b)
theorem all2 (b c : Nat) : ([b, c].all contB = true) = (b / 64 = 2 ∧ c / 64 = 2) := by rw [List.all_cons, Bool.and_eq_true, all1]; exact propext (and_congr (cont_iff b) Iff.rfl)
theorem all3 (b c d : Nat) : ([b, c, d].all contB = true) = (b / 64 = 2 ∧ c / 64 = 2 ∧ d / 64 = 2) := by rw [List.all_cons, Bool.and_eq_true, all2]; exact propext (and_congr (cont_iff b) Iff.rfl)
theorem beg_two {a b : Nat} (gl : leadV a = (2, a - 192, 128, 2047)) : begV [a, b] = if b / 64 = 2 ∧ 128 ≤ 64 * (a - 192) + b - 128 ∧ 64 * (a - 192) + b - 128 ≤ 2047 ∧ ¬ (55296 ≤ 64 * (a - 192) + b - 128 ∧ 64 * (a - 192) + b - 128 ≤ 57343) then (64 * (a - 192) + b - 128, 2) else (0, 0) := by
 have h := beg_full a [b] 2 _ _ _ gl rfl (List.cons_ne_nil _ _)
 simp only [all1, foldV_cons, foldV_nil] at h
 exact h
theorem beg_three {a b c : Nat} (gl : leadV a = (3, a - 224, 2048, 65535)) : begV [a, b, c] = if (b / 64 = 2 ∧ c / 64 = 2) ∧ 2048 ≤ 64 * (64 * (a - 224) + b - 128) + c - 128 ∧ 64 * (64 * (a - 224) + b - 128) + c - 128 ≤ 65535 ∧ ¬ (55296 ≤ 64 * (64 * (a - 224) + b - 128) + c - 128 ∧ 64 * (64 * (a - 224) + b - 128) + c - 128 ≤ 57343) then (64 * (64 * (a - 224) + b - 128) + c - 128, 3) else (0, 0) := by
 have h := beg_full a [b, c] 3 _ _ _ gl rfl (List.cons_ne_nil _ _)
 simp only [all2, foldV_cons, foldV_nil] at h
 exact h
theorem beg_four {a b c d : Nat} (gl : leadV a = (4, a - 240, 65536, 1114111)) : begV [a, b, c, d] = if (b / 64 = 2 ∧ c / 64 = 2 ∧ d / 64 = 2) ∧ 65536 ≤ 64 * (64 * (64 * (a - 240) + b - 128) + c - 128) + d - 128 ∧ 64 * (64 * (64 * (a - 240) + b - 128) + c - 128) + d - 128 ≤ 1114111 ∧ ¬ (55296 ≤ 64 * (64 * (64 * (a - 240) + b - 128) + c - 128) + d - 128 ∧ 64 * (64 * (64 * (a - 240) + b - 128) + c - 128) + d - 128 ≤ 57343) then (64 * (64 * (64 * (a - 240) + b - 128) + c - 128) + d - 128, 4) else (0, 0) := by
 have h := beg_full a [b, c, d] 4 _ _ _ gl rfl (List.cons_ne_nil _ _)
 simp only [all3, foldV_cons, foldV_nil] at h
 exact h
theorem two_more {a b : Nat} {t : List Nat} : ¬ ((2 : Nat) = 0 ∨ (a :: b :: t).length < 2) := by simp
set_option maxRecDepth 100000 in
set_option maxHeartbeats 4000000 in
theorem atV_eq (l : List Nat) (hb : By l) : atV l = decR l := by
 cases l with
 | nil => simp [atV, atG, decR]
 | cons a t =>
  obtain ⟨ha, hbt⟩ := hb.head_lt
  have hdN := decL_N (a :: t)
  rw [show (a :: t).getD 0 0 % 256 = a by show a % 256 = a; omega] at hdN
  have hg1 : (a :: t).getD 1 0 = t.getD 0 0 := rfl
  have hg2 : (a :: t).getD 2 0 = t.getD 1 0 := rfl
  have hg3 : (a :: t).getD 3 0 = t.getD 2 0 := rfl
  rw [hg1, hg2, hg3] at hdN
  by_cases h1 : a < 128
  ·rw [Lib.decodeN_ascii _ _ _ _ _ h1] at hdN
   unfold atV decR
   rw [atG, if_neg (by simp), show (a :: t).take 1 = [a] by simp, beg_one a h1, if_pos rfl, hdN, if_neg (by simp; omega)]
  ·rw [at_lead a t h1]
   have hbd : ∀ i, t.getD i 0 < 256 := fun i => by
    rw [List.getD_eq_getElem?_getD]
    cases hi : t[i]? with
    | none => simp
    | some c => exact hbt c (List.mem_of_getElem? hi)
   have b0 := hbd 0
   have b1 := hbd 1
   have b2 := hbd 2
   rcases lead_cases a with ⟨g1, g2, gl⟩ | ⟨g1, g2, gl⟩ | ⟨g1, g2, gl⟩ | ⟨g1, gl⟩
   ·simp only [gl]
    match t, hdN, b0 with
    | [], hdN, _ =>
     rw [if_pos (by simp)]
     exact (decR_bad (by rw [hdN]; exact Lib.decodeN_alone _ _ _ _ _ (by omega) (.inl (by simp)))).symm
    | b :: t, hdN, b0 =>
     have hno : ¬ ((2 : Nat) = 0 ∨ (a :: b :: t).length < 2) := two_more
     rw [if_neg hno, show (a :: b :: t).take 2 = [a, b] by simp]
     have hbf := beg_two (b := b) gl
     simp only [List.getD_cons_zero, List.length_cons] at hdN b0
     have eb : b % 256 = b := by omega
     simp only [eb] at hdN
     unfold Lib.decodeN at hdN
     rw [if_neg h1] at hdN
     by_cases hc : b / 64 = 2 ∧ 128 ≤ 64 * (a - 192) + b - 128
     ·rw [if_pos ⟨by omega, by omega, by omega⟩, if_pos (by omega)] at hdN
      rw [if_pos ⟨hc.1, hc.2, by omega, by omega⟩] at hbf
      rw [hbf, if_pos rfl, decR_of (by simp) hdN (by simp)]
      simp only [Prod.mk.injEq, and_true]
      omega
     ·rw [if_neg (fun h => hc ⟨h.1, h.2.1⟩)] at hbf
      rw [hbf, if_neg (by simp)]
      refine (decR_bad ?_).symm
      rw [hdN]
      by_cases hb64 : b / 64 = 2
      ·rw [if_pos ⟨by omega, by omega, hb64⟩, if_neg (by omega)]
      ·rw [if_neg (fun h => hb64 h.2.2), if_neg (by omega), if_neg (by omega)]
   ·simp only [gl]
    match t, hdN, b0, b1 with
    | [], hdN, _, _ =>
     rw [if_pos (by simp)]
     exact (decR_bad (by rw [hdN]; exact Lib.decodeN_alone _ _ _ _ _ (by omega) (.inl (by simp)))).symm
    | [b], hdN, _, _ =>
     rw [if_pos (by simp)]
     refine (decR_bad ?_).symm
     rw [hdN]
     unfold Lib.decodeN
     simp only [List.length_cons, List.length_nil]
     rw [if_neg h1, if_neg (by omega), if_neg (by omega), if_neg (by omega)]
    | b :: c :: t, hdN, b0, b1 =>
     rw [if_neg (by simp), show (a :: b :: c :: t).take 3 = [a, b, c] by simp]
     have hbf := beg_three (b := b) (c := c) gl
     simp only [List.getD_cons_zero, List.getD_cons_succ, List.length_cons] at hdN b0 b1
     have eb : b % 256 = b := by omega
     have ec : c % 256 = c := by omega
     simp only [eb, ec] at hdN
     unfold Lib.decodeN at hdN
     rw [if_neg h1, if_neg (by omega)] at hdN
     by_cases hc : (b / 64 = 2 ∧ c / 64 = 2) ∧ 2048 ≤ 64 * (64 * (a - 224) + b - 128) + c - 128 ∧ ¬ (55296 ≤ 64 * (64 * (a - 224) + b - 128) + c - 128 ∧ 64 * (64 * (a - 224) + b - 128) + c - 128 ≤ 57343)
     ·rw [if_pos ⟨by omega, ⟨by omega, by omega⟩, by omega, by omega⟩, if_pos ⟨by omega, by omega⟩] at hdN
      rw [if_pos ⟨hc.1, hc.2.1, by omega, hc.2.2⟩] at hbf
      rw [hbf, if_pos rfl, decR_of (by simp) hdN (by simp)]
      simp only [Prod.mk.injEq, and_true]
      omega
     ·rw [if_neg (fun h => hc ⟨h.1, h.2.1, h.2.2.2⟩)] at hbf
      rw [hbf, if_neg (by simp)]
      refine (decR_bad ?_).symm
      rw [hdN]
      by_cases hb64 : b / 64 = 2 ∧ c / 64 = 2
      ·rw [if_pos ⟨by omega, ⟨by omega, hb64.1⟩, by omega, hb64.2⟩, if_neg (by omega)]
      ·rw [if_neg (fun h => hb64 ⟨h.2.1.2, h.2.2.2⟩), if_neg (by omega)]
   ·simp only [gl]
    match t, hdN, b0, b1, b2 with
    | [], hdN, _, _, _ =>
     rw [if_pos (by simp)]
     exact (decR_bad (by rw [hdN]; exact Lib.decodeN_alone _ _ _ _ _ (by omega) (.inl (by simp)))).symm
    | [b], hdN, _, _, _ =>
     rw [if_pos (by simp)]
     refine (decR_bad ?_).symm
     rw [hdN]
     unfold Lib.decodeN
     simp only [List.length_cons, List.length_nil]
     rw [if_neg h1, if_neg (by omega), if_neg (by omega), if_neg (by omega)]
    | [b, c], hdN, _, _, _ =>
     rw [if_pos (by simp)]
     refine (decR_bad ?_).symm
     rw [hdN]
     unfold Lib.decodeN
     simp only [List.length_cons, List.length_nil]
     rw [if_neg h1, if_neg (by omega), if_neg (by omega), if_neg (by omega)]
    | b :: c :: d :: t, hdN, b0, b1, b2 =>
     rw [if_neg (by simp), show (a :: b :: c :: d :: t).take 4 = [a, b, c, d] by simp]
     have hbf := beg_four (b := b) (c := c) (d := d) gl
     simp only [List.getD_cons_zero, List.getD_cons_succ, List.length_cons] at hdN b0 b1 b2
     have eb : b % 256 = b := by omega
     have ec : c % 256 = c := by omega
     have ed : d % 256 = d := by omega
     simp only [eb, ec, ed] at hdN
     unfold Lib.decodeN at hdN
     rw [if_neg h1, if_neg (by omega), if_neg (by omega)] at hdN
     by_cases hc : (b / 64 = 2 ∧ c / 64 = 2 ∧ d / 64 = 2) ∧ 65536 ≤ 64 * (64 * (64 * (a - 240) + b - 128) + c - 128) + d - 128 ∧ 64 * (64 * (64 * (a - 240) + b - 128) + c - 128) + d - 128 ≤ 1114111
     ·rw [if_pos ⟨by omega, ⟨by omega, by omega⟩, ⟨by omega, by omega⟩, by omega, by omega⟩, if_pos ⟨by omega, by omega⟩] at hdN
      rw [if_pos ⟨hc.1, hc.2.1, hc.2.2, by omega⟩] at hbf
      rw [hbf, if_pos rfl, decR_of (by simp) hdN (by simp)]
      simp only [Prod.mk.injEq, and_true]
      omega
     ·rw [if_neg (fun h => hc ⟨h.1, h.2.1, h.2.2.1⟩)] at hbf
      rw [hbf, if_neg (by simp)]
      refine (decR_bad ?_).symm
      rw [hdN]
      by_cases hb64 : b / 64 = 2 ∧ c / 64 = 2 ∧ d / 64 = 2
      ·rw [if_pos ⟨by omega, ⟨by omega, hb64.1⟩, ⟨by omega, hb64.2.1⟩, by omega, hb64.2.2⟩, if_neg (by omega)]
      ·rw [if_neg (fun h => hb64 ⟨h.2.1.2, h.2.2.1.2, h.2.2.2.2⟩)]
   ·simp only [gl, true_or, if_true]
    refine (decR_bad ?_).symm
    rw [hdN]
    unfold Lib.decodeN
    rw [if_neg h1, if_neg (by omega), if_neg (by omega), if_neg (by omega)]
end Go.Proofs.YtbdnamcjhndpjaaGreatDoor
namespace Go.Proofs.YtbdnamcjhndpjaaGreatDoor
open Go.RowKit
theorem Tryz.infoI32 : (Tryz.prog.info? 21).map (fun i => (i.zero, i.size, i.bytes)) = some (some (.int .i32 0), 1, 4) := by kernel_rfl
theorem begV_le (b : List Nat) : (begV b).1 ≤ 1114111 := by
 have h : (leadV (b.getD 0 0)).2.2.2 ≤ 1114111 := by
  rcases lead_cases (b.getD 0 0) with ⟨_, _, h⟩ | ⟨_, _, h⟩ | ⟨_, _, h⟩ | ⟨_, h⟩ <;> rw [h] <;> simp
 unfold begV
 generalize b.getD 0 0 = x at *
 generalize leadV x = y at *
 generalize loV (y.1 - b.length) (foldV y.2.1 (b.drop 1)) = z at *
 generalize hiV (y.1 - b.length) (foldV y.2.1 (b.drop 1)) = z' at *
 (repeat' split) <;> dsimp only <;> omega
theorem atG_le (m k : Nat) (l : List Nat) : (atG m k l).1 ≤ 1114111 := by
 induction m generalizing k with
 | zero => simp [atG]
 | succ m ih =>
  rw [atG]
  (repeat' split)
  ·simp
  ·exact begV_le _
  ·exact ih _
theorem atV_le (l : List Nat) : (atV l).1 ≤ 1114111 := atG_le _ _ _
theorem at_h (l : List Nat) (hl : By l) (hlen : l.length < 4294967296) (p : Nat) (hp : p ≤ l.length) : Hid (∀ w, Calls Tryz.prog 46 #[.string (mks l), .int .i64 (p : Int)] w (PairB w (atV (l.drop p)))) := fun w => at_any l hl hlen p hp w
def DecR (w : World) (o : Option Nat) (e : Ending) (w' : World) : Prop := (∃ A n c, e = .returned (.tuple #[.slice A n c, .int .i64 (ckAt o)])) ∧ Below w.heap.size w w'
theorem dec_cases {f p : Nat} {l : List Nat} {v : Option Nat} (hne : l ≠ []) (hb : By l) (h : checkG (f + 1) p l = v) :
  ((atV l).2 = 0 ∧ v = some p) ∨ ((atV l).2 ≠ 0 ∧ (atV l).2 ≤ l.length ∧ checkG f (p + (atV l).2) (l.drop (atV l).2) = v) := by
 rw [checkG, if_neg hne] at h
 rw [atV_eq l hb]
 unfold decR
 by_cases hd : decL l = (65533, 1)
 ·rw [if_pos hd] at h; rw [if_pos (.inr hd)]; exact .inl ⟨rfl, h.symm⟩
 ·rw [if_neg hd] at h
  rw [if_neg (by rintro (h1 | h1) <;> contradiction)]
  refine .inr ⟨?_, ?_, h⟩
  ·have := (decL_bd l).2; omega
  ·have := Lib.decodeL_le (u8s l) (by intro h; exact hne (List.map_eq_nil_iff.1 h))
   rw [show (u8s l).length = l.length by unfold u8s; rw [List.length_map]] at this
   exact this
set_option maxRecDepth 8000 in
set_option maxHeartbeats 4000000 in
theorem rdecode_any (l : List Nat) (hl : By l) (hlen : l.length < 4294967296) (w : World) : Calls Tryz.prog 27 #[.string (mks l)] w (DecR w (checkV l)) := by
 generalize hv : checkV l = v
 have HV : Hid (checkG l.length 0 (l.drop 0) = v) := hv
 clear hv
 go_enter Tryz.func27, Tryz.ntmps27
 go_wp2
 go_loopw [4, 5] (fun ov iv wr => ∃ p f n xs, p ≤ l.length ∧ l.length ≤ p + f ∧ n ≤ p ∧ iv = .int .i64 (p : Int) ∧ Hid (checkG f p (l.drop p) = v) ∧ wr.ownsRow w.heap.size 21 1 ov n xs ∧ Below w.heap.size w wr) (fun _ iv _ => l.length - (intOf iv).toNat)
 case atStart => exact ⟨0, l.length, 0, [], by omega, by omega, by omega, rfl, HV, ⟨by simp, .inl ⟨rfl, rfl⟩⟩, Below.refl _ _⟩
 case round =>
  obtain ⟨p, f, n, xs, hp, hf, hn, rfl, hq, hown, hbw⟩ := hrel
  clear HV
  by_cases hlt : p < l.length
  ·have hne : l.drop p ≠ [] := by intro h; have := congrArg List.length h; simp at this; omega
   obtain ⟨f, rfl⟩ : ∃ f', f = f' + 1 := ⟨f - 1, by omega⟩
   have hc := dec_cases hne (hl.drop p) hq.out
   have DA := at_h l hl hlen p hp
   have hle := atV_le (l.drop p)
   rw [List.length_drop, List.drop_drop] at hc
   generalize atV (l.drop p) = q at *
   obtain ⟨x1, x2⟩ := q
   simp only at hc hle
   clear hq hne
   rcases hc with ⟨rfl, rfl⟩ | ⟨h1, h2, h3⟩
   ·obtain ⟨A, c, rfl, _⟩ := own_rd hown
    go_wp2_with (go_at_call 46; ((with_reducible refine (DA.out _).mono ?_)); rintro e w8 ⟨rfl, hb8⟩)
    go_ret2
    exact ⟨⟨A, n, c, rfl⟩, hbw.trans (hb8.mono hbw.size)⟩
   ·have h1' : ((x2 : Int) == 0) = false := by simp; omega
    have h1x : 1 ≤ x2 := by have h : x2 ≠ 0 := h1; omega
    have H3 := Lib.hid h3
    clear h1 h3
    go_wp2_with (first | (go_at_call 46; ((with_reducible refine (DA.out _).mono ?_)); rintro e w8 ⟨rfl, hb8⟩) | (at_builtin; go_loud (refine wpList_ap1 rfl (.tmp 22) (.tmp 25) 80 rfl w.heap.size 21 _ _ Tryz.underlying80 Tryz.infoI32 rfl _ n xs rfl ((own_below hown hb8).alloc _) ⟨w8.heap.size, 0, none⟩ _ (.int .i32 (x1 : Int)) rfl (cell_new _ _ _) rfl (by unfold maxLen; omega) (by omega) (by have := hbw.size; have := hb8.size; simp; omega) ?_; intro v9 w9 hown9 hg9)))
    go_roundw
    case rel => refine ⟨p + x2, f, n + 1, _, by omega, by omega, by omega, i64e (by omega), H3, hown9, ?_⟩; refine Below.grown ((hbw.trans (hb8.mono hbw.size)).alloc (by have := hbw.size; have := hb8.size; omega) _) hg9 (by have := hbw.size; have := hb8.size; simp; omega) ?_; intro k e; exact (hown.lt k e).1
    case measure => simp [intOf]; omega
  ·obtain rfl : p = l.length := by omega
   have hd : l.drop l.length = [] := List.drop_length
   have hce : checkG f l.length [] = none := by cases f <;> simp [checkG]
   rw [hd, hce] at hq
   clear hd hce
   have h := hq.out
   subst h
   obtain ⟨A, c, rfl, _⟩ := own_rd hown
   go_wp2
   go_ret2
   exact ⟨⟨A, n, c, rfl⟩, hbw⟩
end Go.Proofs.YtbdnamcjhndpjaaGreatDoor
namespace Go.Proofs.YtbdnamcjhndpjaaGreatDoor
open Go.RowKit
def encR (n : Nat) : List Nat :=
 if n < 128 then [n] else if n < 2048 then [192 + n / 64, 128 + n % 64] else if n < 65536 then [224 + n / 4096, 128 + n / 64 % 64, 128 + n % 64]
 else [240 + n / 262144, 128 + n / 4096 % 64, 128 + n / 64 % 64, 128 + n % 64]
theorem encR_eq (n : Nat) (h : n ≤ 1114111) (hs : n < 55296 ∨ 57343 < n) : encR n = encL (n : Int) := by
 have hb : ∀ x : Int, 0 ≤ x → x < 256 → (x.toNat.toUInt8).toNat = x.toNat := fun x h0 h1 => by simp; omega
 unfold encR encL Lib.encodeRune
 by_cases h1 : n < 128
 ·rw [if_pos h1, Lib.encodeRuneZ_one (by omega) (by omega)]
  simp only [List.map_cons, List.map_nil]
  rw [hb _ (by omega) (by omega)]
  simp
 rw [if_neg h1]
 by_cases h2 : n < 2048
 ·rw [if_pos h2, Lib.encodeRuneZ_two (by omega) (by omega)]
  simp only [List.map_cons, List.map_nil]
  rw [hb _ (by omega) (by omega), hb _ (by omega) (by omega)]
  simp only [List.cons.injEq, and_true]
  omega
 rw [if_neg h2]
 by_cases h3 : n < 65536
 ·rw [if_pos h3, Lib.encodeRuneZ_three (by omega)]
  simp only [List.map_cons, List.map_nil]
  rw [hb _ (by omega) (by omega), hb _ (by omega) (by omega), hb _ (by omega) (by omega)]
  simp only [List.cons.injEq, and_true]
  omega
 rw [if_neg h3, Lib.encodeRuneZ_four (by omega) (by omega)]
 simp only [List.map_cons, List.map_nil]
 rw [hb _ (by omega) (by omega), hb _ (by omega) (by omega), hb _ (by omega) (by omega), hb _ (by omega) (by omega)]
 simp only [List.cons.injEq, and_true]
 omega
theorem conv_cells (l : List Nat) (w : World) : (convert 103 9 (.slice (some ⟨w.heap.size, 0, none⟩) l.length l.length)).run Tryz.prog (w.alloc (.cells (B8 l).toArray 5)) = .ok (.string (mks l)) (w.alloc (.cells (B8 l).toArray 5)) :=
 run_str (P := Tryz.prog) _ 103 9 5 Tryz.underlying103 Tryz.underlying5 Tryz.underlying9 _ _ _ _ (Arr.new w 5 (B8 l)).rd rfl
set_option maxRecDepth 20000 in
set_option maxHeartbeats 4000000 in
theorem encode_any (n : Nat) (hn : n < 1114112) (w : World) : Calls Tryz.prog 107 #[.int .i32 (n : Int)] w (fun e w' => e = .returned (.string (mks (encR n))) ∧ Below w.heap.size w w') := by
 by_cases h1 : n < 128
 ·have hv : encR n = [n] := by unfold encR; rw [if_pos h1]
  rw [hv]
  have hc : (convert 103 9 (.slice (some ⟨w.heap.size, 0, none⟩) 1 1)).run Tryz.prog (w.alloc (.cells #[.int .u8 (n : Int)] 5)) = _ := conv_cells [n] w
  go_enter Tryz.func107, Tryz.ntmps107
  go_wp2
  go_ret
  exact ⟨rfl, (Below.refl _ _).alloc (Nat.le_refl _) _⟩
 obtain ⟨r1, hr1, b1⟩ : ∃ r, n % 64 = r ∧ r < 64 := ⟨_, rfl, by omega⟩
 obtain ⟨q1, hq1⟩ : ∃ q, n / 64 = q := ⟨_, rfl⟩
 obtain ⟨r2, hr2, b2⟩ : ∃ r, q1 % 64 = r ∧ r < 64 := ⟨_, rfl, by omega⟩
 obtain ⟨q2, hq2⟩ : ∃ q, n / 4096 = q := ⟨_, rfl⟩
 obtain ⟨r3, hr3, b3⟩ : ∃ r, q2 % 64 = r ∧ r < 64 := ⟨_, rfl, by omega⟩
 obtain ⟨q3, hq3⟩ : ∃ q, n / 262144 = q := ⟨_, rfl⟩
 have er1 : (n : Int) % 64 = r1 := by omega
 have eq1 : (n : Int) / 64 = q1 := by omega
 have er2 : (q1 : Int) % 64 = r2 := by omega
 have eq2 : (n : Int) / 4096 = q2 := by omega
 have er3 : (q2 : Int) % 64 = r3 := by omega
 have eq3 : (n : Int) / 262144 = q3 := by omega
 by_cases h2 : n < 2048
 ·have hv : encR n = [192 + q1, 128 + r1] := by unfold encR; rw [if_neg h1, if_pos h2, hq1, hr1]
  rw [hv]
  have c1 : (q1 : Int) < 32 := by omega
  have d1 : decide ((n : Int) < 128) = false := by simp; omega
  have d2 : decide ((n : Int) < 2048) = true := by simp; omega
  clear hr1 hq1 hr2 hq2 hr3 hq3 er2 er3 eq2 eq3 b2 b3 hv h1 h2 hn
  have hc : (convert 103 9 (.slice (some ⟨w.heap.size, 0, none⟩) 2 2)).run Tryz.prog (w.alloc (.cells #[.int .u8 (192 + (q1 : Int)), .int .u8 (128 + (r1 : Int))] 5)) = _ := conv_cells [192 + q1, 128 + r1] w
  go_enter Tryz.func107, Tryz.ntmps107
  go_wp2
  go_ret
  exact ⟨rfl, (Below.refl _ _).alloc (Nat.le_refl _) _⟩
 ·by_cases h3 : n < 65536
  ·have hv : encR n = [224 + q2, 128 + r2, 128 + r1] := by unfold encR; rw [if_neg h1, if_neg h2, if_pos h3, hq1, hq2, hr1, hr2]
   rw [hv]
   have c1 : (q2 : Int) < 16 := by omega
   have c2 : (q1 : Int) < 65536 := by omega
   have d1 : decide ((n : Int) < 128) = false := by simp; omega
   have d2 : decide ((n : Int) < 2048) = false := by simp; omega
   have d3 : decide ((n : Int) < 65536) = true := by simp; omega
   clear hr1 hq1 hr2 hq2 hr3 hq3 er3 eq3 b3 hv h1 h2 h3 hn
   have hc : (convert 103 9 (.slice (some ⟨w.heap.size, 0, none⟩) 3 3)).run Tryz.prog (w.alloc (.cells #[.int .u8 (224 + (q2 : Int)), .int .u8 (128 + (r2 : Int)), .int .u8 (128 + (r1 : Int))] 5)) = _ := conv_cells [224 + q2, 128 + r2, 128 + r1] w
   go_enter Tryz.func107, Tryz.ntmps107
   go_wp2
   go_ret
   exact ⟨rfl, (Below.refl _ _).alloc (Nat.le_refl _) _⟩
  ·have hv : encR n = [240 + q3, 128 + r3, 128 + r2, 128 + r1] := by unfold encR; rw [if_neg h1, if_neg h2, if_neg h3, hq1, hq2, hq3, hr1, hr2, hr3]
   rw [hv]
   have c1 : (q3 : Int) < 16 := by omega
   have c2 : (q1 : Int) < 65536 := by omega
   have c3 : (q2 : Int) < 65536 := by omega
   have d1 : decide ((n : Int) < 128) = false := by simp; omega
   have d2 : decide ((n : Int) < 2048) = false := by simp; omega
   have d3 : decide ((n : Int) < 65536) = false := by simp; omega
   have hn' : (n : Int) < 1114112 := by omega
   clear hr1 hq1 hr2 hq2 hr3 hq3 hv h1 h2 h3 hn
   have hc : (convert 103 9 (.slice (some ⟨w.heap.size, 0, none⟩) 4 4)).run Tryz.prog (w.alloc (.cells #[.int .u8 (240 + (q3 : Int)), .int .u8 (128 + (r3 : Int)), .int .u8 (128 + (r2 : Int)), .int .u8 (128 + (r1 : Int))] 5)) = _ := conv_cells [240 + q3, 128 + r3, 128 + r2, 128 + r1] w
   go_enter Tryz.func107, Tryz.ntmps107
   go_wp2
   go_ret
   exact ⟨rfl, (Below.refl _ _).alloc (Nat.le_refl _) _⟩
end Go.Proofs.YtbdnamcjhndpjaaGreatDoor
