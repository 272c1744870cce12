/- Plain laws: a string that is read byte by byte (the reference) is the string that is read rune by rune, if the source is valid UTF-8. -/
import Derived.Test.YtbdnamcjhndpjaaGreatDoorMH
import Derived.Test.YtbdnamcjhndpjaaGreatDoorMG
import Derived.Test.YtbdnamcjhndpjaaGreatDoorMQc
import Derived.Test.YtbdnamcjhndpjaaGreatDoorMQb
set_option linter.unusedVariables false
set_option linter.unusedSimpArgs false
set_option linter.defProp false
set_option linter.constructorNameAsVariable false
namespace Go.Proofs.YtbdnamcjhndpjaaGreatDoor
open Go.RowKit
def VU (l : List Nat) : Prop := checkG l.length 0 l = none
theorem VU.nil : VU [] := checkG_end
theorem VU.step {l : List Nat} (h : VU l) (hne : l ≠ []) : decL l ≠ (65533, 1) ∧ VU (l.drop (decL l).2) := by
 unfold VU at h
 have hp := List.length_pos_iff.2 hne
 obtain ⟨n, hn⟩ : ∃ n, l.length = n + 1 := ⟨l.length - 1, by omega⟩
 rw [hn] at h
 obtain ⟨h1, h2⟩ := checkG_step hne h
 exact ⟨h1, check_gen h2 (by rw [List.length_drop]; have := (decL_bd l).2; omega) (Nat.le_refl _)⟩
theorem VU.tail {c : Nat} {l : List Nat} (h : VU (c :: l)) (hc : c < 128) : VU l := by
 unfold VU at h
 rw [List.length_cons, check_ascii hc] at h
 exact check_gen h (Nat.le_refl _) (Nat.le_refl _)
theorem VU.split : ∀ (n : Nat) (r x : List Nat), r.length ≤ n → VU (r ++ x) → x.getD 0 0 < 128 → VU x := by
 intro n
 induction n with
 | zero =>
  intro r x hr h _
  obtain rfl : r = [] := List.eq_nil_of_length_eq_zero (by omega)
  exact h
 | succ n ih =>
  intro r x hr h hx
  by_cases hne : r = []
  ·subst hne; exact h
  ·obtain ⟨_, h2⟩ := h.step (by simp [hne])
   obtain ⟨_, hk⟩ := decL_local hne hx hx
   have hk1 := (decL_bd (r ++ x)).2
   rw [List.drop_append_of_le_length hk] at h2
   exact ih _ _ (by rw [List.length_drop]; omega) h2 hx
theorem VU.drop {l : List Nat} (h : VU l) (n : Nat) (hn : (l.drop n).getD 0 0 < 128) : VU (l.drop n) :=
 VU.split _ (l.take n) (l.drop n) (Nat.le_refl _) (by rw [List.take_append_drop]; exact h) hn
theorem getD_drop (l : List Nat) (n : Nat) : (l.drop n).getD 0 0 = l.getD n 0 := by simp [List.getD_eq_getElem?_getD]
theorem VU.pass {l : List Nat} (h : VU l) : ∀ n, (∀ j, j < n → l.getD j 0 < 128) → n ≤ l.length → VU (l.drop n) := by
 intro n
 induction n with
 | zero => intro _ _; exact h
 | succ n ih =>
  intro ha hn
  have h1 := ih (fun j hj => ha j (by omega)) (by omega)
  obtain ⟨c, hc⟩ : ∃ c, l[n]? = some c := ⟨_, List.getElem?_eq_getElem (by omega)⟩
  rw [drop_cons hc] at h1
  have hc2 : c < 128 := by have := ha n (by omega); rw [List.getD_eq_getElem?_getD, hc] at this; exact this
  exact h1.tail hc2
theorem decL_ascii {c : Nat} (t : List Nat) (hc : c < 128) : decL (c :: t) = (c, 1) := by
 rw [decL_N]
 have : (c :: t).getD 0 0 % 256 = c := by show c % 256 = c; omega
 rw [this, Lib.decodeN_ascii _ _ _ _ _ hc]
theorem u8s_back {l : List Nat} (hb : By l) : (u8s l).map UInt8.toNat = l := by
 unfold u8s
 rw [List.map_map]
 refine (List.map_congr_left fun c hc => ?_).trans (List.map_id l)
 have := hb c hc
 simp; omega
theorem enc_dec {l : List Nat} (hb : By l) (hne : l ≠ []) (hv : decL l ≠ (65533, 1)) : encL ((decL l).1 : Int) = l.take (decL l).2 := by
 have h := Lib.encode_decode (u8s l) (by intro h; exact hne (List.map_eq_nil_iff.1 h)) (fun h => hv (by unfold decL; exact Prod.ext h.1 h.2))
 unfold encL
 show (Lib.encodeRune ((Lib.decodeL (u8s l)).1 : Int)).map UInt8.toNat = _
 rw [h, List.map_take, u8s_back hb]
 rfl
theorem runeLen_len {l : List Nat} (hb : By l) (hne : l ≠ []) (hv : decL l ≠ (65533, 1)) : Lib.runeLen ((decL l).1 : Int) = ((decL l).2 : Int) := by
 by_cases h : (decL l).1 = 65533
 ·have he := congrArg List.length (enc_dec hb hne hv)
  have hle := decL_le l hne
  rw [List.length_take, h] at he
  have e3 : (encL ((65533 : Nat) : Int)).length = 3 := by decide
  rw [e3] at he
  rw [h]
  have : (decL l).2 = 3 := by omega
  rw [this]
  rfl
 ·exact Lib.runeLen_decode (u8s l) h
theorem decL_high {c : Nat} {t : List Nat} (hb : By (c :: t)) (hc : ¬ c < 128) (hv : decL (c :: t) ≠ (65533, 1)) : 128 ≤ (decL (c :: t)).1 ∧ ∀ x ∈ (c :: t).take (decL (c :: t)).2, 128 ≤ x := by
 have hne : c :: t ≠ [] := List.cons_ne_nil _ _
 have hk := (decL_bd (c :: t)).2
 constructor
 ·rcases Nat.lt_or_ge (decL (c :: t)).1 128 with h | h
  ·exfalso
   have he := enc_dec hb hne hv
   obtain ⟨k, hk2⟩ : ∃ k, (decL (c :: t)).2 = k + 1 := ⟨(decL (c :: t)).2 - 1, by omega⟩
   rw [hk2, List.take_succ_cons] at he
   unfold encL Lib.encodeRune at he
   rw [Lib.encodeRuneZ_one (by omega) (by omega)] at he
   simp only [List.map_cons, List.map_nil] at he
   injection he with he _
   have : (((decL (c :: t)).1 : Int).toNat.toUInt8).toNat = (decL (c :: t)).1 := by simp; omega
   omega
  ·exact h
 ·intro x hx
  obtain ⟨j, hj, hxj⟩ := List.getElem_of_mem hx
  have hlt : j < (decL (c :: t)).2 := by rw [List.length_take] at hj; omega
  have hxs : (c :: t)[j]? = some x := by
   rw [List.getElem_take] at hxj
   rw [← hxj]
   exact List.getElem?_eq_getElem _
  rcases Nat.lt_or_ge x 128 with h | h
  ·exfalso
   cases j with
   | zero => simp at hxs; omega
   | succ j =>
    have hd : ((c :: t).drop (j + 1)).getD 0 0 < 128 := by rw [getD_drop, List.getD_eq_getElem?_getD, hxs]; exact h
    have hl := (decL_local (r := (c :: t).take (j + 1)) (by simp) hd hd).2
    rw [List.take_append_drop, List.length_take] at hl
    omega
  ·exact h
def textG : Nat → List Nat → Nat → List Nat → List Nat × Nat × Nat
 | 0, _, _, _ => ([], 0, 4)
 | f + 1, l, p, acc =>
  if l = [] then ([], 0, 4)
  else if l.getD 0 0 = 34 then (acc, p + 1, 0)
  else if l.getD 0 0 < 32 then ([], p, 4)
  else if l.getD 0 0 = 92 then
   (if (escV l).2.2 = 0 then textG f (l.drop (escV l).2.1.toNat) (p + (escV l).2.1.toNat) (acc ++ encL (escV l).1) else ([], p, (escV l).2.2.toNat))
  else textG f (l.drop 1) (p + 1) (acc ++ [l.getD 0 0])
theorem textG_end {f p : Nat} {acc : List Nat} : textG f [] p acc = ([], 0, 4) := by cases f <;> simp [textG]
theorem textG_high (x : List Nat) : ∀ (m : List Nat) (f p : Nat) (acc : List Nat), (∀ c ∈ m, 128 ≤ c) → textG (f + m.length) (m ++ x) p acc = textG f x (p + m.length) (acc ++ m) := by
 intro m
 induction m with
 | nil => intro f p acc _; simp
 | cons c m ih =>
  intro f p acc h
  have hc := h c (by simp)
  rw [List.length_cons, show f + (m.length + 1) = (f + m.length) + 1 by omega, textG, if_neg (by simp)]
  have e : ((c :: m) ++ x).getD 0 0 = c := rfl
  rw [e, if_neg (by omega), if_neg (by omega), if_neg (by omega)]
  have e2 : ((c :: m) ++ x).drop 1 = m ++ x := rfl
  rw [e2, ih f (p + 1) (acc ++ [c]) (fun x hx => h x (by simp [hx])), List.append_assoc, show p + 1 + m.length = p + (m.length + 1) by omega]
  rfl
theorem hexN_ascii {l : List Nat} {n : Nat} (h : 0 ≤ hexN l n) : ∀ c ∈ l, c < 128 := by
 induction l generalizing n with
 | nil => intro c hc; cases hc
 | cons c l ih =>
  unfold hexN at h
  cases hd : hexD c with
  | none => rw [hd] at h; simp at h
  | some d =>
   rw [hd] at h
   intro x hx
   rcases List.mem_cons.1 hx with rfl | hx
   ·unfold hexD at hd
    (repeat' split at hd) <;> first | omega | cases hd
   ·exact ih h x hx
theorem unitV_ascii {s : List Nat} (h : 0 ≤ unitV s) : 6 ≤ s.length ∧ ∀ j, j < 6 → s.getD j 0 < 128 := by
 have hl := unitV_len s h
 refine ⟨hl, fun j hj => ?_⟩
 unfold unitV at h
 split at h
 ·rename_i h1
  obtain ⟨_, h0, h2⟩ := h1
  have ha := hexN_ascii h
  rw [List.getD_eq_getElem?_getD]
  match j, hj with
  | 0, _ => rw [h0]; decide
  | 1, _ => rw [h2]; decide
  | j + 2, hj =>
   obtain ⟨c, hc⟩ : ∃ c, s[j + 2]? = some c := ⟨_, List.getElem?_eq_getElem (by omega)⟩
   rw [hc]
   refine ha c (List.mem_of_getElem? (i := j) ?_)
   rw [List.getElem?_drop, List.getElem?_take, if_pos (by omega), show 2 + j = j + 2 by omega]
   exact hc
 ·omega
theorem escV_ascii {l : List Nat} (h0 : l.getD 0 0 = 92) (h : (escV l).2.2 = 0) : 2 ≤ (escV l).2.1.toNat ∧ (escV l).2.1.toNat ≤ l.length ∧ ∀ j, j < (escV l).2.1.toNat → l.getD j 0 < 128 := by
 unfold escV at h ⊢
 by_cases hu : unitV l < 0
 ·rw [if_pos hu] at h ⊢
  by_cases hm : 1 < l.length ∧ 0 < meanV (l.getD 1 0)
  ·rw [if_pos hm]
   refine ⟨Nat.le_refl 2, by show 2 ≤ _; omega, fun j hj => ?_⟩
   replace hj : j < 2 := hj
   match j, hj with
   | 0, _ => omega
   | 1, _ =>
    have hm2 := hm.2
    unfold meanV at hm2
    (repeat' split at hm2) <;> omega
  ·rw [if_neg hm] at h; exact absurd h (by decide)
 ·rw [if_neg hu] at h ⊢
  obtain ⟨h6, ha⟩ := unitV_ascii (show 0 ≤ unitV l by omega)
  by_cases h1 : unitV l < 55296 ∨ 57343 < unitV l
  ·rw [if_pos h1]
   exact ⟨by show 2 ≤ 6; omega, h6, ha⟩
  ·rw [if_neg h1] at h ⊢
   by_cases h2 : 56319 < unitV l ∨ unitV (l.drop 6) < 56320 ∨ 57343 < unitV (l.drop 6)
   ·rw [if_pos h2] at h; exact absurd h (by decide)
   ·rw [if_neg h2]
    obtain ⟨h7, hb⟩ := unitV_ascii (show 0 ≤ unitV (l.drop 6) by omega)
    rw [List.length_drop] at h7
    refine ⟨by show 2 ≤ 12; omega, by show 12 ≤ _; omega, fun j hj => ?_⟩
    replace hj : j < 12 := hj
    by_cases hj6 : j < 6
    ·exact ha j hj6
    ·have := hb (j - 6) (by omega)
     rw [List.getD_eq_getElem?_getD, List.getElem?_drop, show 6 + (j - 6) = j by omega, ← List.getD_eq_getElem?_getD] at this
     exact this
theorem quotG_pass (m : Nat) : ∀ (f : Nat) (l : List Nat) (p nx : Nat) (acc : List Nat), m ≤ l.length → (∀ j, j < m → l.getD j 0 < 128) → p + m = nx → quotG (f + m) l p nx acc = quotG f (l.drop m) nx nx acc := by
 induction m with
 | zero =>
  intro f l p nx acc _ _ e
  obtain rfl : p = nx := by omega
  rfl
 | succ m ih =>
  intro f l p nx acc hm ha e
  cases l with
  | nil => simp at hm
  | cons c t =>
   have hc : c < 128 := ha 0 (by omega)
   rw [show f + (m + 1) = (f + m) + 1 by omega, quotG_skip (List.cons_ne_nil _ _) (by omega), decL_ascii t hc]
   show quotG (f + m) t (p + 1) nx acc = _
   rw [ih f t (p + 1) nx acc (by simp at hm; omega) (fun j hj => by have := ha (j + 1) (by omega); simpa using this) (by omega)]
   rfl
theorem quot_text (f : Nat) : ∀ (g : Nat) (l : List Nat) (p : Nat) (acc : List Nat), By l → VU l → l.length ≤ f → l.length ≤ g → quotG f l p p acc = textG g l p acc := by
 induction f using Nat.strongRecOn with
 | ind f ih =>
  intro g l p acc hb hv hf hg
  by_cases hne : l = []
  ·subst hne; rw [quotG_end, textG_end]
  ·have hp := List.length_pos_iff.2 hne
   obtain ⟨f, rfl⟩ : ∃ f', f = f' + 1 := ⟨f - 1, by omega⟩
   obtain ⟨g, rfl⟩ : ∃ g', g = g' + 1 := ⟨g - 1, by omega⟩
   obtain ⟨hd, hvd⟩ := hv.step hne
   obtain ⟨c, t, rfl⟩ : ∃ c t, l = c :: t := by cases l with | nil => exact absurd rfl hne | cons c t => exact ⟨c, t, rfl⟩
   have e0 : (c :: t).getD 0 0 = c := rfl
   have hnn : ¬ p < p := by omega
   simp only [List.length_cons] at hf hg
   by_cases hc : c < 128
   ·have hdc := decL_ascii t hc
    by_cases h34 : c = 34
    ·rw [quotG_quote hne hnn (by rw [hdc]; exact h34), textG, if_neg hne, e0, if_pos h34]
    by_cases h32 : c < 32
    ·rw [quotG_low hne hnn (by rw [hdc]; exact h34) (by rw [hdc]; exact h32), textG, if_neg hne, e0, if_neg h34, if_pos h32]
    by_cases h92 : c = 92
    ·by_cases he : (escV (c :: t)).2.2 = 0
     ·obtain ⟨k1, k2, k3⟩ := escV_ascii (by rw [e0]; exact h92) he
      rw [quotG_esc hne hnn (by rw [hdc]; exact h92) he, hdc, textG, if_neg hne, e0, if_neg h34, if_neg h32, if_pos h92, if_pos he]
      have hvp := hv.pass _ k3 k2
      generalize escV (c :: t) = x at *
      obtain ⟨m, hm⟩ : ∃ m, x.2.1.toNat = m + 1 := ⟨x.2.1.toNat - 1, by omega⟩
      rw [hm] at k2 k3 hvp ⊢
      show quotG f t (p + 1) (p + (m + 1)) _ = _
      simp only [List.length_cons] at k2
      obtain ⟨f, rfl⟩ : ∃ f', f = f' + m := ⟨f - m, by omega⟩
      rw [quotG_pass m f t (p + 1) (p + (m + 1)) _ (by omega) (fun j hj => by have := k3 (j + 1) (by omega); simpa using this) (by omega)]
      exact ih f (by omega) g (t.drop m) (p + (m + 1)) _ (fun x hx => hb x (by simp [List.mem_of_mem_drop hx])) hvp (by rw [List.length_drop]; omega) (by rw [List.length_drop]; omega)
     ·rw [quotG_bad hne hnn (by rw [hdc]; exact h92) he, textG, if_neg hne, e0, if_neg h34, if_neg h32, if_pos h92, if_neg he]
    ·rw [quotG_rune hne hnn (by rw [hdc]; exact h34) (by rw [hdc]; exact h32) (by rw [hdc]; exact h92), runeLen_len hb hne hd, enc_dec hb hne hd, hdc, textG, if_neg hne, e0, if_neg h34, if_neg h32, if_neg h92]
     exact ih f (by omega) g t (p + 1) _ (fun x hx => hb x (by simp [hx])) (hv.tail hc) (by omega) (by omega)
   ·obtain ⟨hr, hall⟩ := decL_high hb hc hd
    have hk := (decL_bd (c :: t)).2
    have hle := decL_le (c :: t) hne
    rw [quotG_rune hne hnn (by omega) (by omega) (by omega), runeLen_len hb hne hd, enc_dec hb hne hd]
    generalize (decL (c :: t)).2 = k at *
    have hlt : ((c :: t).take k).length = k := by rw [List.length_take]; omega
    simp only [List.length_cons] at hle
    obtain ⟨q, hq⟩ : ∃ q, g + 1 = q + k := ⟨g + 1 - k, by omega⟩
    have hT := textG_high ((c :: t).drop k) ((c :: t).take k) q p acc hall
    rw [List.take_append_drop, hlt] at hT
    rw [hq, hT, Int.toNat_natCast]
    exact ih f (by omega) q _ (p + k) _ (fun x hx => hb x (List.mem_of_mem_drop hx)) hvd (by rw [List.length_drop, List.length_cons]; omega) (by rw [List.length_drop, List.length_cons]; omega)
theorem quotV_text {t : List Nat} (hb : By (34 :: t)) (hv : VU (34 :: t)) : quotV (34 :: t) = textG t.length t 1 [] := by
 unfold quotV
 rw [List.length_cons, quotG_skip (List.cons_ne_nil _ _) (by omega), decL_ascii t (by omega)]
 exact quot_text t.length t.length t 1 [] (fun x hx => hb x (by simp [hx])) (hv.tail (by omega)) (Nat.le_refl _) (Nat.le_refl _)
end Go.Proofs.YtbdnamcjhndpjaaGreatDoor
namespace Go.Proofs.YtbdnamcjhndpjaaGreatDoor
open Go.RowKit
structure LSt where
 i : Nat
 toks : List JTok
 notes : List JNote
 err : Nat
 at_ : Nat
abbrev lexC (s : List Nat) (vt vn : Value) (st : LSt) : List Value := [.string (mks s), .int .i64 (st.i : Int), vt, vn, .int .i64 (st.err : Int), .int .i64 (st.at_ : Int)]
structure LM (w : World) (B g : Nat) (s : List Nat) (vt vn : Value) (st : LSt) : Prop where
 par : Arr w g 85 [.string (mks s), .int .i64 (st.i : Int), vt, vn, .int .i64 (st.err : Int), .int .i64 (st.at_ : Int)]
 lo : B ≤ g
 tok : w.ownsRow B 62 4 vt st.toks.length (toksC st.toks)
 note : w.ownsRow B 67 3 vn st.notes.length (notesC st.notes)
section
variable {w w' : World} {B g : Nat} {s : List Nat} {vt vn : Value} {st : LSt}
theorem LM.lt (h : LM w B g s vt vn st) : g < w.heap.size := h.par.lt
theorem LM.below (h : LM w B g s vt vn st) (hb : Below w.heap.size w w') : LM w' B g s vt vn st := ⟨h.par.keep hb, h.lo, own_below h.tok hb, own_below h.note hb⟩
theorem LM.drewN (h : LM w B g s vt vn st) (n : Nat) : LM (w.drewN n) B g s vt vn st := h.below (Below.drewN' (Below.refl _ _) n)
theorem LM.drew (h : LM w B g s vt vn st) : LM w.drew B g s vt vn st := h.below (Below.drew (Below.refl _ _))
theorem LM.tokNe (h : LM w B g s vt vn st) : vt.ownBlock ≠ some g := own_arr h.tok h.par (by decide)
theorem LM.noteNe (h : LM w B g s vt vn st) : vn.ownBlock ≠ some g := own_arr h.note h.par (by decide)
theorem LM.c0 (h : LM w B g s vt vn st) : w.cell? ⟨g, 0, none⟩ = some (.string (mks s)) := h.par.cell' (i := 0) rfl
theorem LM.c1 (h : LM w B g s vt vn st) : w.cell? ⟨g, 1, none⟩ = some (.int .i64 (st.i : Int)) := h.par.cell' (i := 1) rfl
theorem LM.c2 (h : LM w B g s vt vn st) : w.cell? ⟨g, 2, none⟩ = some vt := h.par.cell' (i := 2) rfl
theorem LM.c3 (h : LM w B g s vt vn st) : w.cell? ⟨g, 3, none⟩ = some vn := h.par.cell' (i := 3) rfl
theorem LM.c4 (h : LM w B g s vt vn st) : w.cell? ⟨g, 4, none⟩ = some (.int .i64 (st.err : Int)) := h.par.cell' (i := 4) rfl
theorem LM.c5 (h : LM w B g s vt vn st) : w.cell? ⟨g, 5, none⟩ = some (.int .i64 (st.at_ : Int)) := h.par.cell' (i := 5) rfl
theorem LM.f (h : LM w B g s vt vn st) (i : Nat) : w.frozen? ⟨g, i, none⟩ = false := h.par.frozen i
theorem LM.setI (h : LM w B g s vt vn st) (i : Nat) : LM (w.setCell ⟨g, 1, none⟩ (.int .i64 (i : Int))) B g s vt vn { st with i := i } :=
 ⟨h.par.store 1 _, h.lo, own_far h.tok (p := ⟨g, 1, none⟩) h.tokNe _, own_far h.note (p := ⟨g, 1, none⟩) h.noteNe _⟩
theorem LM.setE (h : LM w B g s vt vn st) (e : Nat) : LM (w.setCell ⟨g, 4, none⟩ (.int .i64 (e : Int))) B g s vt vn { st with err := e } :=
 ⟨h.par.store 4 _, h.lo, own_far h.tok (p := ⟨g, 4, none⟩) h.tokNe _, own_far h.note (p := ⟨g, 4, none⟩) h.noteNe _⟩
theorem LM.setA (h : LM w B g s vt vn st) (a : Nat) : LM (w.setCell ⟨g, 5, none⟩ (.int .i64 (a : Int))) B g s vt vn { st with at_ := a } :=
 ⟨h.par.store 5 _, h.lo, own_far h.tok (p := ⟨g, 5, none⟩) h.tokNe _, own_far h.note (p := ⟨g, 5, none⟩) h.noteNe _⟩
end
def LexR (w : World) (B g : Nat) (s : List Nat) (P : LSt → Prop) (e : Ending) (w' : World) : Prop := e = .returned (.tuple #[]) ∧ ∃ vt vn st, LM w' B g s vt vn st ∧ P st ∧ Below B w w'
set_option maxHeartbeats 1000000 in
theorem isLetter_any (c : Nat) (hc : c < 256) (w : World) : Calls Tryz.prog 50 #[.int .u8 (c : Int)] w fun e w' => e = .returned (.bool (letB c)) ∧ w = w' := by
 go_enter Tryz.func50, Tryz.ntmps50
 go_wp2
 all_goals
  go_ret
  refine ⟨ret_b ?_, rfl⟩
  unfold letB
  rw [Bool.eq_iff_iff]
  simp
  try omega
set_option maxHeartbeats 1000000 in
theorem isNumeric_any (c : Nat) (hc : c < 256) (w : World) : Calls Tryz.prog 51 #[.int .u8 (c : Int)] w fun e w' => e = .returned (.bool (numB c)) ∧ w = w' := by
 go_enter Tryz.func51, Tryz.ntmps51
 go_wp2
 all_goals
  go_ret
  refine ⟨ret_b ?_, rfl⟩
  unfold numB
  rw [Bool.eq_iff_iff]
  simp
  try omega
set_option maxHeartbeats 2000000 in
theorem lfail_any {w : World} {B g : Nat} {s : List Nat} {vt vn : Value} {st : LSt} (h : LM w B g s vt vn st) (hB : B ≤ w.heap.size) (e a : Nat) :
  Calls Tryz.prog 53 #[.pointer (some ⟨g, 0, none⟩), .int .i64 (e : Int), .int .i64 (a : Int)] w
   fun en w' => en = .returned (.tuple #[]) ∧ LM w' B g s vt vn { st with err := e, at_ := a } ∧ Below B w w' := by
 have h2 := (h.setE e).setA a
 have f4 := h.f 4
 have f5 := h.f 5
 have c4 := h.c4
 have c5 := h.c5
 have hlo := h.lo
 have hb : Below B w ((w.setCell ⟨g, 4, none⟩ (.int .i64 (e : Int))).setCell ⟨g, 5, none⟩ (.int .i64 (a : Int))) := ((Below.refl _ _).setCell hlo _).setCell hlo _
 clear h
 go_enter Tryz.func53, Tryz.ntmps53
 go_wp2
 go_end0
 exact ⟨rfl, h2, hb⟩
theorem lfail_h {w : World} {B g : Nat} {s : List Nat} {vt vn : Value} {st : LSt} (h : LM w B g s vt vn st) (hB : B ≤ w.heap.size) (e : Nat) (e' : Int) (he : (e : Int) = e') (a : Nat) :
  Hid (Calls Tryz.prog 53 #[.pointer (some ⟨g, 0, none⟩), .int .i64 e', .int .i64 (a : Int)] w
   fun en w' => en = .returned (.tuple #[]) ∧ LM w' B g s vt vn { st with err := e, at_ := a } ∧ Below B w w') := by subst he; exact lfail_any h hB e a
theorem eq_toL {a b : List Nat} (ha : By a) (hb : By b) : ((mks a).toList == (mks b).toList) = decide (a = b) := by
 rw [Bool.eq_iff_iff, beq_iff_eq, decide_eq_true_iff]
 constructor
 ·intro h
  have h1 := (toL_iff ha (mks b).toList).1 h
  have h2 := (toL_iff hb (mks b).toList).1 rfl
  rw [h1, ← h2]
 ·rintro rfl; rfl
theorem take_drop_eq (i n : Nat) (s : List Nat) : (s.drop i).take n = (s.take (i + n)).drop i := by
 rw [List.drop_take, Nat.add_sub_cancel_left]
def QuietR (w : World) (v : Value) (e : Ending) (w' : World) : Prop := e = .returned v ∧ ∃ n, w' = w.drewN n
set_option maxRecDepth 8000 in
set_option maxHeartbeats 4000000 in
theorem has_any (w : World) (g : Nat) (s p : List Nat) (hs : By s) (hp : By p) (i : Nat) (hi : i ≤ 4294967296) (hl : s.length ≤ 4294967296) (hpl : p.length ≤ 100) (hp1 : 1 ≤ p.length)
  (c0 : w.cell? ⟨g, 0, none⟩ = some (.string (mks s))) (c1 : w.cell? ⟨g, 1, none⟩ = some (.int .i64 (i : Int))) :
  Calls Tryz.prog 47 #[.pointer (some ⟨g, 0, none⟩), .string (mks p)] w (QuietR w (.bool (hasP p (s.drop i)))) := by
 by_cases hle : i + p.length ≤ s.length
 ·have hd : decide ((i : Int) + p.length ≤ s.length) = true := by simp; omega
  have hle' : (i : Int) + p.length ≤ s.length := by omega
  have hle2 : (i : Int) ≤ (i : Int) + p.length := by omega
  have e1 : ((i : Int) + p.length).toNat = i + p.length := by omega
  have hh : decide ((s.drop i).take p.length = p) = hasP p (s.drop i) := rfl
  go_enter Tryz.func47, Tryz.ntmps47
  go_wp2
  go_quiet (fail)
  go_wp2
  go_ret
  exact ⟨ret_b (by rw [← take_drop_eq i p.length s, ← hh]; exact eq_toL ((hs.drop i).take _) hp), by first | exact q0 _ | exact q1 _ _ | exact q2 _ _ _⟩
 ·have hd : decide ((i : Int) + p.length ≤ s.length) = false := by simp; omega
  have hh : hasP p (s.drop i) = false := by
   unfold hasP
   rw [decide_eq_false_iff_not]
   intro h
   have := congrArg List.length h
   rw [List.length_take, List.length_drop] at this
   omega
  rw [hh]
  go_enter Tryz.func47, Tryz.ntmps47
  go_wp2
  go_quiet (fail)
  go_wp2
  go_ret
  exact ⟨rfl, by first | exact q0 _ | exact q1 _ _ | exact q2 _ _ _⟩
set_option maxRecDepth 8000 in
set_option maxHeartbeats 4000000 in
theorem hex_any (w : World) (g : Nat) (s : List Nat) (hs : By s) (p : Nat) (hp : p ≤ 4294967296) (hl : s.length ≤ 4294967296)
  (c0 : w.cell? ⟨g, 0, none⟩ = some (.string (mks s))) :
  Calls Tryz.prog 117 #[.pointer (some ⟨g, 0, none⟩), .int .i64 (p : Int)] w fun e w' => e = .returned (.int .i64 (if p + 4 ≤ s.length then hexN ((s.drop p).take 4) 0 else -1)) ∧ w = w' := by
 by_cases hle : p + 4 ≤ s.length
 ·rw [if_pos hle]
  obtain ⟨t, ht⟩ : ∃ t, (s.drop p).take 4 = t := ⟨_, rfl⟩
  have htl : Hid (t.length = 4) := by show _ = _; rw [← ht, List.length_take, List.length_drop]; omega
  have htg : Hid (∀ k, k < 4 → t[k]? = s[p + k]?) := by
   show ∀ k, _
   intro k hk
   rw [← ht, List.getElem?_take, if_pos hk, List.getElem?_drop]
  rw [ht]
  generalize hv : hexN t 0 = v
  have HV : Hid (hexN (t.drop 0) 0 = v) := hv
  clear hv ht
  have hle' : ¬ (s.length : Int) < (p : Int) + 4 := by omega
  go_enter Tryz.func117, Tryz.ntmps117
  go_wp2
  go_loopw [5, 6] (fun nv iv wr => ∃ k n : Nat, k ≤ 4 ∧ n < 65536 ∧ n < 16 ^ k ∧ nv = .int .i64 n ∧ iv = .int .i64 ((p + k : Nat) : Int) ∧ Hid (hexN (t.drop k) n = v) ∧ w = wr) (fun _ iv _ => p + 4 - (intOf iv).toNat)
  case atStart => exact ⟨0, 0, by omega, by omega, by omega, rfl, rfl, HV, rfl⟩
  case round =>
   obtain ⟨k, n, hk, hn, hnk, rfl, rfl, hv, rfl⟩ := hrel
   clear HV
   obtain ⟨i, hi⟩ : ∃ i, p + k = i := ⟨_, rfl⟩
   rw [hi]
   by_cases hk4 : k < 4
   ·obtain ⟨c, hc⟩ : ∃ c, s[i]? = some c := ⟨_, List.getElem?_eq_getElem (by omega)⟩
    have cb := hs.get hc
    have gc := get_mks hc cb (by rw [size_mks]; omega)
    have h6 : (i : Int) < (p : Int) + 4 := by omega
    have h6' : (i : Int) < s.length := by omega
    have htc : t[k]? = some c := by rw [htg.out k hk4, hi]; exact hc
    have hstep := hv.out
    rw [drop_cons htc, hexN] at hstep
    have hn16 : n < 4096 := by
     have : 16 ^ k ≤ 16 ^ 3 := Nat.pow_le_pow_right (by decide) (by omega)
     omega
    have hpow : 16 ^ (k + 1) = 16 * 16 ^ k := by rw [Nat.pow_succ, Nat.mul_comm]
    have hd : (∃ d, hexD c = some d ∧ d < 16 ∧ ((48 ≤ c ∧ c ≤ 57 ∧ d = c - 48) ∨ (97 ≤ c ∧ c ≤ 102 ∧ d = c - 87) ∨ (65 ≤ c ∧ c ≤ 70 ∧ d = c - 55))) ∨ (hexD c = none ∧ ¬ (48 ≤ c ∧ c ≤ 57) ∧ ¬ (97 ≤ c ∧ c ≤ 102) ∧ ¬ (65 ≤ c ∧ c ≤ 70)) := by
     unfold hexD
     by_cases h1 : 48 ≤ c ∧ c ≤ 57
     ·rw [if_pos h1]; exact .inl ⟨_, rfl, by omega, .inl ⟨h1.1, h1.2, rfl⟩⟩
     ·rw [if_neg h1]
      by_cases h2 : 97 ≤ c ∧ c ≤ 102
      ·rw [if_pos h2]; exact .inl ⟨_, rfl, by omega, .inr (.inl ⟨h2.1, h2.2, rfl⟩)⟩
      ·rw [if_neg h2]
       by_cases h3 : 65 ≤ c ∧ c ≤ 70
       ·rw [if_pos h3]; exact .inl ⟨_, rfl, by omega, .inr (.inr ⟨h3.1, h3.2, rfl⟩)⟩
       ·rw [if_neg h3]; exact .inr ⟨rfl, h1, h2, h3⟩
    clear hv hc htc
    rcases hd with ⟨d, hd, hd16, hcs⟩ | ⟨hd, h1, h2, h3⟩
    ·rw [hd] at hstep
     have HS := Lib.hid (show hexN (t.drop (k + 1)) (16 * n + d) = v from hstep)
     clear hstep hd
     have hnx : Hid (16 * n + d < 16 ^ (k + 1)) := by show _ < _; omega
     clear hpow hnk
     rcases hcs with ⟨g1, g2, rfl⟩ | ⟨g1, g2, rfl⟩ | ⟨g1, g2, rfl⟩
     all_goals
      go_wp2
      go_roundw
      case rel => exact ⟨k + 1, _, by omega, by omega, hnx.out, i64e (by omega), i64e (by omega), HS, by first | rfl | trivial⟩
      case measure => simp [intOf]; omega
    ·rw [hd] at hstep
     obtain rfl : -1 = v := hstep
     clear hd hpow hnk
     go_wp2
     all_goals
      go_ret
      exact ⟨rfl, rfl⟩
   ·obtain rfl : k = 4 := by omega
    have hx := hv.out
    rw [List.drop_eq_nil_of_le (by have := htl.out; omega), hexN] at hx
    subst hx
    clear hv
    go_wp2
    go_ret
    exact ⟨rfl, rfl⟩
 ·rw [if_neg hle]
  have hle' : (s.length : Int) < (p : Int) + 4 := by omega
  go_enter Tryz.func117, Tryz.ntmps117
  go_wp2
  go_ret
  exact ⟨rfl, rfl⟩
end Go.Proofs.YtbdnamcjhndpjaaGreatDoor
namespace Go.Proofs.YtbdnamcjhndpjaaGreatDoor
open Go.RowKit
theorem unit_none {l : List Nat} (h : hasP [92, 117] l = false) : unitV l = -1 := by
 unfold unitV
 rw [if_neg]
 rintro ⟨_, h0, h1⟩
 match l, h0, h1 with
 | a :: b :: t, h0, h1 =>
  simp at h0 h1
  subst h0
  subst h1
  simp [hasP] at h
theorem unit_some {l : List Nat} (h : hasP [92, 117] l = true) : unitV l = if 6 ≤ l.length then hexN ((l.drop 2).take 4) 0 else -1 := by
 unfold hasP at h
 rw [decide_eq_true_iff] at h
 match l, h with
 | a :: b :: t, h =>
  simp at h
  obtain ⟨rfl, rfl⟩ := h
  unfold unitV
  by_cases hl : 6 ≤ (92 :: 117 :: t).length
  ·rw [if_pos ⟨hl, rfl, rfl⟩, if_pos hl]; rfl
  ·rw [if_neg (fun h => hl h.1), if_neg hl]
theorem hex_h (g : Nat) (s : List Nat) (hs : By s) (p : Nat) (hp : p ≤ 4294967296) (hl : s.length ≤ 4294967296) : Hid (∀ w, w.cell? ⟨g, 0, none⟩ = some (.string (mks s)) →
  Calls Tryz.prog 117 #[.pointer (some ⟨g, 0, none⟩), .int .i64 (p : Int)] w fun e w' => e = .returned (.int .i64 (if p + 4 ≤ s.length then hexN ((s.drop p).take 4) 0 else -1)) ∧ w = w') := fun w c => hex_any w g s hs p hp hl c
set_option maxRecDepth 8000 in
set_option maxHeartbeats 4000000 in
theorem lunit_any (w : World) (g : Nat) (s : List Nat) (hs : By s) (p : Nat) (hp : p ≤ 4294967290) (hl : s.length ≤ 4294967296)
  (c0 : w.cell? ⟨g, 0, none⟩ = some (.string (mks s))) :
  Calls Tryz.prog 106 #[.pointer (some ⟨g, 0, none⟩), .int .i64 (p : Int)] w fun e w' => e = .returned (.int .i64 (unitV (s.drop p))) ∧ w = w' := by
 by_cases hle : p + 2 ≤ s.length
 ·have hle' : ¬ (s.length : Int) < (p : Int) + 2 := by omega
  have hle2 : (p : Int) ≤ (p : Int) + 2 := by omega
  have hle3 : (p : Int) + 2 ≤ s.length := by omega
  have he := eq_mks (a := (s.drop p).take 2) (b := [92, 117]) ((hs.drop p).take _) (by intro c hc; simp at hc; omega)
  rw [take_drop_eq] at he
  have hh : decide ((s.take (p + 2)).drop p = [92, 117]) = hasP [92, 117] (s.drop p) := by rw [← take_drop_eq]; rfl
  rw [hh] at he
  clear hh
  have elit : (ByteArray.mk #[92, 117] : ByteArray) = mks [92, 117] := by simp [mks]
  cases hb : hasP [92, 117] (s.drop p) with
  | false =>
   rw [unit_none hb]
   rw [hb] at he
   go_enter Tryz.func106, Tryz.ntmps106
   go_wp2
   go_ret
   exact ⟨rfl, rfl⟩
  | true =>
   rw [unit_some hb, List.length_drop, List.drop_drop]
   rw [hb] at he
   have D := (hex_h g s hs (p + 2) (by omega) hl).out
   have hcnd : (if 6 ≤ s.length - p then hexN ((s.drop (p + 2)).take 4) 0 else -1) = (if p + 2 + 4 ≤ s.length then hexN ((s.drop (p + 2)).take 4) 0 else -1) := by
    by_cases h : 6 ≤ s.length - p
    ·rw [if_pos h, if_pos (by omega)]
    ·rw [if_neg h, if_neg (by omega)]
   rw [hcnd]
   clear hcnd
   generalize (if p + 2 + 4 ≤ s.length then hexN ((s.drop (p + 2)).take 4) 0 else -1) = hv at *
   have ep : ((p + 2 : Nat) : Int) = (p : Int) + 2 := by omega
   rw [ep] at D
   have D := Lib.hid D
   clear ep
   go_enter Tryz.func106, Tryz.ntmps106
   go_wp2_with (go_at_call 117; ((with_reducible refine (D.out _ c0).mono ?_)); rintro e wn ⟨rfl, rfl⟩)
   go_ret
   exact ⟨rfl, rfl⟩
 ·have hle' : (s.length : Int) < (p : Int) + 2 := by omega
  have hu : unitV (s.drop p) = -1 := by
   unfold unitV
   rw [if_neg]
   rintro ⟨h, _⟩
   rw [List.length_drop] at h
   omega
  rw [hu]
  go_enter Tryz.func106, Tryz.ntmps106
  go_wp2
  go_ret
  exact ⟨rfl, rfl⟩
theorem lunit_h (g : Nat) (s : List Nat) (hs : By s) (p : Nat) (hp : p ≤ 4294967290) (hl : s.length ≤ 4294967296) : Hid (∀ w, w.cell? ⟨g, 0, none⟩ = some (.string (mks s)) →
  Calls Tryz.prog 106 #[.pointer (some ⟨g, 0, none⟩), .int .i64 (p : Int)] w fun e w' => e = .returned (.int .i64 (unitV (s.drop p))) ∧ w = w') := fun w c => lunit_any w g s hs p hp hl c
def EscP (x : Int × Int × Int) (st : LSt) (t : List Nat) (st' : LSt) : Prop :=
 (x.2.2 = 0 ∧ t = encL x.1 ∧ st' = { st with i := st.i + x.2.1.toNat }) ∨ (x.2.2 ≠ 0 ∧ t = [] ∧ ∃ i', i' ≤ st.i + 2 ∧ st' = { st with i := i', err := x.2.2.toNat, at_ := st.i })
def EscL (w : World) (B g : Nat) (s : List Nat) (vt vn : Value) (st : LSt) (x : Int × Int × Int) (e : Ending) (w' : World) : Prop :=
 ∃ t st', e = .returned (.string (mks t)) ∧ LM w' B g s vt vn st' ∧ Below B w w' ∧ EscP x st t st'
theorem enc_h (n : Nat) (hn : n < 1114112) : Hid (∀ w, Calls Tryz.prog 107 #[.int .i32 (n : Int)] w (fun e w' => e = .returned (.string (mks (encR n))) ∧ Below w.heap.size w w')) := fun w => encode_any n hn w
theorem encI_h (u : Int) (h0 : 0 ≤ u) (h1 : u < 55296 ∨ 57343 < u) (h2 : u < 1114112) : Hid (∀ w, Calls Tryz.prog 107 #[.int .i32 u] w (fun e w' => e = .returned (.string (mks (encL u))) ∧ Below w.heap.size w w')) := by
 obtain ⟨n, rfl⟩ : ∃ n : Nat, u = (n : Int) := ⟨u.toNat, by omega⟩
 have h := enc_h n (by omega)
 rw [encR_eq n (by omega) (by omega)] at h
 exact h
theorem encL_one {c : Nat} (h : c < 128) : encL (c : Int) = [c] := by
 have := encR_eq c (by omega) (by omega)
 rw [← this]
 unfold encR
 rw [if_pos h]
set_option maxRecDepth 100000 in
set_option maxHeartbeats 4000000 in
theorem lescape_unit {w : World} {B g : Nat} {s : List Nat} {vt vn : Value} {st : LSt} (h : LM w B g s vt vn st) (hs : By s) (hB : B ≤ w.heap.size) (hi : st.i ≤ 1000000) (hl : s.length ≤ 1000000) (hu : 0 ≤ unitV (s.drop st.i)) :
  Calls Tryz.prog 78 #[.pointer (some ⟨g, 0, none⟩)] w (EscL w B g s vt vn st (escV (s.drop st.i))) := by
 have D1 := lunit_h g s hs st.i (by omega) (by omega)
 have D2 := lunit_h g s hs (st.i + 6) (by omega) (by omega)
 have e6 : ((st.i + 6 : Nat) : Int) = (st.i : Int) + 6 := by omega
 rw [e6] at D2
 have hb1 := unitV_bd (s.drop st.i)
 have hb2 := unitV_bd (s.drop (st.i + 6))
 have c0 := h.c0
 have c1 := h.c1
 have f1 := h.f 1
 have hlo := h.lo
 have hx : escV (s.drop st.i) = if unitV (s.drop st.i) < 55296 ∨ 57343 < unitV (s.drop st.i) then (unitV (s.drop st.i), 6, 0) else if 56319 < unitV (s.drop st.i) ∨ unitV (s.drop (st.i + 6)) < 56320 ∨ 57343 < unitV (s.drop (st.i + 6)) then (0, 0, 11) else (65536 + (unitV (s.drop st.i) - 55296) * 1024 + unitV (s.drop (st.i + 6)) - 56320, 12, 0) := by
  unfold escV
  rw [if_neg (by omega), List.drop_drop]
 rw [hx]
 clear hx
 generalize unitV (s.drop st.i) = u at *
 generalize unitV (s.drop (st.i + 6)) = v at *
 by_cases h1 : u < 55296 ∨ 57343 < u
 ·rw [if_pos h1]
  have DE := encI_h u hu h1 (by omega)
  have h2 := h.setI (st.i + 6)
  have hb : Below B w (w.setCell ⟨g, 1, none⟩ (.int .i64 ((st.i + 6 : Nat) : Int))) := (Below.refl _ _).setCell hlo _
  rw [e6] at h2 hb
  have hsz := Lib.hid (show (w.setCell ⟨g, 1, none⟩ (.int .i64 ((st.i : Int) + 6))).heap.size = w.heap.size by simp [World.setCell])
  have HL := Lib.hid h2
  clear h2 e6
  have hcs : ¬ 55296 ≤ u ∨ (55296 ≤ u ∧ ¬ u < 56320 ∧ ¬ u < 57344) := by omega
  obtain ⟨_, hu1⟩ := hb1
  clear h1
  rcases hcs with h1 | ⟨h1, h2, h3⟩
  all_goals
   go_enter Tryz.func78, Tryz.ntmps78
   go_wp2_with (first | (go_at_call 106; ((first | with_reducible refine (D1.out _ c0).mono ?_ | with_reducible refine (D2.out _ c0).mono ?_)); rintro e wn ⟨rfl, rfl⟩) | (go_at_call 107; ((with_reducible refine (DE.out _).mono ?_)); rintro e w8 ⟨rfl, hb8⟩))
   go_ret
   exact ⟨_, _, rfl, HL.out.below hb8, hb.trans (hb8.mono (by rw [hsz.out]; exact hB)), .inl ⟨rfl, rfl, rfl⟩⟩
 ·rw [if_neg h1]
  have g1 : 55296 ≤ u := by omega
  have g2 : u < 57344 := by omega
  by_cases h2 : 56319 < u ∨ v < 56320 ∨ 57343 < v
  ·rw [if_pos h2]
   have D11 := lfail_h h hB 11 11 rfl st.i
   have hcs : ¬ u < 56320 ∨ (u < 56320 ∧ ¬ 56320 ≤ v) ∨ (u < 56320 ∧ 56320 ≤ v ∧ ¬ v < 57344) := by omega
   obtain ⟨_, hu1⟩ := hb1
   obtain ⟨_, hv1⟩ := hb2
   clear h2 h1 e6
   rcases hcs with h3 | ⟨h3, h4⟩ | ⟨h3, h4, h5⟩
   all_goals
    go_enter Tryz.func78, Tryz.ntmps78
    go_wp2_with (first | (go_at_call 106; ((first | with_reducible refine (D1.out _ c0).mono ?_ | with_reducible refine (D2.out _ c0).mono ?_)); rintro e wn ⟨rfl, rfl⟩) | (go_at_call 53; ((with_reducible refine D11.out.mono ?_)); rintro e w8 ⟨rfl, hL8, hb8⟩))
    go_ret
    exact ⟨[], _, rfl, hL8, hb8, .inr ⟨by decide, rfl, st.i, by omega, rfl⟩⟩
  ·rw [if_neg h2]
   have h3 : u < 56320 := by omega
   have h4 : 56320 ≤ v := by omega
   have h5 : v < 57344 := by omega
   have DE := encI_h (65536 + (u - 55296) * 1024 + v - 56320) (by omega) (by omega) (by omega)
   have h6 := h.setI (st.i + 12)
   have e12 : ((st.i + 12 : Nat) : Int) = (st.i : Int) + 12 := by omega
   have hb : Below B w (w.setCell ⟨g, 1, none⟩ (.int .i64 ((st.i + 12 : Nat) : Int))) := (Below.refl _ _).setCell hlo _
   rw [e12] at h6 hb
   have hsz := Lib.hid (show (w.setCell ⟨g, 1, none⟩ (.int .i64 ((st.i : Int) + 12))).heap.size = w.heap.size by simp [World.setCell])
   have HL := Lib.hid h6
   clear h1 h2 h6 e12 e6
   go_enter Tryz.func78, Tryz.ntmps78
   go_wp2_with (first | (go_at_call 106; ((first | with_reducible refine (D1.out _ c0).mono ?_ | with_reducible refine (D2.out _ c0).mono ?_)); rintro e wn ⟨rfl, rfl⟩) | (go_at_call 107; ((with_reducible refine (DE.out _).mono ?_)); rintro e w8 ⟨rfl, hb8⟩))
   go_ret
   exact ⟨_, _, rfl, HL.out.below hb8, hb.trans (hb8.mono (by rw [hsz.out]; exact hB)), .inl ⟨rfl, rfl, rfl⟩⟩
end Go.Proofs.YtbdnamcjhndpjaaGreatDoor
namespace Go.Proofs.YtbdnamcjhndpjaaGreatDoor
open Go.RowKit
theorem mean_cases (c : Nat) : (((c : Int) == 34) = true ∧ 0 < c ∧ c < 128 ∧ meanV c = c) ∨ (((c : Int) == 34) = false ∧ ((c : Int) == 92) = true ∧ 0 < c ∧ c < 128 ∧ meanV c = c) ∨ (((c : Int) == 34) = false ∧ ((c : Int) == 92) = false ∧ ((c : Int) == 47) = true ∧ 0 < c ∧ c < 128 ∧ meanV c = c) ∨ (c = 98 ∧ meanV c = 8) ∨ (c = 102 ∧ meanV c = 12) ∨ (c = 110 ∧ meanV c = 10) ∨ (c = 114 ∧ meanV c = 13) ∨ (c = 116 ∧ meanV c = 9) ∨
  (meanV c = 0 ∧ ((c : Int) == 34) = false ∧ ((c : Int) == 92) = false ∧ ((c : Int) == 47) = false ∧ ((c : Int) == 98) = false ∧ ((c : Int) == 102) = false ∧ ((c : Int) == 110) = false ∧ ((c : Int) == 114) = false ∧ ((c : Int) == 116) = false) := by
 unfold meanV
 by_cases h1 : c = 34
 ·simp [h1]
 by_cases h2 : c = 92
 ·simp [h2]
 by_cases h3 : c = 47
 ·simp [h3]
 by_cases h4 : c = 98
 ·simp [h4]
 by_cases h5 : c = 102
 ·simp [h5]
 by_cases h6 : c = 110
 ·simp [h6]
 by_cases h7 : c = 114
 ·simp [h7]
 by_cases h8 : c = 116
 ·simp [h8]
 simp [h1, h2, h3, h4, h5, h6, h7, h8]
 omega
set_option maxRecDepth 100000 in
set_option maxHeartbeats 4000000 in
theorem lescape_one {w : World} {B g : Nat} {s : List Nat} {vt vn : Value} {st : LSt} (h : LM w B g s vt vn st) (hs : By s) (hB : B ≤ w.heap.size) (hi : st.i ≤ 1000000) (hl : s.length ≤ 1000000) (hu : unitV (s.drop st.i) < 0) :
  Calls Tryz.prog 78 #[.pointer (some ⟨g, 0, none⟩)] w (EscL w B g s vt vn st (escV (s.drop st.i))) := by
 have D1 := lunit_h g s hs st.i (by omega) (by omega)
 have c0 := h.c0
 have c1 := h.c1
 have hlo := h.lo
 have hx : escV (s.drop st.i) = if 1 < (s.drop st.i).length ∧ 0 < meanV ((s.drop st.i).getD 1 0) then (((meanV ((s.drop st.i).getD 1 0) : Nat) : Int), 2, 0) else (0, 0, 4) := by
  unfold escV; rw [if_pos hu]
 rw [hx]
 have hgd : (s.drop st.i).getD 1 0 = s.getD (st.i + 1) 0 := by simp [List.getD_eq_getElem?_getD]
 rw [hgd, List.length_drop]
 clear hx hgd
 generalize unitV (s.drop st.i) = u at *
 by_cases hlt : st.i + 1 < s.length
 ·obtain ⟨c, hc⟩ : ∃ c, s[st.i + 1]? = some c := ⟨_, List.getElem?_eq_getElem hlt⟩
  have hcb := hs.get hc
  have hgc := get_mks hc hcb (by rw [size_mks]; omega)
  have hd : s.getD (st.i + 1) 0 = c := by rw [List.getD_eq_getElem?_getD, hc]; rfl
  have hlt' : (st.i : Int) + 1 < s.length := by omega
  rw [hd]
  clear hd hc
  generalize hxe : (if 1 < s.length - st.i ∧ 0 < meanV c then (((meanV c : Nat) : Int), (2 : Int), (0 : Int)) else (0, 0, 4)) = x
  have HXE := Lib.hid hxe
  clear hxe
  go_enter Tryz.func78, Tryz.ntmps78
  go_upto_region 13 with (go_at_call 106; ((with_reducible refine (D1.out _ c0).mono ?_)); rintro e wn ⟨rfl, rfl⟩)
  go_quiet (fail)
  have h2 := h.drewN nq
  have hB2 : B ≤ (w.drewN nq).heap.size := hB
  have hb2 : Below B w (w.drewN nq) := Below.drewN' (Below.refl _ _) nq
  generalize w.drewN nq = W at *
  clear c0 c1
  have c0 := h2.c0
  have c1 := h2.c1
  go_upto_region 14 with (fail)
  go_quiet (fail)
  have h3 := h2.drewN nq
  have hB3 : B ≤ (W.drewN nq).heap.size := hB2
  have hb3 : Below B w (W.drewN nq) := Below.drewN' hb2 nq
  generalize W.drewN nq = W3 at *
  clear c0 c1 D1 hgc
  have c0 := h3.c0
  have c1 := h3.c1
  have f1 := h3.f 1
  have hL := h3.setI (st.i + 2)
  have e2 : ((st.i + 2 : Nat) : Int) = (st.i : Int) + 2 := by omega
  have hbs : ∀ W', Below B w W' → Below B w (W'.setCell ⟨g, 1, none⟩ (.int .i64 ((st.i : Int) + 2))) := fun W' h => h.setCell hlo _
  rw [e2] at hL
  have HL := Lib.hid hL
  clear hL
  have HX : ∀ m : Nat, meanV c = m → 0 < m → m < 128 → EscP x st [m] { st with i := st.i + 2 } := by
   intro m hm h0 h1
   rw [← HXE.out, hm, if_pos ⟨by omega, h0⟩]
   exact .inl ⟨rfl, (encL_one h1).symm, rfl⟩
  have HX := Lib.hid HX
  rcases mean_cases c with ⟨g1, hc0, hc1, hm⟩ | ⟨g1, g2, hc0, hc1, hm⟩ | ⟨g1, g2, g3, hc0, hc1, hm⟩ | ⟨rfl, hm⟩ | ⟨rfl, hm⟩ | ⟨rfl, hm⟩ | ⟨rfl, hm⟩ | ⟨rfl, hm⟩ | ⟨hm, g1, g2, g3, g4, g5, g6, g7, g8⟩
  ·have hP := Lib.hid (HX.out c hm hc0 hc1)
   have hcv : (convert 103 9 (.slice (some ⟨W3.heap.size, 0, none⟩) 1 1)).run Tryz.prog (W3.alloc (.cells #[.int .u8 (c : Int)] 5)) = .ok (.string (mks [c])) (W3.alloc (.cells #[.int .u8 (c : Int)] 5)) := conv_cells [c] W3
   have h4 := h3.below ((Below.refl W3.heap.size W3).alloc (Nat.le_refl _) (.cells #[.int .u8 (c : Int)] 5))
   have hb4 := hb3.alloc hB3 (.cells #[.int .u8 (c : Int)] 5)
   have c1' := h4.c1
   have f1' := h4.f 1
   have hL4 := h4.setI (st.i + 2)
   rw [e2] at hL4
   have HL4 := Lib.hid hL4
   have hbs4 := Lib.hid (hbs _ hb4)
   clear hL4 hm e2 HL hbs
   go_wp2
   go_ret
   exact ⟨_, _, rfl, HL4.out, hbs4.out, hP.out⟩
  ·have hP := Lib.hid (HX.out c hm hc0 hc1)
   have hcv : (convert 103 9 (.slice (some ⟨W3.heap.size, 0, none⟩) 1 1)).run Tryz.prog (W3.alloc (.cells #[.int .u8 (c : Int)] 5)) = .ok (.string (mks [c])) (W3.alloc (.cells #[.int .u8 (c : Int)] 5)) := conv_cells [c] W3
   have h4 := h3.below ((Below.refl W3.heap.size W3).alloc (Nat.le_refl _) (.cells #[.int .u8 (c : Int)] 5))
   have hb4 := hb3.alloc hB3 (.cells #[.int .u8 (c : Int)] 5)
   have c1' := h4.c1
   have f1' := h4.f 1
   have hL4 := h4.setI (st.i + 2)
   rw [e2] at hL4
   have HL4 := Lib.hid hL4
   have hbs4 := Lib.hid (hbs _ hb4)
   clear hL4 hm e2 HL hbs
   go_wp2
   go_ret
   exact ⟨_, _, rfl, HL4.out, hbs4.out, hP.out⟩
  ·have hP := Lib.hid (HX.out c hm hc0 hc1)
   have hcv : (convert 103 9 (.slice (some ⟨W3.heap.size, 0, none⟩) 1 1)).run Tryz.prog (W3.alloc (.cells #[.int .u8 (c : Int)] 5)) = .ok (.string (mks [c])) (W3.alloc (.cells #[.int .u8 (c : Int)] 5)) := conv_cells [c] W3
   have h4 := h3.below ((Below.refl W3.heap.size W3).alloc (Nat.le_refl _) (.cells #[.int .u8 (c : Int)] 5))
   have hb4 := hb3.alloc hB3 (.cells #[.int .u8 (c : Int)] 5)
   have c1' := h4.c1
   have f1' := h4.f 1
   have hL4 := h4.setI (st.i + 2)
   rw [e2] at hL4
   have HL4 := Lib.hid hL4
   have hbs4 := Lib.hid (hbs _ hb4)
   clear hL4 hm e2 HL hbs
   go_wp2
   go_ret
   exact ⟨_, _, rfl, HL4.out, hbs4.out, hP.out⟩
  ·have hP := Lib.hid (HX.out 8 hm (by decide) (by decide))
   have hbs3 := Lib.hid (hbs _ hb3)
   clear hm e2 hbs
   go_wp2
   go_ret
   exact ⟨_, _, rfl, HL.out, hbs3.out, hP.out⟩
  ·have hP := Lib.hid (HX.out 12 hm (by decide) (by decide))
   have hbs3 := Lib.hid (hbs _ hb3)
   clear hm e2 hbs
   go_wp2
   go_ret
   exact ⟨_, _, rfl, HL.out, hbs3.out, hP.out⟩
  ·have hP := Lib.hid (HX.out 10 hm (by decide) (by decide))
   have hbs3 := Lib.hid (hbs _ hb3)
   clear hm e2 hbs
   go_wp2
   go_ret
   exact ⟨_, _, rfl, HL.out, hbs3.out, hP.out⟩
  ·have hP := Lib.hid (HX.out 13 hm (by decide) (by decide))
   have hbs3 := Lib.hid (hbs _ hb3)
   clear hm e2 hbs
   go_wp2
   go_ret
   exact ⟨_, _, rfl, HL.out, hbs3.out, hP.out⟩
  ·have hP := Lib.hid (HX.out 9 hm (by decide) (by decide))
   have hbs3 := Lib.hid (hbs _ hb3)
   clear hm e2 hbs
   go_wp2
   go_ret
   exact ⟨_, _, rfl, HL.out, hbs3.out, hP.out⟩
  ·have D4 := lfail_h h3 hB3 4 4 rfl st.i
   have hno : ¬ (1 < s.length - st.i ∧ 0 < meanV c) := by omega
   have hx4 : x = (0, 0, 4) := by rw [← HXE.out, if_neg hno]
   subst hx4
   clear hno hm HX HL HXE
   go_upto_region 32 with (go_at_call 53; ((with_reducible refine D4.out.mono ?_)); rintro e w8 ⟨rfl, hL8, hb8⟩)
   clear c0 c1 f1
   have c1 := hL8.c1
   have f1 := hL8.f 1
   have hL9 := hL8.setI (st.i + 2)
   rw [e2] at hL9
   have HL9 := Lib.hid hL9
   have hbs9 := Lib.hid (hbs _ (hb3.trans hb8))
   clear hL9 e2 hbs
   go_wp2
   go_ret
   exact ⟨[], _, rfl, HL9.out, hbs9.out, .inr ⟨by decide, rfl, st.i + 2, by omega, rfl⟩⟩
 ·have hlt' : ¬ (st.i : Int) + 1 < s.length := by omega
  have hno : ¬ (1 < s.length - st.i ∧ 0 < meanV (s.getD (st.i + 1) 0)) := by omega
  rw [if_neg hno]
  clear hno
  go_enter Tryz.func78, Tryz.ntmps78
  go_upto_region 13 with (go_at_call 106; ((with_reducible refine (D1.out _ c0).mono ?_)); rintro e wn ⟨rfl, rfl⟩)
  go_quiet (fail)
  have h3 := h.drewN nq
  have hB3 : B ≤ (w.drewN nq).heap.size := hB
  have hb3 : Below B w (w.drewN nq) := Below.drewN' (Below.refl _ _) nq
  generalize w.drewN nq = W3 at *
  clear c0 c1 D1
  have c0 := h3.c0
  have c1 := h3.c1
  have e2 : ((st.i + 2 : Nat) : Int) = (st.i : Int) + 2 := by omega
  have hbs : ∀ W', Below B w W' → Below B w (W'.setCell ⟨g, 1, none⟩ (.int .i64 ((st.i : Int) + 2))) := fun W' h => h.setCell hlo _
  have D4 := lfail_h h3 hB3 4 4 rfl st.i
  go_upto_region 32 with (go_at_call 53; ((with_reducible refine D4.out.mono ?_)); rintro e w8 ⟨rfl, hL8, hb8⟩)
  clear c0 c1
  have c1 := hL8.c1
  have f1 := hL8.f 1
  have hL9 := hL8.setI (st.i + 2)
  rw [e2] at hL9
  have HL9 := Lib.hid hL9
  have hbs9 := Lib.hid (hbs _ (hb3.trans hb8))
  clear hL9 e2 hbs
  go_wp2
  go_ret
  exact ⟨[], _, rfl, HL9.out, hbs9.out, .inr ⟨by decide, rfl, st.i + 2, by omega, rfl⟩⟩
theorem lescape_any {w : World} {B g : Nat} {s : List Nat} {vt vn : Value} {st : LSt} (h : LM w B g s vt vn st) (hs : By s) (hB : B ≤ w.heap.size) (hi : st.i ≤ 1000000) (hl : s.length ≤ 1000000) :
  Calls Tryz.prog 78 #[.pointer (some ⟨g, 0, none⟩)] w (EscL w B g s vt vn st (escV (s.drop st.i))) := by
 by_cases hu : 0 ≤ unitV (s.drop st.i)
 ·exact lescape_unit h hs hB hi hl hu
 ·exact lescape_one h hs hB hi hl (by omega)
end Go.Proofs.YtbdnamcjhndpjaaGreatDoor
namespace Go.Proofs.YtbdnamcjhndpjaaGreatDoor
open Go.RowKit
theorem Tryz.infoS62 : (Tryz.prog.info? 62).map (fun i => (i.zero, i.size, i.bytes)) = some (some (.agg zTok.toArray), 4, 40) := by kernel_rfl
theorem cells_at (w : World) (t : TypeId) (us : List Value) (n : Nat) (h : w.heap.size = n) : ∀ j u, us[j]? = some u → (w.alloc (.cells us.toArray t)).cell? ((⟨n, 0, none⟩ : Addr).add j) = some u := h ▸ cells_new w t us
section
variable {W w3 : World} {B g : Nat} {s : List Nat} {vt vn : Value} {st : LSt}
theorem LM.pushT (h : LM W B g s vt vn st) (t : JTok) (v' : Value) (hown : w3.ownsRow B 62 4 v' (st.toks.length + 1) (toksC st.toks ++ tokC t))
  (hgr : (W.drew.alloc (.cells (tokC t).toArray 62)).grownBy w3 vt.ownBlock) (hat : v'.ownBlock = vt.ownBlock ∨ v'.ownBlock = some (W.drew.alloc (.cells (tokC t).toArray 62)).heap.size) :
  Arr w3 g 85 [.string (mks s), .int .i64 (st.i : Int), vt, vn, .int .i64 (st.err : Int), .int .i64 (st.at_ : Int)] ∧
  LM (w3.setCell ⟨g, 2, none⟩ v') B g s v' vn { st with toks := st.toks ++ [t] } ∧ Below B W (w3.setCell ⟨g, 2, none⟩ v') := by
 have hsz : (W.drew.alloc (.cells (tokC t).toArray 62)).heap.size = W.heap.size + 1 := by simp
 have hlt := h.lt
 have hd : Arr W.drew g 85 [.string (mks s), .int .i64 (st.i : Int), vt, vn, .int .i64 (st.err : Int), .int .i64 (st.at_ : Int)] := h.par
 have P3 := (hd.alloc (.cells (tokC t).toArray 62)).grown hgr (fun e => h.tokNe e.symm)
 have hv' : v'.ownBlock ≠ some g := by
  rcases hat with e | e
  ·rw [e]; exact h.tokNe
  ·rw [e, hsz]; intro e'; have := Option.some.inj e'; omega
 have hn1 : (W.drew.alloc (.cells (tokC t).toArray 62)).ownsRow B 67 3 vn st.notes.length (notesC st.notes) := (show W.drew.ownsRow B 67 3 vn st.notes.length (notesC st.notes) from h.note).alloc _
 have hn3 : w3.ownsRow B 67 3 vn st.notes.length (notesC st.notes) := own_same hn1 (fun b hb => hgr.block b (hn1.lt b hb).2 (fun e => by
  rcases own_ne h.note h.tok (by decide) with e2 | e2
  ·rw [e2] at hb; cases hb
  ·exact e2 (hb.trans e)))
 refine ⟨P3, ⟨P3.store 2 v', h.lo, ?_, own_far hn3 (p := ⟨g, 2, none⟩) (fun e => ?_) v'⟩, ?_⟩
 ·rw [List.length_append, toksC_snoc]
  exact own_far hown (p := ⟨g, 2, none⟩) hv' v'
 ·exact h.noteNe e
 ·have hBW : B ≤ W.heap.size := Nat.le_trans h.lo (Nat.le_of_lt hlt)
  exact (Below.grown ((Below.drew (Below.refl B W)).alloc hBW _) hgr (by rw [hsz]; omega) (fun k e => (h.tok.lt k e).1)).setCell h.lo _
theorem LM.pushN (h : LM W B g s vt vn st) (t : JNote) (v' : Value) (hown : w3.ownsRow B 67 3 v' (st.notes.length + 1) (notesC st.notes ++ noteC t))
  (hgr : (W.drew.alloc (.cells (noteC t).toArray 67)).grownBy w3 vn.ownBlock) (hat : v'.ownBlock = vn.ownBlock ∨ v'.ownBlock = some (W.drew.alloc (.cells (noteC t).toArray 67)).heap.size) :
  Arr w3 g 85 [.string (mks s), .int .i64 (st.i : Int), vt, vn, .int .i64 (st.err : Int), .int .i64 (st.at_ : Int)] ∧
  LM (w3.setCell ⟨g, 3, none⟩ v') B g s vt v' { st with notes := st.notes ++ [t] } ∧ Below B W (w3.setCell ⟨g, 3, none⟩ v') := by
 have hsz : (W.drew.alloc (.cells (noteC t).toArray 67)).heap.size = W.heap.size + 1 := by simp
 have hlt := h.lt
 have hd : Arr W.drew g 85 [.string (mks s), .int .i64 (st.i : Int), vt, vn, .int .i64 (st.err : Int), .int .i64 (st.at_ : Int)] := h.par
 have P3 := (hd.alloc (.cells (noteC t).toArray 67)).grown hgr (fun e => h.noteNe e.symm)
 have hv' : v'.ownBlock ≠ some g := by
  rcases hat with e | e
  ·rw [e]; exact h.noteNe
  ·rw [e, hsz]; intro e'; have := Option.some.inj e'; omega
 have hn1 : (W.drew.alloc (.cells (noteC t).toArray 67)).ownsRow B 62 4 vt st.toks.length (toksC st.toks) := (show W.drew.ownsRow B 62 4 vt st.toks.length (toksC st.toks) from h.tok).alloc _
 have hn3 : w3.ownsRow B 62 4 vt st.toks.length (toksC st.toks) := own_same hn1 (fun b hb => hgr.block b (hn1.lt b hb).2 (fun e => by
  rcases own_ne h.tok h.note (by decide) with e2 | e2
  ·rw [e2] at hb; cases hb
  ·exact e2 (hb.trans e)))
 refine ⟨P3, ⟨P3.store 3 v', h.lo, own_far hn3 (p := ⟨g, 3, none⟩) (fun e => ?_) v', ?_⟩, ?_⟩
 ·exact h.tokNe e
 ·rw [List.length_append, notesC_snoc]
  exact own_far hown (p := ⟨g, 3, none⟩) hv' v'
 ·have hBW : B ≤ W.heap.size := Nat.le_trans h.lo (Nat.le_of_lt hlt)
  exact (Below.grown ((Below.drew (Below.refl B W)).alloc hBW _) hgr (by rw [hsz]; omega) (fun k e => (h.note.lt k e).1)).setCell h.lo _
end
def lexN (g L : Nat) (w : World) : Nat := match w.cell? ⟨g, 1, none⟩, w.cell? ⟨g, 4, none⟩ with
 | some (.int _ i), some (.int _ e) => if e = 0 then L + 1 - i.toNat else 0
 | _, _ => 0
theorem lexN_of {w : World} {B g : Nat} {s : List Nat} {vt vn : Value} {st : LSt} (h : LM w B g s vt vn st) (L : Nat) : lexN g L w = if st.err = 0 then L + 1 - st.i else 0 := by
 unfold lexN
 rw [h.c1, h.c4]
 simp only [Int.toNat_natCast]
 by_cases h0 : st.err = 0
 ·rw [if_pos h0, if_pos (by omega)]
 ·rw [if_neg h0, if_neg (by omega)]
theorem LM.e0 {w : World} {B g : Nat} {s : List Nat} {vt vn : Value} {st : LSt} (h : LM w B g s vt vn st) (h0 : st.err = 0) : w.cell? ⟨g, 4, none⟩ = some (.int .i64 0) := by
 have := h.c4; rw [h0] at this; exact this
end Go.Proofs.YtbdnamcjhndpjaaGreatDoor
