/- Plain laws for the reference's entry. -/
import Derived.Test.YtbdnamcjhndpjaaGreatDoorMSc
set_option linter.unusedVariables false
set_option linter.unusedSimpArgs false
set_option linter.defProp false
set_option linter.constructorNameAsVariable false
namespace Go.Proofs.YtbdnamcjhndpjaaGreatDoor
open Go.RowKit
def entS2 (k : RK) (st : RSt) (d : Nat) (t : JTok) : RSt := nodeS k st (d + 1) ⟨5, t.text, false, [], []⟩
def entS4 (k : RK) (st : RSt) (d : Nat) (t : JTok) (b : Bool) : RSt := { (if b = true then failS k (entS2 k st d t) 8 else entS2 k st d t) with i := st.i + 1 }
def entS (k : RK) (st : RSt) (d : Nat) (t : JTok) (b : Bool) : RSt := if (entS4 k st d t b).err = 0 then mustS k (entS4 k st d t b) [58] else entS4 k st d t b
theorem failS_no {k : RK} {st : RSt} {e : Nat} (h : st.err ≠ 0) : failS k st e = st := by unfold failS; rw [if_neg h]
theorem failS_yes {k : RK} {st : RSt} {e : Nat} (h : st.err = 0) : failS k st e = { st with err := e, at_ := offV k.s.length (leftA k st.i) } := by unfold failS; rw [if_pos h]
section
variable {k : RK} {N : List GNode} {S : List JSpan} {kd : Int} {s : JSpan} {x : RLoop} {st : RSt}
theorem ent_bad {g d j : Nat} (h : RAt k N S kd s x st) (ht : (tokAt k st.i).kind ≠ 2) (hd : d ≤ 32) :
  entV k.s.length g d (N.length + 1) (S.length + 1) S.length x j = .error (offV k.s.length x.l, 4) ∧ RFl k N S (d + 1) (offV k.s.length x.l, 4) (failS k st 4) := by
 constructor
 ·unfold entV rkeyV
  have hl := h.left
  unfold leftA at hl
  unfold tokAt at ht
  rw [hl] at ht
  cases hx : x.l with
  | nil => rfl
  | cons t r =>
   rw [hx] at ht
   simp only at ht ⊢
   rw [if_pos ht]
   rfl
 ·rw [failS_yes h.err, h.left]
  refine ⟨rfl, (by show (4 : Nat) ≠ 0; decide), rfl, ⟨_, h.nod⟩, ⟨_, h.spn⟩, ?_, ?_, ?_⟩
  ·have := h.nl; show st.nodes.length ≤ 5000; omega
  ·have := h.nl; have := h.sl; show st.spans.length ≤ 5000; omega
  ·have := h.i; show st.i ≤ _; omega
theorem ent_fl (h : RAt k N S kd s x st) {d : Nat} (hd : d ≤ 32) {nd : GNode} {q : PErr} (hq : q.2 ≠ 0) {st' : RSt} (he : st'.err = q.2) (ha : st'.at_ = q.1) (hn : st'.nodes = st.nodes ++ [nd]) (hs : st'.spans = st.spans) (hi : st'.i ≤ st.i + 2) : RFl k N S (d + 1) q st' := by
 refine ⟨he, hq, ha, ⟨⟨kd, [], false, x.keys, x.items⟩ :: (x.dn ++ [nd]), ?_⟩, ⟨_, hs.trans h.spn⟩, ?_, ?_, ?_⟩
 ·rw [hn, h.nod]; simp
 ·have := h.nl; rw [hn, List.length_append, List.length_singleton]; omega
 ·have := h.nl; have := h.sl; rw [hs]; omega
 ·have := h.i; omega
theorem leftA_cons {k : RK} {i : Nat} (h : (tokAt k i).kind ≠ 0) : leftA k i = tokAt k i :: leftA k (i + 1) ∧ i < k.ts.length := by
 unfold leftA
 unfold tokAt at h ⊢
 by_cases hl : i < k.ts.length
 ·rw [List.drop_eq_getElem_cons hl] at h ⊢
  exact ⟨rfl, hl⟩
 ·rw [List.drop_eq_nil_of_le (by omega)] at h
  exact absurd rfl h
theorem ent_law {g d j : Nat} (h : RAt k N S kd s x st) (ht : (tokAt k st.i).kind = 2) (hd : d ≤ 32) (hby : By (tokAt k st.i).text) :
  (∃ q, entV k.s.length g d (N.length + 1) (S.length + 1) S.length x j = .error q ∧ (entS k st d (tokAt k st.i) (decide ((tokAt k st.i).text ∈ x.ks))).err ≠ 0 ∧ RFl k N S (d + 1) q (entS k st d (tokAt k st.i) (decide ((tokAt k st.i).text ∈ x.ks)))) ∨
  (entS k st d (tokAt k st.i) (decide ((tokAt k st.i).text ∈ x.ks)) = { st with nodes := st.nodes ++ [⟨5, (tokAt k st.i).text, false, [], []⟩], i := st.i + 2 } ∧
   entV k.s.length g d (N.length + 1) (S.length + 1) S.length x j = (match rvalV k.s.length g (leftA k (st.i + 2)) (st.nodes.length + 1) st.spans.length ⟨0, (S.length : Int), (j : Int), 0, 0, ((tokAt k st.i).from_ : Int), ((tokAt k st.i).to_ : Int), false, false⟩ (d + 1) with
    | .error e => .error e
    | .ok p => .ok ⟨p.1, (x.dn ++ [⟨5, (tokAt k st.i).text, false, [], []⟩]) ++ p.2.1, x.ds ++ p.2.2, x.ks ++ [(tokAt k st.i).text], x.keys ++ [(st.nodes.length : Int)], x.items ++ [((st.nodes.length + 1 : Nat) : Int)]⟩) ∧
   st.i + 2 ≤ k.ts.length ∧ st.nodes.length < 4096) := by
 obtain ⟨hl, hlt⟩ := leftA_cons (k := k) (i := st.i) (by rw [ht]; decide)
 have hlen := h.lens
 have hxl : x.l = tokAt k st.i :: leftA k (st.i + 1) := by rw [← h.left]; exact hl
 have hoff : offV k.s.length (leftA k st.i) = (tokAt k st.i).from_ := by rw [hl]; rfl
 generalize tokAt k st.i = t at *
 unfold entV rkeyV
 rw [hxl]
 simp only
 rw [if_neg (by rw [ht]; decide)]
 have h2n : (entS2 k st d t).nodes = st.nodes ++ [⟨5, t.text, false, [], []⟩] := rfl
 by_cases h32 : 32 < d + 1
 ·rw [if_pos h32]
  left
  have e2 : entS2 k st d t = { st with err := 5, at_ := t.from_, nodes := st.nodes ++ [⟨5, t.text, false, [], []⟩] } := by
   unfold entS2 nodeS
   rw [if_pos h32, failS_yes h.err, hoff]
   split
   ·rw [failS_no (by show (5 : Nat) ≠ 0; decide)]
   ·rfl
  have e4 : entS4 k st d t (decide (t.text ∈ x.ks)) = { st with err := 5, at_ := t.from_, nodes := st.nodes ++ [⟨5, t.text, false, [], []⟩], i := st.i + 1 } := by
   unfold entS4
   rw [e2]
   split
   ·rw [failS_no (by show (5 : Nat) ≠ 0; decide)]
   ·rfl
  have e5 : entS k st d t (decide (t.text ∈ x.ks)) = { st with err := 5, at_ := t.from_, nodes := st.nodes ++ [⟨5, t.text, false, [], []⟩], i := st.i + 1 } := by
   unfold entS
   rw [e4, if_neg (by show ¬ (5 : Nat) = 0; decide)]
  rw [e5]
  exact ⟨_, rfl, (by show (5 : Nat) ≠ 0; decide), ent_fl h hd (by show (5 : Nat) ≠ 0; decide) rfl rfl rfl rfl (by show st.i + 1 ≤ _; omega)⟩
 rw [if_neg h32]
 have hn1 : N.length + 1 + x.dn.length = st.nodes.length := hlen.1.symm
 rw [hn1]
 by_cases h40 : 4096 ≤ st.nodes.length
 ·rw [if_pos h40]
  left
  have e2 : entS2 k st d t = { st with err := 7, at_ := t.from_, nodes := st.nodes ++ [⟨5, t.text, false, [], []⟩] } := by
   unfold entS2 nodeS
   rw [if_neg h32, if_pos h40, failS_yes h.err, hoff]
  have e4 : entS4 k st d t (decide (t.text ∈ x.ks)) = { st with err := 7, at_ := t.from_, nodes := st.nodes ++ [⟨5, t.text, false, [], []⟩], i := st.i + 1 } := by
   unfold entS4
   rw [e2]
   split
   ·rw [failS_no (by show (7 : Nat) ≠ 0; decide)]
   ·rfl
  have e5 : entS k st d t (decide (t.text ∈ x.ks)) = { st with err := 7, at_ := t.from_, nodes := st.nodes ++ [⟨5, t.text, false, [], []⟩], i := st.i + 1 } := by
   unfold entS
   rw [e4, if_neg (by show ¬ (7 : Nat) = 0; decide)]
  rw [e5]
  exact ⟨_, rfl, (by show (7 : Nat) ≠ 0; decide), ent_fl h hd (by show (7 : Nat) ≠ 0; decide) rfl rfl rfl rfl (by show st.i + 1 ≤ _; omega)⟩
 rw [if_neg h40]
 have e2 : entS2 k st d t = { st with nodes := st.nodes ++ [⟨5, t.text, false, [], []⟩] } := by
  unfold entS2 nodeS
  rw [if_neg h32, if_neg h40]
 by_cases hks : t.text ∈ x.ks
 ·rw [if_pos hks, decide_eq_true hks]
  left
  have e4 : entS4 k st d t true = { st with err := 8, at_ := t.from_, nodes := st.nodes ++ [⟨5, t.text, false, [], []⟩], i := st.i + 1 } := by
   unfold entS4
   rw [e2, if_pos rfl, failS_yes (by show st.err = 0; exact h.err)]
   simp only
   rw [hoff]
  have e5 : entS k st d t true = { st with err := 8, at_ := t.from_, nodes := st.nodes ++ [⟨5, t.text, false, [], []⟩], i := st.i + 1 } := by
   unfold entS
   rw [e4, if_neg (by show ¬ (8 : Nat) = 0; decide)]
  rw [e5]
  exact ⟨_, rfl, (by show (8 : Nat) ≠ 0; decide), ent_fl h hd (by show (8 : Nat) ≠ 0; decide) rfl rfl rfl rfl (by show st.i + 1 ≤ _; omega)⟩
 rw [if_neg hks, decide_eq_false hks]
 have e4 : entS4 k st d t false = { st with nodes := st.nodes ++ [⟨5, t.text, false, [], []⟩], i := st.i + 1 } := by
  unfold entS4
  rw [e2, if_neg (by decide)]
 by_cases h58 : isV (leftA k (st.i + 1)) [58] = true
 ·rw [if_pos h58]
  right
  have hi2 := isV_lt h58
  have e5 : entS k st d t false = { st with nodes := st.nodes ++ [⟨5, t.text, false, [], []⟩], i := st.i + 2 } := by
   unfold entS
   rw [e4, if_pos h.err]
   unfold mustS
   rw [if_pos h58]
  refine ⟨e5, ?_, hi2, by omega⟩
  have hd1 : (leftA k (st.i + 1)).drop 1 = leftA k (st.i + 2) := by unfold leftA; rw [List.drop_drop]
  have hn2 : N.length + 1 + (x.dn ++ [(⟨5, t.text, false, [], []⟩ : GNode)]).length = st.nodes.length + 1 := by rw [List.length_append, List.length_singleton]; omega
  simp only
  rw [hd1, hn2, ← hlen.2]
  rfl
 ·rw [if_neg h58]
  left
  have e5 : entS k st d t false = { st with err := 4, at_ := offV k.s.length (leftA k (st.i + 1)), nodes := st.nodes ++ [⟨5, t.text, false, [], []⟩], i := st.i + 2 } := by
   unfold entS
   rw [e4, if_pos h.err]
   unfold mustS
   rw [if_neg h58, failS_yes (by show st.err = 0; exact h.err)]
  rw [e5]
  exact ⟨_, rfl, (by show (4 : Nat) ≠ 0; decide), ent_fl h hd (by show (4 : Nat) ≠ 0; decide) rfl rfl rfl rfl (by show st.i + 2 ≤ _; omega)⟩
theorem RAt.key (h : RAt k N S kd s x st) {tx : List Nat} (hby : By tx) (hi : st.i + 2 ≤ k.ts.length) (hn : st.nodes.length < 4096) :
  (st.nodes ++ [(⟨5, tx, false, [], []⟩ : GNode)])[N.length]? = some ⟨kd, [], false, x.keys, x.items⟩ ∧
  RAt k N S kd s ⟨leftA k (st.i + 2), x.dn ++ [⟨5, tx, false, [], []⟩], x.ds, x.ks ++ [tx], x.keys ++ [(st.nodes.length : Int)], x.items⟩
   { st with nodes := (st.nodes ++ [(⟨5, tx, false, [], []⟩ : GNode)]).set N.length ⟨kd, [], false, x.keys ++ [(st.nodes.length : Int)], x.items⟩, i := st.i + 2 } := by
 have hlen := h.lens.1
 have hget : (st.nodes ++ [(⟨5, tx, false, [], []⟩ : GNode)])[N.length]? = some ⟨kd, [], false, x.keys, x.items⟩ := by
  rw [List.getElem?_append_left (by omega)]; exact h.getN
 have hkl := h.kl
 have hil := h.il
 have hsl := h.sl
 refine ⟨hget, h.err, ?_, h.spn, rfl, hi, ?_, ?_, ?_, ?_, ?_⟩
 ·show (st.nodes ++ [_]).set _ _ = _
  have e : st.nodes ++ [(⟨5, tx, false, [], []⟩ : GNode)] = N ++ ⟨kd, [], false, x.keys, x.items⟩ :: (x.dn ++ [⟨5, tx, false, [], []⟩]) := by rw [h.nod, List.append_assoc, List.cons_append]
  rw [e, mid_set]
 ·show ((st.nodes ++ [_]).set _ _).length ≤ 4096
  rw [List.length_set, List.length_append, List.length_singleton]; omega
 ·show st.spans.length ≤ ((st.nodes ++ [_]).set _ _).length
  rw [List.length_set, List.length_append, List.length_singleton]; omega
 ·show (x.keys ++ [_]).length ≤ st.i + 2
  rw [List.length_append, List.length_singleton]; omega
 ·show x.items.length ≤ st.i + 2
  omega
 ·have hk1 : x.keys.length = x.ks.length := h.ks.1
  refine ⟨?_, fun m y hy => ?_⟩
  ·show (x.keys ++ [_]).length = (x.ks ++ [_]).length
   rw [List.length_append, List.length_append, hk1]; rfl
  ·change (x.keys ++ [(st.nodes.length : Int)])[m]? = some y at hy
   show ∃ (a : Nat) (nd' : GNode), y = (a : Int) ∧ ((st.nodes ++ [(⟨5, tx, false, [], []⟩ : GNode)]).set N.length ⟨kd, [], false, x.keys ++ [(st.nodes.length : Int)], x.items⟩)[a]? = some nd' ∧ (x.ks ++ [tx])[m]? = some nd'.text ∧ By nd'.text
   by_cases hm : m < x.keys.length
   ·rw [List.getElem?_append_left hm] at hy
    obtain ⟨a, nd', e1, e2, e3, e4⟩ := h.ks.2 m y hy
    have ha := (List.getElem?_eq_some_iff.1 e2).1
    rw [List.getElem?_append_left (by omega)]
    by_cases e : N.length = a
    ·subst e
     rw [h.getN] at e2
     obtain rfl := Option.some.inj e2
     exact ⟨_, _, e1, List.getElem?_set_self (by rw [List.length_append]; omega), e3, e4⟩
    ·exact ⟨a, nd', e1, by rw [List.getElem?_set_ne e, List.getElem?_append_left ha]; exact e2, e3, e4⟩
   ·have hm2 := (List.getElem?_eq_some_iff.1 hy).1
    rw [List.length_append, List.length_singleton] at hm2
    obtain rfl : m = x.keys.length := by omega
    rw [List.getElem?_append_right (Nat.le_refl _), Nat.sub_self] at hy
    obtain rfl : (st.nodes.length : Int) = y := by simpa using hy
    refine ⟨st.nodes.length, ⟨5, tx, false, [], []⟩, rfl, ?_, ?_, hby⟩
    ·rw [List.getElem?_set_ne (by omega)]; exact mid_get _ _ _
    ·rw [hk1]; exact mid_get _ _ _
end
end Go.Proofs.YtbdnamcjhndpjaaGreatDoor
namespace Go.Proofs.YtbdnamcjhndpjaaGreatDoor
open Go.RowKit
section
variable {k : RK} {st : RSt} {d : Nat}
def valS (k : RK) (st : RSt) (s : JSpan) : JSpan := { s with from_ := ((tokAt k st.i).from_ : Int), whole := true }
def valS1 (k : RK) (st : RSt) (s : JSpan) : RSt := { st with spans := st.spans ++ [valS k st s] }
theorem tok_nil (hb : RB2 k) {i : Nat} (h : (tokAt k i).kind = 0) : leftA k i = [] := by
 unfold tokAt at h
 unfold leftA
 cases hd : k.ts.drop i with
 | nil => rfl
 | cons t r =>
  rw [hd] at h
  have ht : t ∈ k.ts := List.mem_of_mem_drop (i := i) (by rw [hd]; simp)
  have := hb.kd t ht
  simp only at h
  omega
theorem rv_bad (hb : RB2 k) (f : Nat) {n0 s0 : Nat} {s : JSpan} (h : (tokAt k st.i).kind = 0 ∨ ((tokAt k st.i).kind = 1 ∧ ¬ (tokAt k st.i).text = [91] ∧ ¬ (tokAt k st.i).text = [123])) :
  rvalV k.s.length (f + 1) (leftA k st.i) n0 s0 s d = .error (offV k.s.length (leftA k st.i), 4) := by
 rcases h with h | h
 ·rw [tok_nil hb h, rvalV]; rfl
 ·obtain ⟨hl, _⟩ := leftA_cons (k := k) (i := st.i) (by rw [h.1]; decide)
  rw [hl, rvalV]
  rw [if_pos h]
  rfl
theorem rv_deep (f : Nat) {n0 s0 : Nat} {s : JSpan} (h0 : (tokAt k st.i).kind ≠ 0) (h : ¬ ((tokAt k st.i).kind = 1 ∧ ¬ (tokAt k st.i).text = [91] ∧ ¬ (tokAt k st.i).text = [123])) (hd : 32 < d) :
  rvalV k.s.length (f + 1) (leftA k st.i) n0 s0 s d = .error (offV k.s.length (leftA k st.i), 5) := by
 obtain ⟨hl, _⟩ := leftA_cons (k := k) (i := st.i) h0
 rw [hl, rvalV]
 rw [if_neg h, if_pos hd]
 rfl
theorem rv_many (f : Nat) {n0 s0 : Nat} {s : JSpan} (h0 : (tokAt k st.i).kind ≠ 0) (h : ¬ ((tokAt k st.i).kind = 1 ∧ ¬ (tokAt k st.i).text = [91] ∧ ¬ (tokAt k st.i).text = [123])) (hd : ¬ 32 < d) (hn : 4096 ≤ n0) :
  rvalV k.s.length (f + 1) (leftA k st.i) n0 s0 s d = .error (offV k.s.length (leftA k st.i), 7) := by
 obtain ⟨hl, _⟩ := leftA_cons (k := k) (i := st.i) h0
 rw [hl, rvalV]
 rw [if_neg h, if_neg hd, if_pos hn]
 rfl
theorem rv_brL (f : Nat) {s : JSpan} (h1 : (tokAt k st.i).kind = 1) (h2 : (tokAt k st.i).text = [91]) (hd : ¬ 32 < d) (hn : ¬ 4096 ≤ st.nodes.length) :
  rvalV k.s.length (f + 1) (leftA k st.i) st.nodes.length st.spans.length s d = match ritemsV k.s.length f false st.spans.length d (st.nodes.length + 1) (st.spans.length + 1) ⟨leftA k (st.i + 1), [], [], [], [], []⟩ with
   | .error e => .error e
   | .ok x => .ok (x.l.drop 1, ⟨9, [], false, x.keys, x.items⟩ :: x.dn, { valS k st s with node := (st.nodes.length : Int), to_ := (x.l.head?.map (fun y => (y.to_ : Int))).getD 0 } :: x.ds) := by
 obtain ⟨hl, _⟩ := leftA_cons (k := k) (i := st.i) (by rw [h1]; decide)
 rw [hl, rvalV]
 rw [if_neg (by rw [h2]; simp), if_neg hd, if_neg hn, if_pos h1, h2]
 have e0 : decide (([91] : List Nat) = [123]) = false := by decide
 rw [e0]
 cases ritemsV k.s.length f false st.spans.length d (st.nodes.length + 1) (st.spans.length + 1) ⟨leftA k (st.i + 1), [], [], [], [], []⟩ with
 | error e => rfl
 | ok x => simp only [valS]; rfl
theorem rv_brM (f : Nat) {s : JSpan} (h1 : (tokAt k st.i).kind = 1) (h2 : (tokAt k st.i).text = [123]) (hd : ¬ 32 < d) (hn : ¬ 4096 ≤ st.nodes.length) :
  rvalV k.s.length (f + 1) (leftA k st.i) st.nodes.length st.spans.length s d = match ritemsV k.s.length f true st.spans.length d (st.nodes.length + 1) (st.spans.length + 1) ⟨leftA k (st.i + 1), [], [], [], [], []⟩ with
   | .error e => .error e
   | .ok x => .ok (x.l.drop 1, ⟨10, [], false, x.keys, x.items⟩ :: x.dn, { valS k st s with node := (st.nodes.length : Int), to_ := (x.l.head?.map (fun y => (y.to_ : Int))).getD 0 } :: x.ds) := by
 obtain ⟨hl, _⟩ := leftA_cons (k := k) (i := st.i) (by rw [h1]; decide)
 rw [hl, rvalV]
 rw [if_neg (by rw [h2]; simp), if_neg hd, if_neg hn, if_pos h1, h2]
 have e0 : decide (([123] : List Nat) = [123]) = true := by decide
 rw [e0]
 cases ritemsV k.s.length f true st.spans.length d (st.nodes.length + 1) (st.spans.length + 1) ⟨leftA k (st.i + 1), [], [], [], [], []⟩ with
 | error e => rfl
 | ok x => simp only [valS]; rfl
theorem rv_sc (f : Nat) {n0 s0 : Nat} {s : JSpan} (h0 : (tokAt k st.i).kind ≠ 0) (h1 : (tokAt k st.i).kind ≠ 1) (hd : ¬ 32 < d) (hn : ¬ 4096 ≤ n0) :
  rvalV k.s.length (f + 1) (leftA k st.i) n0 s0 s d = match scalarV (tokAt k st.i) with
   | none => .error (offV k.s.length (leftA k st.i), 12)
   | some nd => .ok (leftA k (st.i + 1), [nd], [{ valS k st s with node := (n0 : Int), to_ := ((tokAt k st.i).to_ : Int) }]) := by
 obtain ⟨hl, _⟩ := leftA_cons (k := k) (i := st.i) h0
 have ho : offV k.s.length (leftA k st.i) = (tokAt k st.i).from_ := by rw [hl]; rfl
 rw [ho, hl, rvalV]
 rw [if_neg (fun h => h1 h.1), if_neg hd, if_neg hn, if_neg h1]
 cases scalarV (tokAt k st.i) with
 | none => rfl
 | some nd => rfl
theorem val_fl {s : JSpan} (h : RIn k st d) {q : PErr} (hq : q.2 ≠ 0) {st' : RSt} (he : st'.err = q.2) (ha : st'.at_ = q.1) {D : List GNode} (hD : D.length ≤ 1) (hn : st'.nodes = st.nodes ++ D) (hs : st'.spans = st.spans ++ [valS k st s]) (hi : st'.i ≤ st.i + 2) : RFl k st.nodes st.spans d q st' := by
 have h1 := h.nod
 have h2 := h.spn
 have h3 := h.i
 have h4 := h.d
 refine ⟨he, hq, ha, ⟨D, hn⟩, ⟨_, hs⟩, ?_, ?_, ?_⟩
 ·rw [hn, List.length_append]; omega
 ·rw [hs, List.length_append, List.length_singleton]; omega
 ·omega
theorem node_deep (h : st.err = 0) (nd : GNode) (hd : 32 < d) : nodeS k st d nd = { st with err := 5, at_ := offV k.s.length (leftA k st.i), nodes := st.nodes ++ [nd] } := by
 unfold nodeS
 rw [if_pos hd, failS_yes h]
 split
 ·rw [failS_no (by show (5 : Nat) ≠ 0; decide)]
 ·rfl
theorem node_many (h : st.err = 0) (nd : GNode) (hd : ¬ 32 < d) (hn : 4096 ≤ st.nodes.length) : nodeS k st d nd = { st with err := 7, at_ := offV k.s.length (leftA k st.i), nodes := st.nodes ++ [nd] } := by
 unfold nodeS
 rw [if_neg hd, if_pos hn, failS_yes h]
theorem node_ok (nd : GNode) (hd : ¬ 32 < d) (hn : ¬ 4096 ≤ st.nodes.length) : nodeS k st d nd = { st with nodes := st.nodes ++ [nd] } := by
 unfold nodeS
 rw [if_neg hd, if_neg hn]
theorem val_at {s : JSpan} (h : RIn k st d) (hlt : st.i < k.ts.length) (hn : ¬ 4096 ≤ st.nodes.length) (kd : Int) :
  RAt k st.nodes st.spans kd (valS k st s) ⟨leftA k (st.i + 1), [], [], [], [], []⟩ { st with spans := st.spans ++ [valS k st s], nodes := st.nodes ++ [⟨kd, [], false, [], []⟩], i := st.i + 1 } := by
 have h1 := h.nod
 have h2 := h.spn
 refine ⟨h.err, rfl, rfl, rfl, hlt, ?_, ?_, Nat.zero_le _, Nat.zero_le _, ⟨rfl, fun j x hx => by simp at hx⟩⟩
 ·show (st.nodes ++ [_]).length ≤ 4096
  rw [List.length_append, List.length_singleton]; omega
 ·show (st.spans ++ [_]).length ≤ (st.nodes ++ [_]).length
  rw [List.length_append, List.length_singleton, List.length_append, List.length_singleton]; omega
theorem rv_node_bad (f : Nat) {s : JSpan} (he : st.err = 0) (h0 : (tokAt k st.i).kind ≠ 0) (h : ¬ ((tokAt k st.i).kind = 1 ∧ ¬ (tokAt k st.i).text = [91] ∧ ¬ (tokAt k st.i).text = [123])) (hbad : 32 < d ∨ 4096 ≤ st.nodes.length) :
  ∃ q, q ≠ 0 ∧ rvalV k.s.length (f + 1) (leftA k st.i) st.nodes.length st.spans.length s d = .error (offV k.s.length (leftA k st.i), q) ∧ ∀ nd, nodeS k (valS1 k st s) d nd = { valS1 k st s with err := q, at_ := offV k.s.length (leftA k st.i), nodes := st.nodes ++ [nd] } := by
 by_cases hd : 32 < d
 ·exact ⟨5, by decide, rv_deep f h0 h hd, fun nd => node_deep (st := valS1 k st s) he nd hd⟩
 ·have hn : 4096 ≤ st.nodes.length := by rcases hbad with e | e; exact absurd e hd; exact e
  exact ⟨7, by decide, rv_many f h0 h hd hn, fun nd => node_many (st := valS1 k st s) he nd hd hn⟩
theorem rv_sc_bad (f : Nat) {s : JSpan} (he : st.err = 0) (h0 : (tokAt k st.i).kind ≠ 0) (h1 : (tokAt k st.i).kind ≠ 1) (hs : scalarV (tokAt k st.i) = none) (nd : GNode) :
  ∃ q, q ≠ 0 ∧ rvalV k.s.length (f + 1) (leftA k st.i) st.nodes.length st.spans.length s d = .error (offV k.s.length (leftA k st.i), q) ∧ failS k (nodeS k (valS1 k st s) d nd) 12 = { valS1 k st s with err := q, at_ := offV k.s.length (leftA k st.i), nodes := st.nodes ++ [nd] } := by
 by_cases hbad : 32 < d ∨ 4096 ≤ st.nodes.length
 ·obtain ⟨q, h2, h3, h4⟩ := rv_node_bad f (s := s) he h0 (fun h => h1 h.1) hbad
  exact ⟨q, h2, h3, by rw [h4, failS_no (by exact h2)]⟩
 ·have hd : ¬ 32 < d := fun h => hbad (.inl h)
  have hn : ¬ 4096 ≤ st.nodes.length := fun h => hbad (.inr h)
  refine ⟨12, by decide, by rw [rv_sc f h0 h1 hd hn, hs], ?_⟩
  rw [node_ok (st := valS1 k st s) nd hd hn, failS_yes (by exact he)]
  rfl
theorem rv_len (en : Nat) (f : Nat) :
  (∀ l n0 s0 s d p, rvalV en f l n0 s0 s d = .ok p → p.1.length < l.length) ∧ (∀ obj k d n1 s1 x x', ritemsV en f obj k d n1 s1 x = .ok x' → x'.l.length ≤ x.l.length) := by
 induction f with
 | zero => exact ⟨(fun l n0 s0 s d p h => by rw [rvalV] at h; cases h), (fun obj k d n1 s1 x x' h => by rw [ritemsV] at h; cases h)⟩
 | succ f ih =>
  constructor
  ·intro l n0 s0 s d p h
   cases l with
   | nil => rw [rvalV] at h; cases h
   | cons t r =>
    rw [rvalV] at h
    split at h
    ·cases h
    ·split at h
     ·cases h
     ·split at h
      ·cases h
      ·split at h
       ·cases hx : ritemsV en f (decide (t.text = [123])) s0 d (n0 + 1) (s0 + 1) ⟨r, [], [], [], [], []⟩ with
        | error e => rw [hx] at h; cases h
        | ok x =>
         rw [hx] at h
         injection h with h
         subst h
         have := ih.2 _ _ _ _ _ _ _ hx
         simp only at this
         show (x.l.drop 1).length < (t :: r).length
         rw [List.length_drop, List.length_cons]; omega
       ·split at h
        ·cases h
        ·injection h with h
         subst h
         show r.length < (t :: r).length
         rw [List.length_cons]; omega
  ·intro obj k d n1 s1 x x' h
   rw [ritemsV] at h
   by_cases hcl : isV x.l (if obj = true then [125] else [93]) = true
   ·rw [if_pos hcl] at h; injection h with h; subst h; exact Nat.le_refl _
   ·rw [if_neg hcl] at h
    cases hc : rcommaV en x with
    | error e => rw [hc] at h; cases h
    | ok y =>
     rw [hc] at h
     simp only at h
     have hy : y.l.length ≤ x.l.length := by
      unfold rcommaV at hc
      split at hc
      ·injection hc with hc; subst hc; exact Nat.le_refl _
      ·split at hc
       ·injection hc with hc; subst hc; show (x.l.drop 1).length ≤ _; rw [List.length_drop]; omega
       ·cases hc
     cases hz : (if obj = true then rkeyV en d n1 y ⟨0, k, x.items.length, 0, 0, 0, 0, false, false⟩ else .ok (y, ⟨0, k, x.items.length, 0, 0, 0, 0, false, false⟩)) with
     | error e => rw [hz] at h; cases h
     | ok z =>
      rw [hz] at h
      obtain ⟨z, s⟩ := z
      simp only at h
      have hz2 : z.l.length ≤ y.l.length := by
       cases obj with
       | false => rw [if_neg (by decide)] at hz; injection hz with hz; injection hz with h1 h2; subst h1; exact Nat.le_refl _
       | true =>
        rw [if_pos rfl] at hz
        unfold rkeyV at hz
        split at hz
        ·cases hz
        ·rename_i t r hyl
         (repeat' split at hz) <;> first | (cases hz; done) | skip
         injection hz with hz
         injection hz with h1 h2
         subst h1
         show (r.drop 1).length ≤ _
         rw [hyl, List.length_drop, List.length_cons]; omega
      cases hv : rvalV en f z.l (n1 + z.dn.length) (s1 + z.ds.length) s (d + 1) with
      | error e => rw [hv] at h; cases h
      | ok p =>
       rw [hv] at h
       obtain ⟨l, dn, ds⟩ := p
       have h3 := ih.1 _ _ _ _ _ _ hv
       have h4 := ih.2 _ _ _ _ _ _ _ h
       simp only at h3 h4
       omega
theorem its_lt {f : Nat} {obj : Bool} {k0 n1 s1 : Nat} {x : RLoop} {st2 : RSt} {i0 : Nat} (h : ritemsV k.s.length f obj k0 d n1 s1 ⟨leftA k i0, [], [], [], [], []⟩ = .ok x) (hl : leftA k st2.i = x.l) (hi : st2.i < k.ts.length) : i0 ≤ st2.i := by
 have h1 := (rv_len k.s.length f).2 _ _ _ _ _ _ _ h
 simp only at h1
 rw [← hl] at h1
 unfold leftA at h1
 rw [List.length_drop, List.length_drop] at h1
 omega
theorem spansC_mid (S : List JSpan) (x : JSpan) (D : List JSpan) : spansC (S ++ x :: D) = spansC S ++ (spanC x ++ spansC D) := by simp [spansC]
theorem spansC_len (S : List JSpan) : (spansC S).length = S.length * 9 := by
 induction S with
 | nil => rfl
 | cons a S ih => rw [show a :: S = [a] ++ S from rfl]; simp [spansC] at ih ⊢; rw [ih]; simp [spanC]; omega
theorem spansC_put (S : List JSpan) (x y : JSpan) (D : List JSpan) (j : Nat) (u : Value) (hj : j < 9) (h : (spanC x).set j u = spanC y) : (spansC (S ++ x :: D)).set (S.length * 9 + j) u = spansC (S ++ y :: D) := by
 rw [spansC_mid, spansC_mid, ← spansC_len S, List.set_append_right _ _ (by omega), Nat.add_sub_cancel_left, List.set_append_left _ _ (by show j < 9; exact hj), h]
theorem own_len {w : World} {b : Nat} {e : TypeId} {m : Nat} {v : Value} {n n' : Nat} {xs : List Value} (h : n = n') (ho : w.ownsRow b e m v n xs) : w.ownsRow b e m v n' xs := h ▸ ho
theorem val_box (w : World) (s : JSpan) : ∃ W, W = w.alloc (.cells #[.int .i64 s.node, .int .i64 s.parent, .int .i64 s.entry, .int .i64 s.from_, .int .i64 s.to_, .int .i64 s.kf, .int .i64 s.kt, .bool s.alias_, .bool s.whole] 38) ∧ Hid (Arr W w.heap.size 38 (spanC s)) ∧ Below w.heap.size w W ∧ w.heap.size < W.heap.size :=
 ⟨_, rfl, Lib.hid (Arr.new w 38 (spanC s)), (Below.refl _ _).alloc (Nat.le_refl _) _, (Arr.new w 38 (spanC s)).lt⟩
theorem val_two {w w6 : World} {X : Nat} {s : JSpan} {tc : List Value} {fr : Int} (P6 : Arr w6 w.heap.size 38 (spanC s)) (X6 : Arr w6 X 62 tc) (hX : X ≠ w.heap.size) (hb : Below w.heap.size w w6) :
  ∃ w7, w7 = (w6.setCell ⟨w.heap.size, 3, none⟩ (.int .i64 fr)).setCell ⟨w.heap.size, 8, none⟩ (.bool true) ∧ Arr w7 w.heap.size 38 (((spanC s).set 3 (.int .i64 fr)).set 8 (.bool true)) ∧ Arr w7 X 62 tc ∧ Below w.heap.size w w7 :=
 ⟨_, rfl, (P6.store 3 (.int .i64 fr)).store 8 (.bool true), (X6.far (p := ⟨w.heap.size, 3, none⟩) hX _).far (p := ⟨w.heap.size, 8, none⟩) hX _, (hb.setCell (Nat.le_refl _) _).setCell (Nat.le_refl _) _⟩
theorem leftA_head {i : Nat} (h : i < k.ts.length) : k.ts[i]? = some (tokAt k i) ∧ (leftA k i).head? = some (tokAt k i) := by
 unfold tokAt leftA
 rw [List.drop_eq_getElem_cons h, List.getElem?_eq_getElem h]
 exact ⟨rfl, rfl⟩
end
end Go.Proofs.YtbdnamcjhndpjaaGreatDoor
