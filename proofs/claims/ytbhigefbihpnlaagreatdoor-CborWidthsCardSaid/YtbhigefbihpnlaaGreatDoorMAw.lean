/- Plain: the steps of value; stores into a span. -/
import Derived.Test.YtbhigefbihpnlaaGreatDoorMAt
set_option linter.unusedVariables false
set_option linter.unusedSimpArgs false
set_option linter.defProp false
set_option linter.constructorNameAsVariable false
namespace Go.Proofs.YtbhigefbihpnlaaGreatDoor
open Go.RowKit
def pushC (st : CSt) (a : Nat) (sp : JSpan) : CSt := { st with spans := st.spans ++ [{ sp with from_ := (a : Int), whole := true }] }
def shareC (st : CSt) (a : Nat) : CSt := { st with shared := st.shared ++ [-1], marks := st.marks ++ [(a : Int)] }
def endS (me : Nat) (v : Int) (st : CSt) : CSt := { st with spans := st.spans.modify me fun x => { x with node := v, to_ := (st.i : Int) } }
def aliasS (me : Nat) (st : CSt) : CSt := { st with spans := st.spans.modify me fun x => { x with alias_ := true } }
def finC (me : Nat) (p : Int × CSt) : CR (Int × CSt) := .ok (p.1, endS me p.1 p.2)
section
variable {s : List Nat} {f : Nat} {h h2 : CH} {sp : JSpan} {d i2 : Nat} {st : CSt}
theorem val_def (h28 : h.tag 28 = false) (h29 : h.tag 29 = false) : valueC s (f + 1) h sp d st = (defineC s f h h.at_ st.spans.length d (-1) (pushC st h.at_ sp)).bind (finC st.spans.length) := by
 unfold valueC
 simp only [h28, Bool.false_eq_true, if_false, Bool.false_and]
 show (if h.tag 29 = true then _ else defineC s f h h.at_ st.spans.length d (-1) (pushC st h.at_ sp) : CR (Int × CSt)).bind _ = _
 rw [if_neg (by rw [h29]; decide)]
 rfl
theorem val_alias (h28 : h.tag 28 = false) (h29 : h.tag 29 = true) : valueC s (f + 1) h sp d st = (aliasC s h (pushC st h.at_ sp)).bind fun q => finC st.spans.length (q.1, aliasS st.spans.length q.2) := by
 unfold valueC
 simp only [h28, Bool.false_eq_true, if_false, Bool.false_and]
 show (if h.tag 29 = true then _ else _ : CR (Int × CSt)).bind _ = _
 rw [if_pos h29]
 show ((aliasC s h (pushC st h.at_ sp)).bind _).bind _ = (aliasC s h (pushC st h.at_ sp)).bind _
 cases aliasC s h (pushC st h.at_ sp) <;> rfl
theorem val_herr {a c : Nat} (h28 : h.tag 28 = true) (hx : hdC s st.i = .err a c) : valueC s (f + 1) h sp d st = .err a c := by
 unfold valueC
 simp only [h28, if_true, hx]
 rfl
theorem val_twice (h28 : h.tag 28 = true) (hx : hdC s st.i = .ok (h2, i2)) (ht : (h2.tag 28 || h2.tag 29) = true) : valueC s (f + 1) h sp d st = .err h2.at_ 10 := by
 unfold valueC
 simp only [h28, if_true, hx, Bool.true_and]
 show (if (h2.tag 28 || h2.tag 29) = true then _ else _) = _
 rw [if_pos ht]
theorem val_share (h28 : h.tag 28 = true) (hx : hdC s st.i = .ok (h2, i2)) (t28 : h2.tag 28 = false) (t29 : h2.tag 29 = false) : valueC s (f + 1) h sp d st = (defineC s f h2 h.at_ st.spans.length d (st.shared.length : Int) { shareC (pushC st h.at_ sp) h.at_ with i := i2 }).bind (finC st.spans.length) := by
 unfold valueC
 simp only [h28, if_true, hx, Bool.true_and]
 show (if (h2.tag 28 || h2.tag 29) = true then _ else _) = _
 rw [t28, t29]
 rfl
theorem CI.pushed {s : List Nat} {st : CSt} (h : CI s st) (hl : st.spans.length < st.i) (a : Nat) (sp : JSpan) : CI s (pushC st a sp) := h.push hl _
theorem CI.shared {s : List Nat} {st : CSt} (h : CI s st) (h1 : st.shared.length < st.spans.length) (h2 : st.marks.length < st.spans.length) (a : Nat) : CI s (shareC st a) :=
 ⟨h.i, h.nod, h.spn, by unfold shareC; simp; omega, by unfold shareC; simp; omega, h.by_, h.kl, h.ks⟩
end
theorem spans_mod (l : List JSpan) (k r : Nat) (u : Value) (f : JSpan → JSpan) (hr : r < 9) (hf : ∀ x, (spanC x).set r u = spanC (f x)) (hk : k < l.length) : (spansC l).set (k * 9 + r) u = spansC (l.modify k f) := by
 induction l generalizing k with
 | nil => simp at hk
 | cons s t ih =>
  unfold spansC at ih ⊢
  cases k with
  | zero => rw [List.modify_zero_cons, List.flatMap_cons, List.flatMap_cons, List.set_append_left _ _ (by simp [spanC]; omega), ← hf, Nat.zero_mul, Nat.zero_add]
  | succ k =>
   rw [List.modify_succ_cons, List.flatMap_cons, List.flatMap_cons, List.set_append_right _ _ (by simp [spanC]; omega)]
   have := ih k (by simpa using hk)
   rw [← this]
   congr 2
   simp [spanC]; omega
theorem spansC_length (l : List JSpan) : (spansC l).length = l.length * 9 := by
 unfold spansC
 induction l with
 | nil => rfl
 | cons a t ih => rw [List.flatMap_cons, List.length_append, ih, List.length_cons]; simp [spanC]; omega
theorem spans_at {l : List JSpan} {k : Nat} (hk : k < l.length) (r : Nat) (hr : r < 9) : ∃ u, (spansC l)[k * 9 + r]? = some u :=
 ⟨_, List.getElem?_eq_getElem (by rw [spansC_length]; omega)⟩
section
variable {s : List Nat} {w : World} {B : Nat} {vn vh vm : Value} {ncs : List Value} {lab : Nat → Option Nat} {st : CSt} {g c : Nat}
theorem CM.alias1 (h : CM w B s vn (.slice (some ⟨g, 0, none⟩) st.spans.length c) vh vm ncs lab st) {me : Nat} (hm : me < st.spans.length) :
  CM (w.setCell ⟨g, me * 9 + 7, none⟩ (.bool true)) B s vn (.slice (some ⟨g, 0, none⟩) st.spans.length c) vh vm ncs lab (aliasS me st) ∧ PStep w (w.setCell ⟨g, me * 9 + 7, none⟩ (.bool true)) (CF B vn (.slice (some ⟨g, 0, none⟩) st.spans.length c) lab) (CF B vn (.slice (some ⟨g, 0, none⟩) st.spans.length c) lab) :=
 h.spanSet rfl (me * 9 + 7) (.bool true) _ (by simp) (spans_mod _ _ 7 _ (fun x => { x with alias_ := true }) (by decide) (fun x => rfl) hm)
theorem modify_two {α : Type} (f g : α → α) (l : List α) (n : Nat) : (l.modify n f).modify n g = l.modify n fun x => g (f x) := by
 induction l generalizing n with
 | nil => simp
 | cons a l ih => cases n with
  | zero => rw [List.modify_zero_cons, List.modify_zero_cons, List.modify_zero_cons]
  | succ n => rw [List.modify_succ_cons, List.modify_succ_cons, List.modify_succ_cons, ih]
theorem mod_two (l : List JSpan) (me : Nat) (v t : Int) : (l.modify me fun x => { x with node := v }).modify me (fun x => { x with to_ := t }) = l.modify me fun x => { x with node := v, to_ := t } := by
 rw [modify_two]
theorem CM.fin1 (h : CM w B s vn (.slice (some ⟨g, 0, none⟩) st.spans.length c) vh vm ncs lab st) {me : Nat} (hm : me < st.spans.length) (v : Int) :
  CM ((w.setCell ⟨g, me * 9, none⟩ (.int .i64 v)).setCell ⟨g, me * 9 + 4, none⟩ (.int .i64 (st.i : Int))) B s vn (.slice (some ⟨g, 0, none⟩) st.spans.length c) vh vm ncs lab (endS me v st) ∧ PStep w ((w.setCell ⟨g, me * 9, none⟩ (.int .i64 v)).setCell ⟨g, me * 9 + 4, none⟩ (.int .i64 (st.i : Int))) (CF B vn (.slice (some ⟨g, 0, none⟩) st.spans.length c) lab) (CF B vn (.slice (some ⟨g, 0, none⟩) st.spans.length c) lab) := by
 have h1 := h.spanSet rfl (me * 9 + 0) (.int .i64 v) (st.spans.modify me fun x => { x with node := v }) (by simp) (spans_mod _ _ 0 _ (fun x => { x with node := v }) (by decide) (fun x => rfl) hm)
 have h2 := h1.1.spanSet (gs := g) (cap := c) (by show _ = Value.slice _ (st.spans.modify me _).length _; rw [List.length_modify]) (me * 9 + 4) (.int .i64 (st.i : Int)) (st.spans.modify me fun x => { x with node := v, to_ := (st.i : Int) }) (by simp) (by
  rw [← mod_two]
  exact spans_mod _ _ 4 _ (fun x => { x with to_ := (st.i : Int) }) (by decide) (fun x => rfl) (by simpa using hm))
 exact ⟨h2.1, h1.2.trans h2.2⟩
theorem mod_two' (l : List JSpan) (me : Nat) (v t : Int) : (l.modify me fun x => { x with to_ := t }).modify me (fun x => { x with node := v }) = l.modify me fun x => { x with node := v, to_ := t } := by
 rw [modify_two]
theorem CM.fin2 (h : CM w B s vn (.slice (some ⟨g, 0, none⟩) st.spans.length c) vh vm ncs lab st) {me : Nat} (hm : me < st.spans.length) (v : Int) :
  CM ((w.setCell ⟨g, me * 9 + 4, none⟩ (.int .i64 (st.i : Int))).setCell ⟨g, me * 9, none⟩ (.int .i64 v)) B s vn (.slice (some ⟨g, 0, none⟩) st.spans.length c) vh vm ncs lab (endS me v st) ∧ PStep w ((w.setCell ⟨g, me * 9 + 4, none⟩ (.int .i64 (st.i : Int))).setCell ⟨g, me * 9, none⟩ (.int .i64 v)) (CF B vn (.slice (some ⟨g, 0, none⟩) st.spans.length c) lab) (CF B vn (.slice (some ⟨g, 0, none⟩) st.spans.length c) lab) := by
 have h1 := h.spanSet rfl (me * 9 + 4) (.int .i64 (st.i : Int)) (st.spans.modify me fun x => { x with to_ := (st.i : Int) }) (by simp) (spans_mod _ _ 4 _ (fun x => { x with to_ := (st.i : Int) }) (by decide) (fun x => rfl) hm)
 have h2 := h1.1.spanSet (gs := g) (cap := c) (by show _ = Value.slice _ (st.spans.modify me _).length _; rw [List.length_modify]) (me * 9 + 0) (.int .i64 v) (st.spans.modify me fun x => { x with node := v, to_ := (st.i : Int) }) (by simp) (by
  rw [← mod_two']
  exact spans_mod _ _ 0 _ (fun x => { x with node := v }) (by decide) (fun x => rfl) (by simpa using hm))
 exact ⟨h2.1, h1.2.trans h2.2⟩
end
end Go.Proofs.YtbhigefbihpnlaaGreatDoor
