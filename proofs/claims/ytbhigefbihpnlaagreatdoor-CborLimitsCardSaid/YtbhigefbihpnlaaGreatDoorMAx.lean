/- Plain: the steps of content. -/
import Derived.Test.YtbhigefbihpnlaaGreatDoorMAw
set_option linter.unusedVariables false
set_option linter.unusedSimpArgs false
set_option linter.defProp false
set_option linter.constructorNameAsVariable false
namespace Go.Proofs.YtbhigefbihpnlaaGreatDoor
open Go.RowKit
theorem hd_no (s : List Nat) (i : Nat) : hdC s i ≠ .no := by
 unfold hdC
 intro h
 repeat' split at h
 all_goals cases h
def itemC (s : List Nat) (g : Nat) (h : CH) (n span d k : Nat) (p : Int × CSt) : CR CSt :=
 contentC s g h n span d (k + 1) { p.2 with nodes := p.2.nodes.set n { ndAt p.2.nodes n with items := (ndAt p.2.nodes n).items ++ [p.1] } }
section
variable {s : List Nat} {g : Nat} {h x y : CH} {n span d k i1 i2 : Nat} {st st1 : CSt}
theorem con_done (hc : ¬ (h.info = 31 ∨ k < h.arg)) : contentC s (g + 1) h n span d k st = .ok st := by
 unfold contentC; rw [if_neg hc]
theorem con_err {a c : Nat} (hc : h.info = 31 ∨ k < h.arg) (hx : hdC s st.i = .err a c) : contentC s (g + 1) h n span d k st = .err a c := by
 unfold contentC; rw [if_pos hc, hx]; rfl
theorem con_ends (hc : h.info = 31) (hx : hdC s st.i = .ok (x, i1)) (he : x.ends = true) : contentC s (g + 1) h n span d k st = .ok { st with i := i1 } := by
 unfold contentC; rw [if_pos (.inl hc), hx]
 show (if h.info = 31 ∧ x.ends = true then _ else _) = _
 rw [if_pos ⟨hc, he⟩]
theorem con_list (hc : h.info = 31 ∨ k < h.arg) (hx : hdC s st.i = .ok (x, i1)) (he : ¬ (h.info = 31 ∧ x.ends = true)) (h5 : h.major ≠ 5) :
  contentC s (g + 1) h n span d k st = (valueC s g x ⟨0, (span : Int), (k : Int), 0, 0, 0, 0, false, false⟩ d { st with i := i1 }).bind (itemC s g h n span d k) := by
 unfold contentC; rw [if_pos hc, hx]
 show (if h.info = 31 ∧ x.ends = true then _ else _) = _
 rw [if_neg he]
 show CR.bind (if h.major = 5 then _ else _) _ = _
 rw [if_neg h5]
 rfl
theorem con_key (hc : h.info = 31 ∨ k < h.arg) (hx : hdC s st.i = .ok (x, i1)) (he : ¬ (h.info = 31 ∧ x.ends = true)) (h5 : h.major = 5) :
  contentC s (g + 1) h n span d k st = (keyC s x n d { st with i := i1 }).bind fun st1 => (hdC s st1.i).bind fun q => (valueC s g q.1 ⟨0, (span : Int), (k : Int), 0, 0, (x.at_ : Int), (st1.i : Int), false, false⟩ d { st1 with i := q.2 }).bind (itemC s g h n span d k) := by
 unfold contentC; rw [if_pos hc, hx]
 show (if h.info = 31 ∧ x.ends = true then _ else _) = _
 rw [if_neg he]
 show CR.bind (if h.major = 5 then _ else _) _ = _
 rw [if_pos h5]
 cases keyC s x n d { st with i := i1 } with
 | no => rfl
 | err a c => rfl
 | ok st1 =>
  show ((hdC s st1.i).bind _).bind _ = (hdC s st1.i).bind _
  cases hdC s st1.i with
  | no => rfl
  | err a c => rfl
  | ok q => rfl
end
theorem CI.item {s : List Nat} {st : CSt} (h : CI s st) {n : Nat} (hn : n < st.nodes.length) (hl : (ndAt st.nodes n).items.length < st.i) (v : Int) : CI s { st with nodes := st.nodes.set n { ndAt st.nodes n with items := (ndAt st.nodes n).items ++ [v] } } :=
 h.put (h.by_ (ndAt st.nodes n) (ndAt_mem hn)) ⟨(h.kl (ndAt st.nodes n) (ndAt_mem hn)).1, by simp; omega⟩ (h.ks (ndAt st.nodes n) (ndAt_mem hn))
section
variable {s : List Nat} {w w1 w' : World} {B : Nat} {vn vs vh vm : Value} {ncs : List Value} {lab : Nat → Option Nat} {st : CSt} {F F' : Nat → Prop}
theorem CM.aside (h : CM w B s vn vs vh vm ncs lab st) {g : Nat} (hg : ¬ CF B vn vs lab g) (i : Nat) (u : Value) : CM (w.setCell ⟨g, i, none⟩ u) B s vn vs vh vm ncs lab st := by
 have hB : g ≠ B := fun e => hg (.inl e)
 have hrow : ∀ {t v xs}, BRow w B lab t v xs → BRow (w.setCell ⟨g, i, none⟩ u) B lab t v xs := fun hr => hr.far (p := ⟨g, i, none⟩) (fun e => hg (.inr (.inr (.inr (by rw [hr.2 g e]; rfl))))) u
 exact ⟨h.par.far (p := ⟨g, i, none⟩) (Ne.symm hB) u, own_far h.nod (p := ⟨g, i, none⟩) (fun e => hg (.inr (.inl e))) u, fun i nd hi => (h.nds i nd hi).map (fun _ _ _ _ hr => hrow hr), own_far h.spn (p := ⟨g, i, none⟩) (fun e => hg (.inr (.inr (.inl e)))) u, hrow h.shr, hrow h.mrk, fun x hx => by have := h.labB x hx; simpa [World.setCell] using this⟩
theorem PStep.aside (h : PStep w w1 F F') {g : Nat} (hg : w.heap.size ≤ g) (i : Nat) (u : Value) : PStep w (w1.setCell ⟨g, i, none⟩ u) F F' :=
 ⟨h.os, h.tape, h.output, by have := h.size; simpa [World.setCell] using this, fun k hk hF => (setCell_heap_ne _ _ _ (fun e => by have : k = g := e; omega)).trans (h.keep k hk hF), h.new⟩
theorem PW.aside (h : PW s w B vn vs vh vm ncs lab st) {g : Nat} (hg : ¬ CF B vn vs lab g) (hB : B ≤ g) (i : Nat) (u : Value) : PW s (w.setCell ⟨g, i, none⟩ u) B vn vs vh vm ncs lab st :=
 ⟨h.by_, h.len, h.ci, h.cm.aside hg i u, h.lib.step (Below.setCell (p := ⟨g, i, none⟩) (Below.refl _ _) hB u)⟩
theorem PW.drew (h : PW s w B vn vs vh vm ncs lab st) : PW s w.drew B vn vs vh vm ncs lab st := h.below (Below.drew (Below.refl _ _))
end
end Go.Proofs.YtbhigefbihpnlaaGreatDoor
