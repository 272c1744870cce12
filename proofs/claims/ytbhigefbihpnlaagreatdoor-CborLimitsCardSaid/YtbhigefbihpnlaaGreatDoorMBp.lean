/- Plain: graph.Check's premises of a concrete graph, computed. -/
import Derived.Test.YtbhigefbihpnlaaGreatDoorMBo
import Derived.Test.YtbhigefbihpnlaaGreatDoorMAs
import Derived.Test.YtbhigefbihpnlaaGreatDoorMAl
import Derived.Test.YtbhigefbihpnlaaGreatDoorMAi
import Derived.Test.YtbhigefbihpnlaaGreatDoorMBe
import Derived.Test.YtbhigefbihpnlaaGreatDoorMAo
import Derived.Deep.CutRange
import Derived.Recover
import Derived.Defers
import Derived.StillTailTactics
set_option linter.unusedVariables false
set_option linter.unusedSimpArgs false
set_option linter.defProp false
set_option linter.constructorNameAsVariable false
namespace Go.Proofs.YtbhigefbihpnlaaGreatDoor
open Go.RowKit
theorem by_dec {s : List Nat} (h : s.all (fun c => decide (c < 256)) = true) : By s := fun c hc => of_decide_eq_true (List.all_eq_true.1 h c hc)
theorem all_of {n : Nat} {p : Nat → Bool} (h : (List.range n).all p = true) {k : Nat} (hk : k < n) : p k = true := List.all_eq_true.1 h k (List.mem_range.2 hk)
def ndB (N : List GNode) (nd : GNode) : Bool :=
 nd.text.all (fun c => decide (c < 256)) && (decide (nd.keys.length ≤ 65536 ∧ nd.items.length ≤ 65536 ∧ nd.text.length ≤ 100000 ∧ (nd.kind = 0 ∨ nd.kind = 1 ∨ nd.kind = 2 ∨ nd.kind = 3 ∨ nd.kind = 5 ∨ nd.kind = 9 ∨ nd.kind = 10)) && nd.keys.all fun x => decide ((ndAt N x.toNat).keys = [] ∧ (ndAt N x.toNat).items = []))
def endB (N : List GNode) : Bool := match compV N 0 with
 | some s => decide (s.inn.length = N.length ∧ s.sizes.length ≤ 65536) && ((List.range N.length).all (fun i => decide (0 ≤ s.inn.getD i 0 ∧ s.inn.getD i 0 < (s.sizes.length : Int))) && s.sizes.all fun x => decide (0 ≤ x ∧ x ≤ 65536))
 | none => false
theorem endB_ok {N : List GNode} (h : endB N = true) : ∃ s, compV N 0 = some s ∧ EndT N s := by
 unfold endB at h
 split at h
 ·rename_i s e
  rw [Bool.and_eq_true, Bool.and_eq_true] at h
  obtain ⟨h1, h2, h3⟩ := h
  have h1 := of_decide_eq_true h1
  refine ⟨s, e, h1.1, fun i hi => of_decide_eq_true (all_of h2 hi), fun c => ?_, h1.2⟩
  rw [List.getD_eq_getElem?_getD]
  cases hc : s.sizes[c]? with
  | none => simp
  | some x => exact of_decide_eq_true (List.all_eq_true.1 h3 x (List.mem_of_getElem? hc))
 ·cases h
theorem ck_ok {N : List GNode} (h0 : decide (0 < N.length ∧ N.length ≤ 4096) = true) (h1 : (List.range N.length).all (fun i => ndB N (ndAt N i)) = true) (h2 : endB N = true) : ChkOK N 0 := by
 have h0 := of_decide_eq_true h0
 have hn : ∀ i, i < N.length → By (ndAt N i).text ∧ ((ndAt N i).keys.length ≤ 65536 ∧ (ndAt N i).items.length ≤ 65536 ∧ (ndAt N i).text.length ≤ 100000 ∧ ((ndAt N i).kind = 0 ∨ (ndAt N i).kind = 1 ∨ (ndAt N i).kind = 2 ∨ (ndAt N i).kind = 3 ∨ (ndAt N i).kind = 5 ∨ (ndAt N i).kind = 9 ∨ (ndAt N i).kind = 10)) ∧ ∀ x ∈ (ndAt N i).keys, Leaf (ndAt N x.toNat) := fun i hi => by
  have h := all_of h1 hi
  unfold ndB at h
  rw [Bool.and_eq_true, Bool.and_eq_true] at h
  exact ⟨by_dec h.1, of_decide_eq_true h.2.1, fun x hx => (show (ndAt N x.toNat).keys = [] ∧ (ndAt N x.toNat).items = [] from of_decide_eq_true (List.all_eq_true.1 h.2.2 x hx))⟩
 exact {
  n0 := h0.1
  n1 := h0.2
  nl := fun i hi => ⟨(hn i hi).2.1.1, (hn i hi).2.1.2.1⟩
  tw := {
   leaf := fun i hi => (hn i hi).2.2
   by_ := fun i hi => (hn i hi).1
   wf := fun i hi => by rcases (hn i hi).2.1.2.2.2 with e | e | e | e | e | e | e <;> rw [e] <;> decide
   len := fun i hi => by have := (hn i hi).2.1.2.2.1; rw [size_mks]; unfold maxLen; omega }
  sc := fun i hi => by
   have hk := (hn i hi).2.1.2.2.2
   have ht := (hn i hi).1
   have hl := (hn i hi).2.1.2.2.1
   generalize ndAt N i = nd at *
   refine ⟨by omega, fun h9 h10 => ?_⟩
   unfold scV
   rcases hk with e | e | e | e | e | e | e
   ·rw [e]; exact scal_null _
   ·rw [e]; exact scal_bool _ ht
   ·rw [e]; exact scal_int _ ht
   ·rw [e]; exact scal_dec _ ht (by omega)
   ·rw [e]; exact scal_text _ (by omega)
   ·exact absurd e h9
   ·exact absurd e h10
  dp := fun _ _ => endB_ok h2 }
end Go.Proofs.YtbhigefbihpnlaaGreatDoor
namespace Go.Proofs.YtbhigefbihpnlaaGreatDoor
open Go.RowKit
def wholeC (marks : List Int) (l : List JSpan) : List JSpan := l.map fun x => { x with whole := !marks.any fun a => decide (x.from_ ≤ a) && decide (a < x.to_) }
def sourceC (f : Nat) (s : List Nat) : CR (List GNode × List JSpan) :=
 (hdC s 0).bind fun (h, i) => (valueC s f h ⟨0, -1, 0, 0, 0, 0, 0, false, false⟩ 0 ⟨i, [], [], [], []⟩).bind fun (_, st) =>
  if st.i < s.length then .err st.i 4 else .ok (st.nodes, wholeC st.marks st.spans)
def errB {α : Type} (r : CR α) (a e : Nat) : Bool := match r with | .err x y => x == a && y == e | _ => false
def okB {α : Type} (r : CR α) (p : α → Bool) : Bool := match r with | .ok x => p x | _ => false
theorem errB_eq {α : Type} {r : CR α} {a e : Nat} (h : errB r a e = true) : r = .err a e := by
 unfold errB at h
 split at h
 ·simp at h; rw [h.1, h.2]
 ·cases h
def aw1 : List Nat := [0xa1, 0x61, 0x61, 0x82, 0x01, 0xf6]
def aw2 : List Nat := [0xd8, 0x1c, 0x81, 0xd8, 0x1d, 0x00]
def aw3 : List Nat := [0x81, 0xff]
def aw4 : List Nat := [0xd8, 0x1d, 0x00]
theorem aw1_ok : sourceC 40 aw1 = .ok ([⟨10, [], false, [1], [2]⟩, ⟨5, [97], false, [], []⟩, ⟨9, [], false, [], [3, 4]⟩, ⟨2, [49], false, [], []⟩, ⟨0, [], false, [], []⟩], [⟨0, -1, 0, 0, 6, 0, 0, false, true⟩, ⟨2, 0, 0, 3, 6, 1, 3, false, true⟩, ⟨3, 1, 0, 4, 5, 0, 0, false, true⟩, ⟨4, 1, 1, 5, 6, 0, 0, false, true⟩]) := by kernel_rfl
theorem aw2_ok : sourceC 40 aw2 = .ok ([⟨9, [], false, [], [0]⟩], [⟨0, -1, 0, 0, 6, 0, 0, false, false⟩, ⟨0, 0, 0, 3, 6, 0, 0, true, true⟩]) := by kernel_rfl
theorem aw3_err : sourceC 40 aw3 = .err 1 4 := by kernel_rfl
theorem aw4_err : sourceC 40 aw4 = .err 0 24 := by kernel_rfl
def srcA (n : Nat) : List Nat := List.replicate (n - 1) 129 ++ [128]
def nestA (n : Nat) : List GNode := (List.range (n - 1)).map (fun i => ⟨9, [], false, [], [((i + 1 : Nat) : Int)]⟩) ++ [⟨9, [], false, [], []⟩]
theorem a_err : (List.range 10).all (fun k => !decide (33 < 28 + k) || errB (sourceC 200 (srcA (28 + k))) 33 5) = true := by kernel_rfl
def eqN (a b : GNode) : Bool := a.kind == b.kind && a.text == b.text && a.ord == b.ord && a.keys == b.keys && a.items == b.items
def eqNs : List GNode → List GNode → Bool
 | [], [] => true
 | a :: l, b :: r => eqN a b && eqNs l r
 | _, _ => false
theorem a_ok : (List.range 10).all (fun k => decide (33 < 28 + k) || okB (sourceC 200 (srcA (28 + k))) (fun x => eqNs x.1 (nestA (28 + k)))) = true := by kernel_rfl
def srcL (n : Nat) : List Nat := [0xd8, 0x1c, 0x98, n] ++ (List.range n).flatMap fun _ => [0x81, 0xd8, 0x1d, 0x00]
def selfL (n : Nat) : List GNode := ⟨9, [], false, [], (List.range n).map fun i => ((i + 1 : Nat) : Int)⟩ :: List.replicate n ⟨9, [], false, [], [0]⟩
theorem l_ok : (List.range 10).all (fun k => okB (sourceC 300 (srcL (28 + k))) (fun x => eqNs x.1 (selfL (28 + k)))) = true := by kernel_rfl
theorem l_chk : (List.range 10).all (fun k => decide (chkV (selfL (28 + k)) 0 = if 28 + k > 32 then 5 else 0)) = true := by kernel_rfl
theorem l_end : (List.range 10).all (fun k => endB (selfL (28 + k))) = true := by kernel_rfl
theorem a_chk : (List.range 10).all (fun k => decide (33 < 28 + k) || decide (chkV (nestA (28 + k)) 0 = 0)) = true := by kernel_rfl
end Go.Proofs.YtbhigefbihpnlaaGreatDoor
namespace Go.Proofs.YtbhigefbihpnlaaGreatDoor
open Go.RowKit
section
variable {f a : Nat} {l : List Nat} {ts : List JTok} {ns : List JNote}
end
end Go.Proofs.YtbhigefbihpnlaaGreatDoor
namespace Go.Proofs.YtbhigefbihpnlaaGreatDoor
open Go.RowKit
def Off (a b : Nat) : Prop := b = a ∨ b = a + 9
def TokR9 (t t' : JTok) : Prop := t'.kind = t.kind ∧ t'.text = t.text ∧ Off t.from_ t'.from_
inductive Toks9 : List JTok → List JTok → Prop
 | nil : Toks9 [] []
 | cons {t t' : JTok} {l l' : List JTok} (h : TokR9 t t') (k : Toks9 l l') : Toks9 (t :: l) (t' :: l')
theorem Toks9.refl : ∀ l : List JTok, Toks9 l l
 | [] => .nil
 | _ :: l => .cons ⟨rfl, rfl, .inl rfl⟩ (Toks9.refl l)
theorem Toks9.app {a a' b b' : List JTok} (h : Toks9 a a') (k : Toks9 b b') : Toks9 (a ++ b) (a' ++ b') := by
 induction h with
 | nil => exact k
 | cons h1 _ ih => exact .cons h1 ih
theorem Toks9.len {a b : List JTok} (h : Toks9 a b) : b.length = a.length := by
 induction h with
 | nil => rfl
 | cons _ _ ih => simp [ih]
end Go.Proofs.YtbhigefbihpnlaaGreatDoor
namespace Go.Proofs.YtbhigefbihpnlaaGreatDoor
open Go.RowKit
/-! ### The brackets -/
end Go.Proofs.YtbhigefbihpnlaaGreatDoor
namespace Go.Proofs.YtbhigefbihpnlaaGreatDoor
open Go.RowKit
theorem By.taken {l : List Nat} (h : By l) (n : Nat) : By (l.take n) := fun c hc => h c (List.mem_of_mem_take hc)
def NB (L : Nat) (l : List GNode) : Prop := ∀ nd ∈ l, nd.keys.length ≤ L ∧ nd.items.length ≤ L
theorem NB.snoc {L : Nat} {l : List GNode} (h : NB L l) (nd : GNode) (hk : nd.keys = []) (hi : nd.items = []) : NB L (l ++ [nd]) := fun x hx => by
 rcases List.mem_append.1 hx with h1 | h1
 ·exact h x h1
 ·obtain rfl := List.mem_singleton.1 h1
  rw [hk, hi]; simp
end Go.Proofs.YtbhigefbihpnlaaGreatDoor
namespace Go.Proofs.YtbhigefbihpnlaaGreatDoor
open Go.RowKit
theorem node_cells {ncs : List Value} {k : Nat} {a b c d e : Value} (h : (ncs.drop (k * 5)).take 5 = [a, b, c, d, e]) : ncs[k * 5]? = some a ∧ ncs[k * 5 + 1]? = some b ∧ ncs[k * 5 + 2]? = some c ∧ ncs[k * 5 + 3]? = some d ∧ ncs[k * 5 + 4]? = some e := by
 have g : ∀ j, j < 5 → ncs[k * 5 + j]? = [a, b, c, d, e][j]? := fun j hj => by rw [← h, List.getElem?_take_of_lt hj, List.getElem?_drop]
 exact ⟨g 0 (by omega), g 1 (by omega), g 2 (by omega), g 3 (by omega), g 4 (by omega)⟩
end Go.Proofs.YtbhigefbihpnlaaGreatDoor
namespace Go.Proofs.YtbhigefbihpnlaaGreatDoor
open Go.RowKit
inductive InnT (toks : List JTok) (nd : GNode) : Prop
 | leaf (t : JTok) : toks = [t] → t.kind ≠ 1 → scalarV t = some nd → InnT toks nd
 | list (t t2 : JTok) : toks = [t, t2] → t.kind = 1 → t.text = [91] → t2.kind = 1 → t2.text = [93] → nd = ⟨9, [], false, [], []⟩ → InnT toks nd
 | map (t t2 : JTok) : toks = [t, t2] → t.kind = 1 → t.text = [123] → t2.kind = 1 → t2.text = [125] → nd = ⟨10, [], false, [], []⟩ → InnT toks nd
def Begs (t : JTok) : Prop := ¬ (t.kind = 1 ∧ ¬ t.text = [91] ∧ ¬ t.text = [123])
theorem InnT.head {toks : List JTok} {nd : GNode} (h : InnT toks nd) : ∃ t r, toks = t :: r ∧ Begs t := by
 cases h with
 | leaf t h1 h2 h3 => exact ⟨t, [], h1, fun h => h2 h.1⟩
 | list t t2 h1 h2 h3 h4 h5 h6 => exact ⟨t, [t2], h1, fun h => h.2.1 h3⟩
 | map t t2 h1 h2 h3 h4 h5 h6 => exact ⟨t, [t2], h1, fun h => h.2.2 h3⟩
theorem isV_yes {t : JTok} {r : List JTok} {c : List Nat} (h1 : t.kind = 1) (h2 : t.text = c) : isV (t :: r) c = true := decide_eq_true ⟨h1, h2⟩
theorem isV_no {t : JTok} {r : List JTok} {c : List Nat} (h : ¬ (t.kind = 1 ∧ t.text = c)) : isV (t :: r) c = false := decide_eq_false h
theorem Begs.no {t : JTok} (h : Begs t) {c : Nat} (hc : c = 93 ∨ c = 125) (r : List JTok) : isV (t :: r) [c] = false := isV_no fun hh => h ⟨hh.1, by rw [hh.2]; intro e; injection e with e; omega, by rw [hh.2]; intro e; injection e with e; omega⟩
theorem set_snoc (N : List GNode) (a b : GNode) (r : List GNode) : (N ++ a :: r).set N.length b = N ++ b :: r := by
 rw [List.set_append_right (h := Nat.le_refl _), Nat.sub_self]; rfl
theorem InnT.value {toks : List JTok} {nd : GNode} (h : InnT toks nd) (en f : Nat) (N : List GNode) (S : List JSpan) (s : JSpan) (d : Nat) (rest : List JTok) (hd : d ≤ 32) (hN : N.length < 4096) :
  ∃ S', valueV en (f + 2) ⟨toks ++ rest, N, S⟩ s d = .ok ((N.length : Int), ⟨rest, N ++ [nd], S'⟩) := by
 cases h with
 | leaf t h1 h2 h3 =>
  subst h1
  rw [List.singleton_append, valueV]
  simp only
  rw [if_neg (fun h => h2 h.1), if_neg (by omega), if_neg (by omega), if_neg h2, h3]
  exact ⟨_, rfl⟩
 | list t t2 h1 h2 h3 h4 h5 h6 =>
  subst h1
  rw [List.cons_append, valueV]
  simp only
  rw [if_neg (fun h => h.2.1 h3), if_neg (by omega), if_neg (by omega), if_pos h2, h3, itemsV]
  have e1 : decide (([91] : List Nat) = [123]) = false := by decide
  have e2 : (if ([91] : List Nat) = [123] then (10 : Int) else 9) = 9 := by decide
  rw [e1, e2]
  simp only
  rw [if_pos (by simp only [Bool.false_eq_true, if_false]; exact isV_yes h4 h5)]
  simp only
  rw [set_snoc, h6]
  exact ⟨_, rfl⟩
 | map t t2 h1 h2 h3 h4 h5 h6 =>
  subst h1
  rw [List.cons_append, valueV]
  simp only
  rw [if_neg (fun h => h.2.2 h3), if_neg (by omega), if_neg (by omega), if_pos h2, h3, itemsV]
  have e1 : decide (([123] : List Nat) = [123]) = true := by decide
  have e2 : (if ([123] : List Nat) = [123] then (10 : Int) else 9) = 10 := by decide
  rw [e1, e2]
  simp only
  rw [if_pos (by simp only [if_true]; exact isV_yes h4 h5)]
  simp only
  rw [set_snoc, h6]
  exact ⟨_, rfl⟩
/-! ### The nested value -/
end Go.Proofs.YtbhigefbihpnlaaGreatDoor
namespace Go.Proofs.YtbhigefbihpnlaaGreatDoor
open Go.RowKit
def kindJ (k : Int) : Prop := k = 0 ∨ k = 1 ∨ k = 2 ∨ k = 3 ∨ k = 5 ∨ k = 9 ∨ k = 10
structure NodeJ (N : List GNode) (i : Nat) (nd : GNode) : Prop where
 kind : kindJ nd.kind
 tx : By nd.text
 len : nd.text.length ≤ 4294967200
 leaf : nd.kind ≠ 9 → nd.kind ≠ 10 → nd.keys = [] ∧ nd.items = []
 ref : ∀ y ∈ refs nd, (i : Int) < y ∧ y < (N.length : Int)
 key : ∀ y ∈ nd.keys, ∃ nk : GNode, N[y.toNat]? = some nk ∧ nk.kind = 5
def JG (N : List GNode) : Prop := ∀ (i : Nat) (nd : GNode), N[i]? = some nd → NodeJ N i nd
def Ext (N N' : List GNode) : Prop := ∀ (j : Nat) (nk : GNode), N[j]? = some nk → N'[j]? = some nk
theorem Ext.refl (N : List GNode) : Ext N N := fun _ _ h => h
theorem Ext.trans {a b c : List GNode} (h : Ext a b) (k : Ext b c) : Ext a c := fun j nk e => k j nk (h j nk e)
theorem Ext.app (N M : List GNode) : Ext N (N ++ M) := fun j nk h => by
 rw [List.getElem?_append_left (List.getElem?_eq_some_iff.1 h).1]; exact h
theorem Ext.len {a b : List GNode} (h : Ext a b) : a.length ≤ b.length := by
 by_cases e : a.length = 0
 ·omega
 ·have h1 := h (a.length - 1) _ (List.getElem?_eq_getElem (by omega))
  have := (List.getElem?_eq_some_iff.1 h1).1
  omega
theorem NodeJ.ext {N N' : List GNode} {i : Nat} {nd : GNode} (h : NodeJ N i nd) (he : Ext N N') : NodeJ N' i nd :=
 ⟨h.kind, h.tx, h.len, h.leaf, fun y hy => ⟨(h.ref y hy).1, by have := (h.ref y hy).2; have := he.len; omega⟩, fun y hy => by
  obtain ⟨nk, h1, h2⟩ := h.key y hy
  exact ⟨nk, he _ _ h1, h2⟩⟩
theorem JG.snoc {N : List GNode} (h : JG N) {nd : GNode} (hk : kindJ nd.kind) (ht : By nd.text) (hl : nd.text.length ≤ 4294967200) (h1 : nd.keys = []) (h2 : nd.items = []) : JG (N ++ [nd]) := fun i x hx => by
 by_cases hi : i < N.length
 ·rw [List.getElem?_append_left hi] at hx
  exact (h i x hx).ext (Ext.app _ _)
 ·have hlt := (List.getElem?_eq_some_iff.1 hx).1
  rw [List.length_append, List.length_singleton] at hlt
  have : i = N.length := by omega
  subst this
  rw [List.getElem?_append_right (Nat.le_refl _), Nat.sub_self] at hx
  have : nd = x := by simpa using hx
  subst this
  exact ⟨hk, ht, hl, fun _ _ => ⟨h1, h2⟩, fun y hy => by unfold refs at hy; rw [h1, h2] at hy; simp at hy, fun y hy => by rw [h1] at hy; simp at hy⟩
def ColJ (N : List GNode) (k0 : Nat) (keys items : List Int) : Prop :=
 (∀ y ∈ keys, ((k0 : Int) < y ∧ y < (N.length : Int)) ∧ ∃ nk : GNode, N[y.toNat]? = some nk ∧ nk.kind = 5) ∧ ∀ y ∈ items, (k0 : Int) < y ∧ y < (N.length : Int)
theorem ColJ.ext {N N' : List GNode} {k0 : Nat} {ks is_ : List Int} (h : ColJ N k0 ks is_) (he : Ext N N') : ColJ N' k0 ks is_ :=
 ⟨fun y hy => ⟨⟨(h.1 y hy).1.1, by have := (h.1 y hy).1.2; have := he.len; omega⟩, by obtain ⟨nk, h1, h2⟩ := (h.1 y hy).2; exact ⟨nk, he _ _ h1, h2⟩⟩, fun y hy => ⟨(h.2 y hy).1, by have := (h.2 y hy).2; have := he.len; omega⟩⟩
end Go.Proofs.YtbhigefbihpnlaaGreatDoor
namespace Go.Proofs.YtbhigefbihpnlaaGreatDoor
open Go.RowKit
theorem ndAt_of {N : List GNode} {i : Nat} {nd : GNode} (h : N[i]? = some nd) : ndAt N i = nd := by
 unfold ndAt; rw [List.getD_eq_getElem?_getD, h]; rfl
theorem JG.at_ {N : List GNode} (h : JG N) {i : Nat} (hi : i < N.length) : NodeJ N i (ndAt N i) := h i _ (ndAt_get hi)
theorem JG.idx {N : List GNode} (h : JG N) : Idx N := fun i hi x hx => by
 have := (h.at_ hi).ref x hx
 omega
theorem JG.ranks {N : List GNode} (h : JG N) : Ranks N (fun x => N.length - x.toNat) := fun x hx y hy => by
 obtain ⟨h1, h2⟩ := hx
 have := (h.at_ (i := x.toNat) (by omega)).ref y hy
 show N.length - y.toNat < N.length - x.toNat
 omega
theorem endT_dag {nodes : List GNode} {s : TS} (h : DI nodes [] s) (hall : ∀ x, InN nodes.length x → 0 ≤ gI s.inn x) (hT : TOK nodes.length s) (hn : nodes.length ≤ 65536) : EndT nodes s := by
 have hsl : s.sizes.length ≤ 65536 := by have := hT.sz; have := hT.cn; omega
 refine ⟨h.ln, fun i hi => ?_, fun c => ?_, hsl⟩
 ·have hx : InN nodes.length (i : Int) := ⟨by omega, by omega⟩
  have h1 := hall (i : Int) hx
  have h2 := (h.dn (i : Int) hx h1).1
  unfold gI at h1 h2
  rw [Int.toNat_natCast] at h1 h2
  exact ⟨h1, h2⟩
 ·by_cases hc : c < s.sizes.length
  ·rw [h.one c hc]; omega
  ·rw [List.getD_eq_getElem?_getD, List.getElem?_eq_none (by omega)]; simp
theorem JG.dp {N : List GNode} (h : JG N) (hn : N.length ≤ 4096) {root : Int} (hr : InN N.length root) (hall : ∀ i, i < N.length → Reach N root.toNat i) : ∃ s, compV N root = some s ∧ EndT N s := by
 obtain ⟨s, e, d, hin⟩ := compV_dag h.idx h.ranks hr (by show N.length - root.toNat ≤ N.length; omega) hall
 refine ⟨s, e, endT_dag d hin ?_ (by omega)⟩
 refine TOK.visit h.idx _ root _ s hr ?_ (TOK.start _) e
 show (List.replicate N.length (0 : Int)).getD _ _ = 0
 rw [List.getD_eq_getElem?_getD, List.getElem?_replicate]; split <;> rfl
theorem reach_of {N : List GNode} (hI : Idx N) {root : Int} (hr : 0 ≤ root ∧ root < (N.length : Int)) (h : (List.range N.length).all (okN N root) = true) : ∀ i, i < N.length → Reach N root.toNat i := fun i hi => by
 rw [List.all_eq_true] at h
 have := h i (List.mem_range.2 hi)
 unfold okN at this
 rw [Bool.and_eq_true] at this
 exact (reached_iff hI hr i).1 this.1
theorem JG.chk {N : List GNode} (h : JG N) (h0 : 0 < N.length) (h1 : N.length ≤ 4096) (hb : NB 65536 N) : ChkOK N 0 where
 n0 := h0
 n1 := h1
 nl := fun i hi => hb _ (ndAt_mem hi)
 tw := {
  leaf := fun i hi x hx => by
   obtain ⟨nk, k1, k2⟩ := (h.at_ hi).key x hx
   rw [ndAt_of k1]
   exact (h _ _ k1).leaf (by omega) (by omega)
  by_ := fun i hi => (h.at_ hi).tx
  wf := fun i hi => by
   have := (h.at_ hi).kind
   unfold kindJ at this
   rcases this with e | e | e | e | e | e | e <;> rw [e] <;> decide
  len := fun i hi => by
   have := (h.at_ hi).len
   rw [size_mks]; unfold maxLen; omega }
 sc := fun i hi => by
  have hk := (h.at_ hi).kind
  have ht := (h.at_ hi).tx
  have hl := (h.at_ hi).len
  generalize ndAt N i = nd at *
  unfold kindJ at hk
  refine ⟨by omega, fun h9 h10 => ?_⟩
  unfold scV
  rcases hk with e | e | e | e | e | e | e
  ·rw [e]; exact scal_null _
  ·rw [e]; exact scal_bool _ ht
  ·rw [e]; exact scal_int _ ht
  ·rw [e]; exact scal_dec _ ht (by omega)
  ·rw [e]; exact scal_text _ (by omega)
  ·exact absurd e h9
  ·exact absurd e h10
 dp := fun hi ha => by
  obtain ⟨hr, hI⟩ := idx_of hi
  exact h.dp h1 hr (reach_of hI hr ha)
/-! ### Nested values -/
def hgt : List Bool → List Int | [] => [1] | false :: sh => ((sh.length : Int) + 2) :: hgt sh | true :: sh => ((sh.length : Int) + 2) :: 1 :: hgt sh
end Go.Proofs.YtbhigefbihpnlaaGreatDoor
namespace Go.Proofs.YtbhigefbihpnlaaGreatDoor
open Go.RowKit
end Go.Proofs.YtbhigefbihpnlaaGreatDoor
namespace Go.Proofs.YtbhigefbihpnlaaGreatDoor
open Go.RowKit
end Go.Proofs.YtbhigefbihpnlaaGreatDoor
namespace Go.Proofs.YtbhigefbihpnlaaGreatDoor
open Go.RowKit
end Go.Proofs.YtbhigefbihpnlaaGreatDoor
namespace Go.Proofs.YtbhigefbihpnlaaGreatDoor
open Go.RowKit
end Go.Proofs.YtbhigefbihpnlaaGreatDoor
namespace Go.Proofs.YtbhigefbihpnlaaGreatDoor
open Go.RowKit
end Go.Proofs.YtbhigefbihpnlaaGreatDoor
namespace Go.Proofs.YtbhigefbihpnlaaGreatDoor
open Go.RowKit
end Go.Proofs.YtbhigefbihpnlaaGreatDoor
namespace Go.Proofs.YtbhigefbihpnlaaGreatDoor
open Go.RowKit
end Go.Proofs.YtbhigefbihpnlaaGreatDoor
namespace Go.Proofs.YtbhigefbihpnlaaGreatDoor
open Go.RowKit
end Go.Proofs.YtbhigefbihpnlaaGreatDoor
namespace Go.Proofs.YtbhigefbihpnlaaGreatDoor
open Go.RowKit
end Go.Proofs.YtbhigefbihpnlaaGreatDoor
namespace Go.Proofs.YtbhigefbihpnlaaGreatDoor
open Go.RowKit
end Go.Proofs.YtbhigefbihpnlaaGreatDoor
namespace Go.Proofs.YtbhigefbihpnlaaGreatDoor
open Go.RowKit
end Go.Proofs.YtbhigefbihpnlaaGreatDoor
namespace Go.Proofs.YtbhigefbihpnlaaGreatDoor
open Go.RowKit
end Go.Proofs.YtbhigefbihpnlaaGreatDoor
namespace Go.Proofs.YtbhigefbihpnlaaGreatDoor
open Go.RowKit
end Go.Proofs.YtbhigefbihpnlaaGreatDoor
namespace Go.Proofs.YtbhigefbihpnlaaGreatDoor
open Go.RowKit
section
variable {en f0 d : Nat} {st : PSt} {s : JSpan} {t : JTok} {r : List JTok}
end
end Go.Proofs.YtbhigefbihpnlaaGreatDoor
namespace Go.Proofs.YtbhigefbihpnlaaGreatDoor
open Go.RowKit
end Go.Proofs.YtbhigefbihpnlaaGreatDoor
namespace Go.Proofs.YtbhigefbihpnlaaGreatDoor
open Go.RowKit
end Go.Proofs.YtbhigefbihpnlaaGreatDoor
namespace Go.Proofs.YtbhigefbihpnlaaGreatDoor
open Go.RowKit
theorem grd_own {w : World} {B g c : Nat} {nodes : List GNode} {ncs : List Value} (hN : w.ownsRow B 60 5 (.slice (some ⟨g, 0, none⟩) nodes.length c) nodes.length ncs) (hNr : NodesRd w (fun _ => True) ncs nodes) : GRd w w.heap.size g 0 nodes := by
 refine ⟨(hN.lt g rfl).2, Nat.le_refl _, fun i nd hi => ?_⟩
 obtain ⟨K, nk, ck, I, ni, ci, hcs, ⟨hk1, hk2, hk3⟩, ⟨hi1, hi2, hi3⟩⟩ := hNr.2 i nd hi
 subst hk1
 subst hi1
 obtain ⟨e0, e1, e2, e3, e4⟩ := node_cells hcs
 have hb : ∀ {A : Option Addr}, (∀ ad, A = some ad → True ∧ ∃ C fz, w.heap[ad.block]? = some (.cells C 3 fz)) → ∀ ad, A = some ad → ad.block < w.heap.size := fun h ad e => by
  obtain ⟨_, C, fz, hc⟩ := h ad e
  exact (Array.getElem?_eq_some_iff.1 hc).1
 rw [Nat.zero_add]
 exact ⟨K, ck, I, ci, (own_cell hN e0).1, (own_cell hN e1).1, (own_cell hN e2).1, (own_cell hN e3).1, (own_cell hN e4).1, ⟨hk2, hb hk3⟩, hi2, hb hi3⟩
end Go.Proofs.YtbhigefbihpnlaaGreatDoor
