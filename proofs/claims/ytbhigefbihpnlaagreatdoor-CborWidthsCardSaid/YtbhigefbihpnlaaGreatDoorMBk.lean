/- Plain laws: blanks and a comment ahead of a token change nothing in the scanner's answer but offsets. -/
import Derived.Test.YtbhigefbihpnlaaGreatDoorMAk
import Derived.Test.YtbhigefbihpnlaaGreatDoorMAh
import Derived.Test.YtbhigefbihpnlaaGreatDoorMAz
import Derived.Test.YtbhigefbihpnlaaGreatDoorMAm
import Derived.Test.YtbhigefbihpnlaaGreatDoorMBj
import Derived.Deep.CutRange
import Derived.Recover
import Derived.Defers
import Derived.StillTailTactics
set_option linter.unusedVariables false
set_option linter.unusedSimpArgs false
set_option linter.defProp false
set_option linter.constructorNameAsVariable false
namespace Go.Proofs.YtbhigefbihpnlaaGreatDoor
open Go.RowKit
section
variable {f a : Nat} {l : List Nat} {ts : List JTok} {ns : List JNote}
end
end Go.Proofs.YtbhigefbihpnlaaGreatDoor
namespace Go.Proofs.YtbhigefbihpnlaaGreatDoor
open Go.RowKit
def Off (a b : Nat) : Prop := b = a ∨ b = a + 9
def TokR9 (t t' : JTok) : Prop := t'.kind = t.kind ∧ t'.text = t.text ∧ Off t.from_ t'.from_
inductive Toks9 : List JTok → List JTok → Prop
 | nil : Toks9 [] []
 | cons {t t' : JTok} {l l' : List JTok} (h : TokR9 t t') (k : Toks9 l l') : Toks9 (t :: l) (t' :: l')
theorem Toks9.refl : ∀ l : List JTok, Toks9 l l
 | [] => .nil
 | _ :: l => .cons ⟨rfl, rfl, .inl rfl⟩ (Toks9.refl l)
theorem Toks9.app {a a' b b' : List JTok} (h : Toks9 a a') (k : Toks9 b b') : Toks9 (a ++ b) (a' ++ b') := by
 induction h with
 | nil => exact k
 | cons h1 _ ih => exact .cons h1 ih
theorem Toks9.len {a b : List JTok} (h : Toks9 a b) : b.length = a.length := by
 induction h with
 | nil => rfl
 | cons _ _ ih => simp [ih]
end Go.Proofs.YtbhigefbihpnlaaGreatDoor
namespace Go.Proofs.YtbhigefbihpnlaaGreatDoor
open Go.RowKit
/-! ### The brackets -/
end Go.Proofs.YtbhigefbihpnlaaGreatDoor
namespace Go.Proofs.YtbhigefbihpnlaaGreatDoor
open Go.RowKit
theorem By.taken {l : List Nat} (h : By l) (n : Nat) : By (l.take n) := fun c hc => h c (List.mem_of_mem_take hc)
def NB (L : Nat) (l : List GNode) : Prop := ∀ nd ∈ l, nd.keys.length ≤ L ∧ nd.items.length ≤ L
theorem NB.snoc {L : Nat} {l : List GNode} (h : NB L l) (nd : GNode) (hk : nd.keys = []) (hi : nd.items = []) : NB L (l ++ [nd]) := fun x hx => by
 rcases List.mem_append.1 hx with h1 | h1
 ·exact h x h1
 ·obtain rfl := List.mem_singleton.1 h1
  rw [hk, hi]; simp
end Go.Proofs.YtbhigefbihpnlaaGreatDoor
namespace Go.Proofs.YtbhigefbihpnlaaGreatDoor
open Go.RowKit
theorem node_cells {ncs : List Value} {k : Nat} {a b c d e : Value} (h : (ncs.drop (k * 5)).take 5 = [a, b, c, d, e]) : ncs[k * 5]? = some a ∧ ncs[k * 5 + 1]? = some b ∧ ncs[k * 5 + 2]? = some c ∧ ncs[k * 5 + 3]? = some d ∧ ncs[k * 5 + 4]? = some e := by
 have g : ∀ j, j < 5 → ncs[k * 5 + j]? = [a, b, c, d, e][j]? := fun j hj => by rw [← h, List.getElem?_take_of_lt hj, List.getElem?_drop]
 exact ⟨g 0 (by omega), g 1 (by omega), g 2 (by omega), g 3 (by omega), g 4 (by omega)⟩
end Go.Proofs.YtbhigefbihpnlaaGreatDoor
namespace Go.Proofs.YtbhigefbihpnlaaGreatDoor
open Go.RowKit
inductive InnT (toks : List JTok) (nd : GNode) : Prop
 | leaf (t : JTok) : toks = [t] → t.kind ≠ 1 → scalarV t = some nd → InnT toks nd
 | list (t t2 : JTok) : toks = [t, t2] → t.kind = 1 → t.text = [91] → t2.kind = 1 → t2.text = [93] → nd = ⟨9, [], false, [], []⟩ → InnT toks nd
 | map (t t2 : JTok) : toks = [t, t2] → t.kind = 1 → t.text = [123] → t2.kind = 1 → t2.text = [125] → nd = ⟨10, [], false, [], []⟩ → InnT toks nd
def Begs (t : JTok) : Prop := ¬ (t.kind = 1 ∧ ¬ t.text = [91] ∧ ¬ t.text = [123])
theorem InnT.head {toks : List JTok} {nd : GNode} (h : InnT toks nd) : ∃ t r, toks = t :: r ∧ Begs t := by
 cases h with
 | leaf t h1 h2 h3 => exact ⟨t, [], h1, fun h => h2 h.1⟩
 | list t t2 h1 h2 h3 h4 h5 h6 => exact ⟨t, [t2], h1, fun h => h.2.1 h3⟩
 | map t t2 h1 h2 h3 h4 h5 h6 => exact ⟨t, [t2], h1, fun h => h.2.2 h3⟩
theorem isV_yes {t : JTok} {r : List JTok} {c : List Nat} (h1 : t.kind = 1) (h2 : t.text = c) : isV (t :: r) c = true := decide_eq_true ⟨h1, h2⟩
theorem isV_no {t : JTok} {r : List JTok} {c : List Nat} (h : ¬ (t.kind = 1 ∧ t.text = c)) : isV (t :: r) c = false := decide_eq_false h
theorem Begs.no {t : JTok} (h : Begs t) {c : Nat} (hc : c = 93 ∨ c = 125) (r : List JTok) : isV (t :: r) [c] = false := isV_no fun hh => h ⟨hh.1, by rw [hh.2]; intro e; injection e with e; omega, by rw [hh.2]; intro e; injection e with e; omega⟩
theorem set_snoc (N : List GNode) (a b : GNode) (r : List GNode) : (N ++ a :: r).set N.length b = N ++ b :: r := by
 rw [List.set_append_right (h := Nat.le_refl _), Nat.sub_self]; rfl
theorem InnT.value {toks : List JTok} {nd : GNode} (h : InnT toks nd) (en f : Nat) (N : List GNode) (S : List JSpan) (s : JSpan) (d : Nat) (rest : List JTok) (hd : d ≤ 32) (hN : N.length < 4096) :
  ∃ S', valueV en (f + 2) ⟨toks ++ rest, N, S⟩ s d = .ok ((N.length : Int), ⟨rest, N ++ [nd], S'⟩) := by
 cases h with
 | leaf t h1 h2 h3 =>
  subst h1
  rw [List.singleton_append, valueV]
  simp only
  rw [if_neg (fun h => h2 h.1), if_neg (by omega), if_neg (by omega), if_neg h2, h3]
  exact ⟨_, rfl⟩
 | list t t2 h1 h2 h3 h4 h5 h6 =>
  subst h1
  rw [List.cons_append, valueV]
  simp only
  rw [if_neg (fun h => h.2.1 h3), if_neg (by omega), if_neg (by omega), if_pos h2, h3, itemsV]
  have e1 : decide (([91] : List Nat) = [123]) = false := by decide
  have e2 : (if ([91] : List Nat) = [123] then (10 : Int) else 9) = 9 := by decide
  rw [e1, e2]
  simp only
  rw [if_pos (by simp only [Bool.false_eq_true, if_false]; exact isV_yes h4 h5)]
  simp only
  rw [set_snoc, h6]
  exact ⟨_, rfl⟩
 | map t t2 h1 h2 h3 h4 h5 h6 =>
  subst h1
  rw [List.cons_append, valueV]
  simp only
  rw [if_neg (fun h => h.2.2 h3), if_neg (by omega), if_neg (by omega), if_pos h2, h3, itemsV]
  have e1 : decide (([123] : List Nat) = [123]) = true := by decide
  have e2 : (if ([123] : List Nat) = [123] then (10 : Int) else 9) = 10 := by decide
  rw [e1, e2]
  simp only
  rw [if_pos (by simp only [if_true]; exact isV_yes h4 h5)]
  simp only
  rw [set_snoc, h6]
  exact ⟨_, rfl⟩
/-! ### The nested value -/
end Go.Proofs.YtbhigefbihpnlaaGreatDoor
namespace Go.Proofs.YtbhigefbihpnlaaGreatDoor
open Go.RowKit
def kindJ (k : Int) : Prop := k = 0 ∨ k = 1 ∨ k = 2 ∨ k = 3 ∨ k = 5 ∨ k = 9 ∨ k = 10
structure NodeJ (N : List GNode) (i : Nat) (nd : GNode) : Prop where
 kind : kindJ nd.kind
 tx : By nd.text
 len : nd.text.length ≤ 4294967200
 leaf : nd.kind ≠ 9 → nd.kind ≠ 10 → nd.keys = [] ∧ nd.items = []
 ref : ∀ y ∈ refs nd, (i : Int) < y ∧ y < (N.length : Int)
 key : ∀ y ∈ nd.keys, ∃ nk : GNode, N[y.toNat]? = some nk ∧ nk.kind = 5
def JG (N : List GNode) : Prop := ∀ (i : Nat) (nd : GNode), N[i]? = some nd → NodeJ N i nd
def Ext (N N' : List GNode) : Prop := ∀ (j : Nat) (nk : GNode), N[j]? = some nk → N'[j]? = some nk
theorem Ext.refl (N : List GNode) : Ext N N := fun _ _ h => h
theorem Ext.trans {a b c : List GNode} (h : Ext a b) (k : Ext b c) : Ext a c := fun j nk e => k j nk (h j nk e)
theorem Ext.app (N M : List GNode) : Ext N (N ++ M) := fun j nk h => by
 rw [List.getElem?_append_left (List.getElem?_eq_some_iff.1 h).1]; exact h
theorem Ext.len {a b : List GNode} (h : Ext a b) : a.length ≤ b.length := by
 by_cases e : a.length = 0
 ·omega
 ·have h1 := h (a.length - 1) _ (List.getElem?_eq_getElem (by omega))
  have := (List.getElem?_eq_some_iff.1 h1).1
  omega
theorem NodeJ.ext {N N' : List GNode} {i : Nat} {nd : GNode} (h : NodeJ N i nd) (he : Ext N N') : NodeJ N' i nd :=
 ⟨h.kind, h.tx, h.len, h.leaf, fun y hy => ⟨(h.ref y hy).1, by have := (h.ref y hy).2; have := he.len; omega⟩, fun y hy => by
  obtain ⟨nk, h1, h2⟩ := h.key y hy
  exact ⟨nk, he _ _ h1, h2⟩⟩
theorem JG.snoc {N : List GNode} (h : JG N) {nd : GNode} (hk : kindJ nd.kind) (ht : By nd.text) (hl : nd.text.length ≤ 4294967200) (h1 : nd.keys = []) (h2 : nd.items = []) : JG (N ++ [nd]) := fun i x hx => by
 by_cases hi : i < N.length
 ·rw [List.getElem?_append_left hi] at hx
  exact (h i x hx).ext (Ext.app _ _)
 ·have hlt := (List.getElem?_eq_some_iff.1 hx).1
  rw [List.length_append, List.length_singleton] at hlt
  have : i = N.length := by omega
  subst this
  rw [List.getElem?_append_right (Nat.le_refl _), Nat.sub_self] at hx
  have : nd = x := by simpa using hx
  subst this
  exact ⟨hk, ht, hl, fun _ _ => ⟨h1, h2⟩, fun y hy => by unfold refs at hy; rw [h1, h2] at hy; simp at hy, fun y hy => by rw [h1] at hy; simp at hy⟩
def ColJ (N : List GNode) (k0 : Nat) (keys items : List Int) : Prop :=
 (∀ y ∈ keys, ((k0 : Int) < y ∧ y < (N.length : Int)) ∧ ∃ nk : GNode, N[y.toNat]? = some nk ∧ nk.kind = 5) ∧ ∀ y ∈ items, (k0 : Int) < y ∧ y < (N.length : Int)
theorem ColJ.ext {N N' : List GNode} {k0 : Nat} {ks is_ : List Int} (h : ColJ N k0 ks is_) (he : Ext N N') : ColJ N' k0 ks is_ :=
 ⟨fun y hy => ⟨⟨(h.1 y hy).1.1, by have := (h.1 y hy).1.2; have := he.len; omega⟩, by obtain ⟨nk, h1, h2⟩ := (h.1 y hy).2; exact ⟨nk, he _ _ h1, h2⟩⟩, fun y hy => ⟨(h.2 y hy).1, by have := (h.2 y hy).2; have := he.len; omega⟩⟩
end Go.Proofs.YtbhigefbihpnlaaGreatDoor
namespace Go.Proofs.YtbhigefbihpnlaaGreatDoor
open Go.RowKit
theorem JG.at_ {N : List GNode} (h : JG N) {i : Nat} (hi : i < N.length) : NodeJ N i (ndAt N i) := h i _ (ndAt_get hi)
theorem JG.idx {N : List GNode} (h : JG N) : Idx N := fun i hi x hx => by
 have := (h.at_ hi).ref x hx
 omega
theorem JG.ranks {N : List GNode} (h : JG N) : Ranks N (fun x => N.length - x.toNat) := fun x hx y hy => by
 obtain ⟨h1, h2⟩ := hx
 have := (h.at_ (i := x.toNat) (by omega)).ref y hy
 show N.length - y.toNat < N.length - x.toNat
 omega
theorem endT_dag {nodes : List GNode} {s : TS} (h : DI nodes [] s) (hall : ∀ x, InN nodes.length x → 0 ≤ gI s.inn x) (hT : TOK nodes.length s) (hn : nodes.length ≤ 65536) : EndT nodes s := by
 have hsl : s.sizes.length ≤ 65536 := by have := hT.sz; have := hT.cn; omega
 refine ⟨h.ln, fun i hi => ?_, fun c => ?_, hsl⟩
 ·have hx : InN nodes.length (i : Int) := ⟨by omega, by omega⟩
  have h1 := hall (i : Int) hx
  have h2 := (h.dn (i : Int) hx h1).1
  unfold gI at h1 h2
  rw [Int.toNat_natCast] at h1 h2
  exact ⟨h1, h2⟩
 ·by_cases hc : c < s.sizes.length
  ·rw [h.one c hc]; omega
  ·rw [List.getD_eq_getElem?_getD, List.getElem?_eq_none (by omega)]; simp
theorem JG.dp {N : List GNode} (h : JG N) (hn : N.length ≤ 4096) {root : Int} (hr : InN N.length root) (hall : ∀ i, i < N.length → Reach N root.toNat i) : ∃ s, compV N root = some s ∧ EndT N s := by
 obtain ⟨s, e, d, hin⟩ := compV_dag h.idx h.ranks hr (by show N.length - root.toNat ≤ N.length; omega) hall
 refine ⟨s, e, endT_dag d hin ?_ (by omega)⟩
 refine TOK.visit h.idx _ root _ s hr ?_ (TOK.start _) e
 show (List.replicate N.length (0 : Int)).getD _ _ = 0
 rw [List.getD_eq_getElem?_getD, List.getElem?_replicate]; split <;> rfl
/-! ### Nested values -/
def hgt : List Bool → List Int | [] => [1] | false :: sh => ((sh.length : Int) + 2) :: hgt sh | true :: sh => ((sh.length : Int) + 2) :: 1 :: hgt sh
end Go.Proofs.YtbhigefbihpnlaaGreatDoor
namespace Go.Proofs.YtbhigefbihpnlaaGreatDoor
open Go.RowKit
end Go.Proofs.YtbhigefbihpnlaaGreatDoor
namespace Go.Proofs.YtbhigefbihpnlaaGreatDoor
open Go.RowKit
end Go.Proofs.YtbhigefbihpnlaaGreatDoor
namespace Go.Proofs.YtbhigefbihpnlaaGreatDoor
open Go.RowKit
end Go.Proofs.YtbhigefbihpnlaaGreatDoor
namespace Go.Proofs.YtbhigefbihpnlaaGreatDoor
open Go.RowKit
end Go.Proofs.YtbhigefbihpnlaaGreatDoor
namespace Go.Proofs.YtbhigefbihpnlaaGreatDoor
open Go.RowKit
end Go.Proofs.YtbhigefbihpnlaaGreatDoor
namespace Go.Proofs.YtbhigefbihpnlaaGreatDoor
open Go.RowKit
end Go.Proofs.YtbhigefbihpnlaaGreatDoor
namespace Go.Proofs.YtbhigefbihpnlaaGreatDoor
open Go.RowKit
end Go.Proofs.YtbhigefbihpnlaaGreatDoor
namespace Go.Proofs.YtbhigefbihpnlaaGreatDoor
open Go.RowKit
end Go.Proofs.YtbhigefbihpnlaaGreatDoor
namespace Go.Proofs.YtbhigefbihpnlaaGreatDoor
open Go.RowKit
end Go.Proofs.YtbhigefbihpnlaaGreatDoor
namespace Go.Proofs.YtbhigefbihpnlaaGreatDoor
open Go.RowKit
end Go.Proofs.YtbhigefbihpnlaaGreatDoor
namespace Go.Proofs.YtbhigefbihpnlaaGreatDoor
open Go.RowKit
end Go.Proofs.YtbhigefbihpnlaaGreatDoor
namespace Go.Proofs.YtbhigefbihpnlaaGreatDoor
open Go.RowKit
end Go.Proofs.YtbhigefbihpnlaaGreatDoor
namespace Go.Proofs.YtbhigefbihpnlaaGreatDoor
open Go.RowKit
end Go.Proofs.YtbhigefbihpnlaaGreatDoor
namespace Go.Proofs.YtbhigefbihpnlaaGreatDoor
open Go.RowKit
section
variable {en f0 d : Nat} {st : PSt} {s : JSpan} {t : JTok} {r : List JTok}
end
end Go.Proofs.YtbhigefbihpnlaaGreatDoor
namespace Go.Proofs.YtbhigefbihpnlaaGreatDoor
open Go.RowKit
end Go.Proofs.YtbhigefbihpnlaaGreatDoor
namespace Go.Proofs.YtbhigefbihpnlaaGreatDoor
open Go.RowKit
end Go.Proofs.YtbhigefbihpnlaaGreatDoor
namespace Go.Proofs.YtbhigefbihpnlaaGreatDoor
open Go.RowKit
theorem grd_own {w : World} {B g c : Nat} {nodes : List GNode} {ncs : List Value} (hN : w.ownsRow B 60 5 (.slice (some ⟨g, 0, none⟩) nodes.length c) nodes.length ncs) (hNr : NodesRd w (fun _ => True) ncs nodes) : GRd w w.heap.size g 0 nodes := by
 refine ⟨(hN.lt g rfl).2, Nat.le_refl _, fun i nd hi => ?_⟩
 obtain ⟨K, nk, ck, I, ni, ci, hcs, ⟨hk1, hk2, hk3⟩, ⟨hi1, hi2, hi3⟩⟩ := hNr.2 i nd hi
 subst hk1
 subst hi1
 obtain ⟨e0, e1, e2, e3, e4⟩ := node_cells hcs
 have hb : ∀ {A : Option Addr}, (∀ ad, A = some ad → True ∧ ∃ C fz, w.heap[ad.block]? = some (.cells C 3 fz)) → ∀ ad, A = some ad → ad.block < w.heap.size := fun h ad e => by
  obtain ⟨_, C, fz, hc⟩ := h ad e
  exact (Array.getElem?_eq_some_iff.1 hc).1
 rw [Nat.zero_add]
 exact ⟨K, ck, I, ci, (own_cell hN e0).1, (own_cell hN e1).1, (own_cell hN e2).1, (own_cell hN e3).1, (own_cell hN e4).1, ⟨hk2, hb hk3⟩, hi2, hb hi3⟩
end Go.Proofs.YtbhigefbihpnlaaGreatDoor
