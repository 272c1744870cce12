/- A graph in memory, as graph.Check reads it; a slice of bools and of integers known whole. -/
import Derived.Test.YtbhigefbihpnlaaGreatDoorMAm
import Derived.Test.YtbhigefbihpnlaaGreatDoorProg
import Derived.Laws.EntriesVeiled
set_option linter.unusedVariables false
set_option linter.unusedSimpArgs false
set_option linter.defProp false
set_option linter.constructorNameAsVariable false
namespace Go.Proofs.YtbhigefbihpnlaaGreatDoor
open Go.RowKit
def Bs (m : List Bool) : List Value := m.map Value.bool
theorem Bs_get {m : List Bool} {k : Nat} (h : k < m.length) : (Bs m)[k]? = some (.bool (m.getD k false)) := by
 unfold Bs
 rw [List.getElem?_map, List.getD_eq_getElem?_getD, List.getElem?_eq_getElem h]; rfl
theorem Bs_set (m : List Bool) (k : Nat) (b : Bool) : (Bs m).set k (.bool b) = Bs (m.set k b) := by simp [Bs, List.map_set]
theorem Bs_rep (n : Nat) : List.replicate n (Value.bool false) = Bs (noMarks n) := by simp [Bs, noMarks]
theorem I64_getD {l : List Int} {k : Nat} (h : k < l.length) : (I64 l)[k]? = some (.int .i64 (l.getD k 0)) := by
 unfold I64
 rw [List.getElem?_map, List.getD_eq_getElem?_getD, List.getElem?_eq_getElem h]; rfl
theorem I64_rep (n : Nat) (v : Int) : List.replicate n (Value.int .i64 v) = I64 (List.replicate n v) := by simp [I64]
theorem box2 (w : World) (t t' : TypeId) (xs ys : List Value) :
  Hid (Arr ((w.alloc (.cells xs.toArray t)).alloc (.cells ys.toArray t')) w.heap.size t xs) ∧ Hid (Arr ((w.alloc (.cells xs.toArray t)).alloc (.cells ys.toArray t')) (w.heap.size + 1) t' ys) ∧
   Below w.heap.size w ((w.alloc (.cells xs.toArray t)).alloc (.cells ys.toArray t')) ∧ Hid (((w.alloc (.cells xs.toArray t)).alloc (.cells ys.toArray t')).heap.size = w.heap.size + 2) := by
 refine ⟨(Arr.new w t xs).alloc _, ?_, ((Below.refl _ _).alloc (Nat.le_refl _) _).alloc (by simp) _, ?_⟩
 ·have h := Arr.new (w.alloc (.cells xs.toArray t)) t' ys
  have e : (w.alloc (.cells xs.toArray t)).heap.size = w.heap.size + 1 := by simp
  rw [e] at h
  exact h
 ·show _ = _
  simp
theorem box3 (w : World) (t t' t'' : TypeId) (xs ys zs : List Value) :
  Hid (Arr (((w.alloc (.cells xs.toArray t)).alloc (.cells ys.toArray t')).alloc (.cells zs.toArray t'')) w.heap.size t xs) ∧ Hid (Arr (((w.alloc (.cells xs.toArray t)).alloc (.cells ys.toArray t')).alloc (.cells zs.toArray t'')) (w.heap.size + 1) t' ys) ∧
   Hid (Arr (((w.alloc (.cells xs.toArray t)).alloc (.cells ys.toArray t')).alloc (.cells zs.toArray t'')) (w.heap.size + 2) t'' zs) ∧
   Below w.heap.size w (((w.alloc (.cells xs.toArray t)).alloc (.cells ys.toArray t')).alloc (.cells zs.toArray t'')) ∧ Hid ((((w.alloc (.cells xs.toArray t)).alloc (.cells ys.toArray t')).alloc (.cells zs.toArray t'')).heap.size = w.heap.size + 3) := by
 obtain ⟨h1, h2, h3, h4⟩ := box2 w t t' xs ys
 refine ⟨Arr.alloc h1 _, Arr.alloc h2 _, ?_, h3.alloc (by have := h4.out; omega) _, ?_⟩
 ·have h := Arr.new ((w.alloc (.cells xs.toArray t)).alloc (.cells ys.toArray t')) t'' zs
  rw [h4.out] at h
  exact h
 ·show _ = _
  simp
def NodeC (w : World) (B g p : Nat) (nd : GNode) : Prop := ∃ K ck I ci,
 w.cell? ⟨g, p, none⟩ = some (.int .i64 nd.kind) ∧ w.cell? ⟨g, p + 1, none⟩ = some (.string (mks nd.text)) ∧ w.cell? ⟨g, p + 2, none⟩ = some (.bool nd.ord) ∧
 w.cell? ⟨g, p + 3, none⟩ = some (.slice K nd.keys.length ck) ∧ w.cell? ⟨g, p + 4, none⟩ = some (.slice I nd.items.length ci) ∧
 (Rd w K (I64 nd.keys) ∧ ∀ ad, K = some ad → ad.block < B) ∧ (Rd w I (I64 nd.items) ∧ ∀ ad, I = some ad → ad.block < B)
def GRd (w : World) (B g o : Nat) (nodes : List GNode) : Prop := g < B ∧ B ≤ w.heap.size ∧ ∀ i nd, nodes[i]? = some nd → NodeC w B g (o + i * 5) nd
theorem NodeC.up {w : World} {B B' g p : Nat} {nd : GNode} (h : NodeC w B g p nd) (hB : B ≤ B') : NodeC w B' g p nd := by
 obtain ⟨K, ck, I, ci, h0, h1, h2, h3, h4, ⟨h5, h6⟩, h7, h8⟩ := h
 exact ⟨K, ck, I, ci, h0, h1, h2, h3, h4, ⟨h5, fun ad e => Nat.lt_of_lt_of_le (h6 ad e) hB⟩, h7, fun ad e => Nat.lt_of_lt_of_le (h8 ad e) hB⟩
theorem GRd.up {w : World} {B B' g o : Nat} {nodes : List GNode} (h : GRd w B g o nodes) (hB : B ≤ B') (hw : B' ≤ w.heap.size) : GRd w B' g o nodes :=
 ⟨Nat.lt_of_lt_of_le h.1 hB, hw, fun i nd hi => (h.2.2 i nd hi).up hB⟩
theorem NodeC.same {w w' : World} {B g p : Nat} {nd : GNode} (h : NodeC w B g p nd) (hg : g < B) (hk : ∀ a : Addr, a.block < B → ∀ u, w.cell? a = some u → w'.cell? a = some u) : NodeC w' B g p nd := by
 obtain ⟨K, ck, I, ci, h0, h1, h2, h3, h4, ⟨h5, h6⟩, h7, h8⟩ := h
 refine ⟨K, ck, I, ci, hk _ hg _ h0, hk _ hg _ h1, hk _ hg _ h2, hk _ hg _ h3, hk _ hg _ h4, ⟨fun j u hj => ?_, h6⟩, fun j u hj => ?_, h8⟩
 ·obtain ⟨ad, e, hc⟩ := h5 j u hj
  exact ⟨ad, e, hk _ (by rw [blk_add]; exact h6 ad e) _ hc⟩
 ·obtain ⟨ad, e, hc⟩ := h7 j u hj
  exact ⟨ad, e, hk _ (by rw [blk_add]; exact h8 ad e) _ hc⟩
theorem GRd.below {w w' : World} {B B' g o : Nat} {nodes : List GNode} (h : GRd w B g o nodes) (hb : Below B' w w') (hB : B ≤ B') : GRd w' B g o nodes :=
 ⟨h.1, Nat.le_trans h.2.1 hb.size, fun i nd hi => (h.2.2 i nd hi).same h.1 fun a ha u hu => by rw [hb.cell (by omega)]; exact hu⟩
theorem GRd.grown {w w' : World} {B g o b : Nat} {nodes : List GNode} (h : GRd w B g o nodes) (hb : w.grownBy w' (some b)) (hB : B ≤ b) : GRd w' B g o nodes :=
 ⟨h.1, Nat.le_trans h.2.1 hb.size, fun i nd hi => (h.2.2 i nd hi).same h.1 fun a ha u hu => hb.cell hu (by intro e; have := Option.some.inj e; omega)⟩
theorem GRd.of_at {w : World} {g o : Nat} {B : Nat} {nodes : List GNode} (h : GRd w B g o nodes) {i : Nat} (hi : i < nodes.length) : NodeC w B g (o + i * 5) (ndAt nodes i) := h.2.2 i _ (ndAt_get hi)
def NL (L : Nat) (nodes : List GNode) : Prop := ∀ i, i < nodes.length → (ndAt nodes i).keys.length ≤ L ∧ (ndAt nodes i).items.length ≤ L
theorem grown_set (w : World) (p : Addr) (u : Value) : w.grownBy (w.setCell p u) (some p.block) :=
 ⟨rfl, rfl, rfl, by simp [World.setCell], fun k _ hk => Below.heap_setCell w p u k (by rintro rfl; exact hk rfl)⟩
theorem grown_trans {a b c : World} {row : Option Nat} (h : a.grownBy b row) (k : b.grownBy c row) : a.grownBy c row :=
 ⟨k.os.trans h.os, k.tape.trans h.tape, k.output.trans h.output, Nat.le_trans h.size k.size, fun j hj hr => (k.block j (Nat.lt_of_lt_of_le hj h.size) hr).trans (h.block j hj hr)⟩
theorem below_row {a b c : World} {B r : Nat} (h : Below B a b) (k : b.grownBy c (some r)) (hB : B ≤ b.heap.size) (hr : B ≤ r) : Below B a c :=
 h.trans ⟨k.os, k.tape, k.output, k.size, fun j hj => k.block j (by omega) (by intro e; have := Option.some.inj e; omega)⟩
theorem drop_cons_at {l : List Int} {k : Nat} {x : Int} (h : l[k]? = some x) : l.drop k = x :: l.drop (k + 1) := by
 have hk := (List.getElem?_eq_some_iff.1 h).1
 have hx := (List.getElem?_eq_some_iff.1 h).2
 rw [List.drop_eq_getElem_cons hk, hx]
end Go.Proofs.YtbhigefbihpnlaaGreatDoor
