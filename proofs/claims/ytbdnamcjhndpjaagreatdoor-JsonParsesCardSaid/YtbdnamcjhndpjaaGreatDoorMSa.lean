/- The reference's parser in memory: its block, its nodes with rows of their own, its spans; what stores and appends leave. -/
import Derived.Test.YtbdnamcjhndpjaaGreatDoorMQk
import Derived.Test.YtbdnamcjhndpjaaGreatDoorMK
import Derived.Test.YtbdnamcjhndpjaaGreatDoorMH
import Derived.StillTailTactics
import Derived.Deep.DeepCutAuto
import Derived.Test.YtbdnamcjhndpjaaGreatDoorMQe
import Derived.Test.YtbdnamcjhndpjaaGreatDoorMRp
import Derived.Test.YtbdnamcjhndpjaaGreatDoorMRr
set_option linter.unusedVariables false
set_option linter.unusedSimpArgs false
set_option linter.defProp false
set_option linter.constructorNameAsVariable false
namespace Go.Proofs.YtbdnamcjhndpjaaGreatDoor
open Go.RowKit
structure RSt where
 i : Nat
 nodes : List GNode
 spans : List JSpan
 err : Nat
 at_ : Nat
structure RK where
 A : Option Addr
 c : Nat
 ts : List JTok
 s : List Nat
 vo : Value
def NodeOw (w : World) (B : Nat) (lab : Nat → Option Nat) (i : Nat) (cs : List Value) (nd : GNode) : Prop :=
 ∃ vk vi, cs = [.int .i64 nd.kind, .string (mks nd.text), .bool nd.ord, vk, vi] ∧ w.ownsRow B 3 1 vk nd.keys.length (I64 nd.keys) ∧ w.ownsRow B 3 1 vi nd.items.length (I64 nd.items) ∧
  (∀ g, vk.ownBlock = some g → lab g = some (2 * i)) ∧ (∀ g, vi.ownBlock = some g → lab g = some (2 * i + 1))
abbrev parC (k : RK) (vn vs : Value) (st : RSt) : List Value := [.slice k.A k.ts.length k.c, .int .i64 (st.i : Int), .int .i64 0, .string (mks k.s), vn, .int .i64 0, vs, k.vo, .int .i64 (st.err : Int), .int .i64 (st.at_ : Int)]
structure RM (w : World) (B : Nat) (k : RK) (vn vs : Value) (ncs : List Value) (lab : Nat → Option Nat) (st : RSt) : Prop where
 par : Arr w B 60 [.slice k.A k.ts.length k.c, .int .i64 (st.i : Int), .int .i64 0, .string (mks k.s), vn, .int .i64 0, vs, k.vo, .int .i64 (st.err : Int), .int .i64 (st.at_ : Int)]
 tok : Rd w k.A (toksC k.ts)
 tokA : ∀ ad, k.A = some ad → (∃ g o, ad = ⟨g, o, none⟩) ∧ ad.block < B
 nod : w.ownsRow B 41 5 vn st.nodes.length ncs
 nds : ∀ i nd, st.nodes[i]? = some nd → NodeOw w B lab i ((ncs.drop (i * 5)).take 5) nd
 spn : w.ownsRow B 38 9 vs st.spans.length (spansC st.spans)
 labB : ∀ g, (lab g).isSome = true → B ≤ g ∧ g < w.heap.size
def RF (B : Nat) (vn vs : Value) (lab : Nat → Option Nat) (g : Nat) : Prop := g = B ∨ vn.ownBlock = some g ∨ vs.ownBlock = some g ∨ (lab g).isSome = true
theorem NodeOw.same {w w' : World} {B : Nat} {lab : Nat → Option Nat} {i : Nat} {cs : List Value} {nd : GNode} (h : NodeOw w B lab i cs nd)
  (hk : ∀ v n xs, w.ownsRow B 3 1 v n xs → (∀ g, v.ownBlock = some g → lab g = some (2 * i) ∨ lab g = some (2 * i + 1)) → w'.ownsRow B 3 1 v n xs) : NodeOw w' B lab i cs nd := by
 obtain ⟨vk, vi, h1, h2, h3, h4, h5⟩ := h
 exact ⟨vk, vi, h1, hk _ _ _ h2 (fun g hg => .inl (h4 g hg)), hk _ _ _ h3 (fun g hg => .inr (h5 g hg)), h4, h5⟩
section
variable {w w' : World} {B : Nat} {k : RK} {vn vs : Value} {ncs : List Value} {lab : Nat → Option Nat} {st : RSt}
theorem RM.rfB (h : RM w B k vn vs ncs lab st) : ∀ g, RF B vn vs lab g → B ≤ g := by
 rintro g (rfl | e | e | e)
 ·exact Nat.le_refl _
 ·exact (h.nod.lt g e).1
 ·exact (h.spn.lt g e).1
 ·exact (h.labB g e).1
theorem RM.rfLt (h : RM w B k vn vs ncs lab st) : ∀ g, RF B vn vs lab g → g < w.heap.size := by
 rintro g (rfl | e | e | e)
 ·exact h.par.lt
 ·exact (h.nod.lt g e).2
 ·exact (h.spn.lt g e).2
 ·exact (h.labB g e).2
theorem RM.lt (h : RM w B k vn vs ncs lab st) : B < w.heap.size := h.par.lt
theorem RM.nlen (h : RM w B k vn vs ncs lab st) : ncs.length = st.nodes.length * 5 := by have := h.nod.1; omega
theorem RM.below (h : RM w B k vn vs ncs lab st) (hb : Below w.heap.size w w') : RM w' B k vn vs ncs lab st :=
 ⟨h.par.keep hb, h.tok.keep hb, h.tokA, own_below h.nod hb, fun i nd hi => (h.nds i nd hi).same (fun _ _ _ ho _ => own_below ho hb), own_below h.spn hb, fun g hg => ⟨(h.labB g hg).1, Nat.lt_of_lt_of_le (h.labB g hg).2 hb.size⟩⟩
theorem RM.drewN (h : RM w B k vn vs ncs lab st) (n : Nat) : RM (w.drewN n) B k vn vs ncs lab st := h.below (Below.drewN' (Below.refl _ _) n)
theorem RM.drew (h : RM w B k vn vs ncs lab st) : RM w.drew B k vn vs ncs lab st := h.below (Below.drew (Below.refl _ _))
theorem RM.nodNe (h : RM w B k vn vs ncs lab st) : vn.ownBlock ≠ some B := own_arr h.nod h.par (by decide)
theorem RM.spnNe (h : RM w B k vn vs ncs lab st) : vs.ownBlock ≠ some B := own_arr h.spn h.par (by decide)
theorem RM.c0 (h : RM w B k vn vs ncs lab st) : w.cell? ⟨B, 0, none⟩ = some ((parC k vn vs st)[0]) := h.par.cell' (i := 0) rfl
theorem RM.c1 (h : RM w B k vn vs ncs lab st) : w.cell? ⟨B, 1, none⟩ = some ((parC k vn vs st)[1]) := h.par.cell' (i := 1) rfl
theorem RM.c2 (h : RM w B k vn vs ncs lab st) : w.cell? ⟨B, 2, none⟩ = some ((parC k vn vs st)[2]) := h.par.cell' (i := 2) rfl
theorem RM.c3 (h : RM w B k vn vs ncs lab st) : w.cell? ⟨B, 3, none⟩ = some ((parC k vn vs st)[3]) := h.par.cell' (i := 3) rfl
theorem RM.c4 (h : RM w B k vn vs ncs lab st) : w.cell? ⟨B, 4, none⟩ = some ((parC k vn vs st)[4]) := h.par.cell' (i := 4) rfl
theorem RM.c5 (h : RM w B k vn vs ncs lab st) : w.cell? ⟨B, 5, none⟩ = some ((parC k vn vs st)[5]) := h.par.cell' (i := 5) rfl
theorem RM.c6 (h : RM w B k vn vs ncs lab st) : w.cell? ⟨B, 6, none⟩ = some ((parC k vn vs st)[6]) := h.par.cell' (i := 6) rfl
theorem RM.c7 (h : RM w B k vn vs ncs lab st) : w.cell? ⟨B, 7, none⟩ = some ((parC k vn vs st)[7]) := h.par.cell' (i := 7) rfl
theorem RM.c8 (h : RM w B k vn vs ncs lab st) : w.cell? ⟨B, 8, none⟩ = some ((parC k vn vs st)[8]) := h.par.cell' (i := 8) rfl
theorem RM.c9 (h : RM w B k vn vs ncs lab st) : w.cell? ⟨B, 9, none⟩ = some ((parC k vn vs st)[9]) := h.par.cell' (i := 9) rfl
theorem RM.f (h : RM w B k vn vs ncs lab st) (i : Nat) : w.frozen? ⟨B, i, none⟩ = false := h.par.frozen i
theorem RM.e0 (h : RM w B k vn vs ncs lab st) (he : st.err = 0) : w.cell? ⟨B, 8, none⟩ = some (.int .i64 0) := by
 have h8 := h.c8
 have e : (parC k vn vs st)[8] = .int .i64 (st.err : Int) := rfl
 rw [e, he] at h8
 exact h8
theorem RM.parSet (h : RM w B k vn vs ncs lab st) (j : Nat) (u : Value) {st' : RSt} (hn : st'.nodes = st.nodes) (hs : st'.spans = st.spans)
  (hp : (parC k vn vs st).set j u = parC k vn vs st') : RM (w.setCell ⟨B, j, none⟩ u) B k vn vs ncs lab st' := by
 refine ⟨?_, ?_, h.tokA, ?_, ?_, ?_, fun g hg => by have := h.labB g hg; simpa [World.setCell] using this⟩
 ·have := h.par.store j u
  rw [show ([.slice k.A k.ts.length k.c, .int .i64 (st.i : Int), .int .i64 0, .string (mks k.s), vn, .int .i64 0, vs, k.vo, .int .i64 (st.err : Int), .int .i64 (st.at_ : Int)] : List Value).set j u = parC k vn vs st' from hp] at this
  exact this
 ·exact h.tok.setCell (p := ⟨B, j, none⟩) u (fun ad e => by have := (h.tokA ad e).2; show ad.block ≠ B; omega)
 ·rw [hn]; exact own_far h.nod (p := ⟨B, j, none⟩) h.nodNe u
 ·intro i nd hi
  rw [hn] at hi
  exact (h.nds i nd hi).same (fun v n xs ho _ => own_far ho (p := ⟨B, j, none⟩) (own_arr ho h.par (by decide)) u)
 ·rw [hs]; exact own_far h.spn (p := ⟨B, j, none⟩) h.spnNe u
theorem RM.setI (h : RM w B k vn vs ncs lab st) (i : Nat) : RM (w.setCell ⟨B, 1, none⟩ (.int .i64 (i : Int))) B k vn vs ncs lab { st with i := i } := h.parSet 1 _ rfl rfl rfl
theorem RM.setE (h : RM w B k vn vs ncs lab st) (e : Nat) : RM (w.setCell ⟨B, 8, none⟩ (.int .i64 (e : Int))) B k vn vs ncs lab { st with err := e } := h.parSet 8 _ rfl rfl rfl
theorem RM.setA (h : RM w B k vn vs ncs lab st) (a : Nat) : RM (w.setCell ⟨B, 9, none⟩ (.int .i64 (a : Int))) B k vn vs ncs lab { st with at_ := a } := h.parSet 9 _ rfl rfl rfl
end
section
variable {W w3 : World} {B : Nat} {k : RK} {vn vs : Value} {ncs : List Value} {lab : Nat → Option Nat} {st : RSt}
theorem pstep_set {w : World} {B : Nat} {vn vs : Value} {lab : Nat → Option Nat} {g : Nat} (hg : RF B vn vs lab g) (i : Nat) (u : Value) : PStep w (w.setCell ⟨g, i, none⟩ u) (RF B vn vs lab) (RF B vn vs lab) :=
 ⟨rfl, rfl, rfl, by simp [World.setCell], fun x hx hF => setCell_heap_ne _ _ _ (fun e => hF (by have : x = g := e; rw [this]; exact hg)), fun _ h => .inl h⟩
theorem pstep_push {o : Obj} {v u : Value} {F F' : Nat → Prop} (hgr : (W.drew.alloc o).grownBy w3 v.ownBlock) (hv : ∀ g, v.ownBlock = some g → F g) {g : Nat} (hg : F g) {i : Nat} (hF : ∀ x, F' x → F x ∨ W.heap.size ≤ x) : PStep W (w3.setCell ⟨g, i, none⟩ u) F F' := by
 have hb1 : Below W.heap.size W (W.drew.alloc o) := (Below.drew (Below.refl W.heap.size W)).alloc (Nat.le_refl _) _
 refine ⟨hgr.os.trans hb1.os, hgr.tape.trans hb1.tape, hgr.output.trans hb1.output, ?_, fun x hx hnF => ?_, hF⟩
 ·have := hgr.size; have := hb1.size; simp [World.setCell]; omega
 ·rw [setCell_heap_ne _ _ _ (fun e => hnF (by have : x = g := e; rw [this]; exact hg)), hgr.block x (Nat.lt_of_lt_of_le hx hb1.size) (fun e => hnF (hv x e.symm)), hb1.block x hx]
theorem RM.addNode (h : RM W B k vn vs ncs lab st) (nd : GNode) (hk : nd.keys = []) (hi : nd.items = []) (v' : Value)
  (hown : w3.ownsRow B 41 5 v' (st.nodes.length + 1) (ncs ++ [.int .i64 nd.kind, .string (mks nd.text), .bool nd.ord, .slice none 0 0, .slice none 0 0]))
  (hgr : (W.drew.alloc (.cells #[.int .i64 nd.kind, .string (mks nd.text), .bool nd.ord, .slice none 0 0, .slice none 0 0] 41)).grownBy w3 vn.ownBlock)
  (hat : v'.ownBlock = vn.ownBlock ∨ v'.ownBlock = some (W.drew.alloc (.cells #[.int .i64 nd.kind, .string (mks nd.text), .bool nd.ord, .slice none 0 0, .slice none 0 0] 41)).heap.size) :
  Arr w3 B 60 (parC k vn vs st) ∧
  RM (w3.setCell ⟨B, 4, none⟩ v') B k v' vs (ncs ++ [.int .i64 nd.kind, .string (mks nd.text), .bool nd.ord, .slice none 0 0, .slice none 0 0]) lab { st with nodes := st.nodes ++ [nd] } ∧ PStep W (w3.setCell ⟨B, 4, none⟩ v') (RF B vn vs lab) (RF B v' vs lab) := by
 have hlt := h.lt
 have hl := h.nlen
 have h1 := h.below ((Below.drew (Below.refl W.heap.size W)).alloc (Nat.le_refl _) (.cells #[.int .i64 nd.kind, .string (mks nd.text), .bool nd.ord, .slice none 0 0, .slice none 0 0] 41))
 have hsz : (W.drew.alloc (.cells #[.int .i64 nd.kind, .string (mks nd.text), .bool nd.ord, .slice none 0 0, .slice none 0 0] 41)).heap.size = W.heap.size + 1 := by simp
 have P3 := h1.par.grown hgr (fun e => h.nodNe e.symm)
 have hv' : v'.ownBlock ≠ some B := by
  rcases hat with e | e
  ·rw [e]; exact h.nodNe
  ·rw [e, hsz]; intro e'; have := Option.some.inj e'; omega
 have hint : ∀ v n xs, (W.drew.alloc (.cells #[.int .i64 nd.kind, .string (mks nd.text), .bool nd.ord, .slice none 0 0, .slice none 0 0] 41)).ownsRow B 3 1 v n xs → w3.ownsRow B 3 1 v n xs := fun v n xs ho => own_same ho (fun b hb => hgr.block b (ho.lt b hb).2 (fun e => by
  rcases own_ne ho h1.nod (by decide) with e2 | e2
  ·rw [e2] at hb; cases hb
  ·exact e2 (hb.trans e)))
 have hsp : w3.ownsRow B 38 9 vs st.spans.length (spansC st.spans) := own_same h1.spn (fun b hb => hgr.block b (h1.spn.lt b hb).2 (fun e => by
  rcases own_ne h1.spn h1.nod (by decide) with e2 | e2
  ·rw [e2] at hb; cases hb
  ·exact e2 (hb.trans e)))
 refine ⟨P3, ⟨?_, ?_, h.tokA, ?_, ?_, own_far hsp (p := ⟨B, 4, none⟩) h.spnNe v', fun g hg => ⟨(h.labB g hg).1, by have := (h.labB g hg).2; have := hgr.size; rw [hsz] at this; simp [World.setCell]; omega⟩⟩, pstep_push hgr (fun g e => .inr (.inl e)) (.inl rfl) ?_⟩
 ·exact P3.store 4 v'
 ·have ht : Rd w3 k.A (toksC k.ts) := h1.tok.grown hgr (fun ad e e2 => by have := (h.tokA ad e).2; have := (h.nod.lt _ e2.symm).1; omega)
  exact ht.setCell (p := ⟨B, 4, none⟩) v' (fun ad e => by have := (h.tokA ad e).2; show ad.block ≠ B; omega)
 ·rw [List.length_append]; exact own_far hown (p := ⟨B, 4, none⟩) hv' v'
 ·intro i x hx
  by_cases hlt2 : i < st.nodes.length
  ·rw [List.getElem?_append_left hlt2] at hx
   rw [List.drop_append_of_le_length (by rw [hl]; omega), List.take_append_of_le_length (by rw [List.length_drop, hl]; omega)]
   exact (h1.nds i x hx).same (fun v n xs ho _ => own_far (hint v n xs ho) (p := ⟨B, 4, none⟩) (own_arr ho h1.par (by decide)) v')
  ·have hi2 := (List.getElem?_eq_some_iff.1 hx).1
   rw [List.length_append, List.length_singleton] at hi2
   obtain rfl : i = st.nodes.length := by omega
   rw [List.getElem?_append_right (Nat.le_refl _), Nat.sub_self] at hx
   obtain rfl : nd = x := by simpa using hx
   rw [← hl, List.drop_left]
   refine ⟨.slice none 0 0, .slice none 0 0, rfl, ?_, ?_, fun g e => by simp [Value.ownBlock] at e, fun g e => by simp [Value.ownBlock] at e⟩
   ·rw [hk]; exact World.ownsRow_nil _ _ _ _
   ·rw [hi]; exact World.ownsRow_nil _ _ _ _
 ·rintro x (e | e | e | e)
  ·exact .inl (.inl e)
  ·rcases hat with e2 | e2
   ·exact .inl (.inr (.inl (e2.symm.trans e)))
   ·rw [e2, hsz] at e; have := Option.some.inj e; exact .inr (by omega)
  ·exact .inl (.inr (.inr (.inl e)))
  ·exact .inl (.inr (.inr (.inr e)))
theorem RM.addSpan (h : RM W B k vn vs ncs lab st) (s : JSpan) (v' : Value)
  (hown : w3.ownsRow B 38 9 v' (st.spans.length + 1) (spansC st.spans ++ spanC s))
  (hgr : (W.drew.alloc (.cells (spanC s).toArray 38)).grownBy w3 vs.ownBlock)
  (hat : v'.ownBlock = vs.ownBlock ∨ v'.ownBlock = some (W.drew.alloc (.cells (spanC s).toArray 38)).heap.size) :
  Arr w3 B 60 (parC k vn vs st) ∧
  RM (w3.setCell ⟨B, 6, none⟩ v') B k vn v' ncs lab { st with spans := st.spans ++ [s] } ∧ PStep W (w3.setCell ⟨B, 6, none⟩ v') (RF B vn vs lab) (RF B vn v' lab) := by
 have hlt := h.lt
 have h1 := h.below ((Below.drew (Below.refl W.heap.size W)).alloc (Nat.le_refl _) (.cells (spanC s).toArray 38))
 have hsz : (W.drew.alloc (.cells (spanC s).toArray 38)).heap.size = W.heap.size + 1 := by simp
 have P3 := h1.par.grown hgr (fun e => h.spnNe e.symm)
 have hv' : v'.ownBlock ≠ some B := by
  rcases hat with e | e
  ·rw [e]; exact h.spnNe
  ·rw [e, hsz]; intro e'; have := Option.some.inj e'; omega
 have hint : ∀ v n xs, (W.drew.alloc (.cells (spanC s).toArray 38)).ownsRow B 3 1 v n xs → w3.ownsRow B 3 1 v n xs := fun v n xs ho => own_same ho (fun b hb => hgr.block b (ho.lt b hb).2 (fun e => by
  rcases own_ne ho h1.spn (by decide) with e2 | e2
  ·rw [e2] at hb; cases hb
  ·exact e2 (hb.trans e)))
 have hnd : w3.ownsRow B 41 5 vn st.nodes.length ncs := own_same h1.nod (fun b hb => hgr.block b (h1.nod.lt b hb).2 (fun e => by
  rcases own_ne h1.nod h1.spn (by decide) with e2 | e2
  ·rw [e2] at hb; cases hb
  ·exact e2 (hb.trans e)))
 refine ⟨P3, ⟨?_, ?_, h.tokA, own_far hnd (p := ⟨B, 6, none⟩) h.nodNe v', ?_, ?_, fun g hg => ⟨(h.labB g hg).1, by have := (h.labB g hg).2; have := hgr.size; rw [hsz] at this; simp [World.setCell]; omega⟩⟩, pstep_push hgr (fun g e => .inr (.inr (.inl e))) (.inl rfl) ?_⟩
 ·exact P3.store 6 v'
 ·have ht : Rd w3 k.A (toksC k.ts) := h1.tok.grown hgr (fun ad e e2 => by have := (h.tokA ad e).2; have := (h.spn.lt _ e2.symm).1; omega)
  exact ht.setCell (p := ⟨B, 6, none⟩) v' (fun ad e => by have := (h.tokA ad e).2; show ad.block ≠ B; omega)
 ·intro i x hx
  exact (h1.nds i x hx).same (fun v n xs ho _ => own_far (hint v n xs ho) (p := ⟨B, 6, none⟩) (own_arr ho h1.par (by decide)) v')
 ·rw [List.length_append, spansC_snoc]; exact own_far hown (p := ⟨B, 6, none⟩) hv' v'
 ·rintro x (e | e | e | e)
  ·exact .inl (.inl e)
  ·exact .inl (.inr (.inl e))
  ·rcases hat with e2 | e2
   ·exact .inl (.inr (.inr (.inl (e2.symm.trans e))))
   ·rw [e2, hsz] at e; have := Option.some.inj e; exact .inr (by omega)
  ·exact .inl (.inr (.inr (.inr e)))
end
end Go.Proofs.YtbdnamcjhndpjaaGreatDoor
namespace Go.Proofs.YtbdnamcjhndpjaaGreatDoor
open Go.RowKit
theorem five_other {α : Type} (xs : List α) (n i r : Nat) (u : α) (hr : r < 5) (hi : i ≠ n) : ((xs.set (n * 5 + r) u).drop (i * 5)).take 5 = (xs.drop (i * 5)).take 5 := by
 apply List.ext_getElem?
 intro j
 rw [List.getElem?_take, List.getElem?_take]
 by_cases hj : j < 5
 ·rw [if_pos hj, if_pos hj, List.getElem?_drop, List.getElem?_drop, List.getElem?_set_ne (by omega)]
 ·rw [if_neg hj, if_neg hj]
theorem five_same {α : Type} (xs : List α) (n r : Nat) (u : α) (hr : r < 5) : ((xs.set (n * 5 + r) u).drop (n * 5)).take 5 = ((xs.drop (n * 5)).take 5).set r u := by
 rw [List.drop_set, if_neg (by omega), Nat.add_sub_cancel_left, List.take_set]
theorem set_get_eq {α : Type} {l : List α} {n i : Nat} {x y z : α} (h : l[n]? = some x) (hi : (l.set n y)[i]? = some z) : (i = n ∧ z = y) ∨ (i ≠ n ∧ l[i]? = some z) := by
 by_cases e : i = n
 ·subst e
  have hlt := (List.getElem?_eq_some_iff.1 h).1
  rw [List.getElem?_set_self hlt] at hi
  exact .inl ⟨rfl, (Option.some.inj hi).symm⟩
 ·rw [List.getElem?_set_ne (fun h => e h.symm)] at hi
  exact .inr ⟨e, hi⟩
section
variable {W w3 : World} {B : Nat} {k : RK} {vn vs : Value} {ncs : List Value} {lab : Nat → Option Nat} {st : RSt}
def labSet (lab : Nat → Option Nat) (v : Value) (t : Nat) : Nat → Option Nat := fun g => if v.ownBlock = some g then some t else lab g
theorem RM.addKeys (h : RM W B k vn vs ncs lab st) {n : Nat} {nd : GNode} (hn : st.nodes[n]? = some nd) {vk vi : Value} (hcs : (ncs.drop (n * 5)).take 5 = [.int .i64 nd.kind, .string (mks nd.text), .bool nd.ord, vk, vi])
  (h2 : W.ownsRow B 3 1 vk nd.keys.length (I64 nd.keys)) (h3 : W.ownsRow B 3 1 vi nd.items.length (I64 nd.items)) (h4 : ∀ g, vk.ownBlock = some g → lab g = some (2 * n)) (h5 : ∀ g, vi.ownBlock = some g → lab g = some (2 * n + 1))
  {gn cap : Nat} (hvn : vn = .slice (some ⟨gn, 0, none⟩) st.nodes.length cap) (x : Int) (v' : Value)
  (hown : w3.ownsRow B 3 1 v' (nd.keys.length + 1) (I64 nd.keys ++ [.int .i64 x])) (hgr : (W.drew.alloc (.cells #[.int .i64 x] 3)).grownBy w3 (vk).ownBlock)
  (hat : v'.ownBlock = (vk).ownBlock ∨ v'.ownBlock = some (W.drew.alloc (.cells #[.int .i64 x] 3)).heap.size) :
  Arr w3 B 60 (parC k vn vs st) ∧ w3.ownsRow B 41 5 vn st.nodes.length ncs ∧
  RM (w3.setCell ⟨gn, n * 5 + 3, none⟩ v') B k vn vs (ncs.set (n * 5 + 3) v') (labSet lab v' (2 * n)) { st with nodes := st.nodes.set n { nd with keys := nd.keys ++ [x] } } ∧ PStep W (w3.setCell ⟨gn, n * 5 + 3, none⟩ v') (RF B vn vs lab) (RF B vn vs (labSet lab v' (2 * n))) := by
 have hlt := h.lt
 have hl := h.nlen
 have hsz : (W.drew.alloc (.cells #[.int .i64 x] 3)).heap.size = W.heap.size + 1 := by simp
 have hb1 : Below W.heap.size W (W.drew.alloc (.cells #[.int .i64 x] 3)) := (Below.drew (Below.refl W.heap.size W)).alloc (Nat.le_refl _) _
 have h1 := h.below hb1
 have hrow := own_below h2 hb1
 have hother : ∀ {e kk v m xs}, (W.drew.alloc (.cells #[.int .i64 x] 3)).ownsRow B e kk v m xs → e ≠ 3 → w3.ownsRow B e kk v m xs := fun {e kk v m xs} ho hne => own_same ho (fun b hb => hgr.block b (ho.lt b hb).2 (fun e2 => by
  rcases own_ne ho hrow hne with e3 | e3
  ·rw [e3] at hb; cases hb
  ·exact e3 (hb.trans e2)))
 have hpar : Arr w3 B 60 (parC k vn vs st) := h1.par.grown hgr (fun e => own_arr hrow h1.par (by decide) e.symm)
 have hnod := hother h1.nod (by decide)
 have hspn := hother h1.spn (by decide)
 have htok : Rd w3 k.A (toksC k.ts) := h1.tok.grown hgr (fun ad e e2 => by have := (h.tokA ad e).2; have := (h2.lt _ e2.symm).1; omega)
 have hgB : B ≤ gn := (h.nod.lt gn (by rw [hvn]; rfl)).1
 have hint : ∀ v m xs t, W.ownsRow B 3 1 v m xs → (∀ g, v.ownBlock = some g → lab g = some t) → t ≠ 2 * n →
   (w3.setCell ⟨gn, n * 5 + 3, none⟩ v').ownsRow B 3 1 v m xs ∧ (∀ g, v.ownBlock = some g → labSet lab v' (2 * n) g = some t) := by
  intro v m xs t ho hlab ht
  have ho1 := own_below ho hb1
  have ho3 : w3.ownsRow B 3 1 v m xs := own_same ho1 (fun b hb => hgr.block b (ho1.lt b hb).2 (fun e2 => by
   have h6 := hlab b hb
   have h7 := h4 b e2.symm
   rw [h6] at h7
   exact ht (Option.some.inj h7)))
  refine ⟨own_far ho3 (p := ⟨gn, n * 5 + 3, none⟩) (fun e => ?_) v', fun g hg => ?_⟩
  ·rcases own_ne ho3 hnod (by decide) with e3 | e3
   ·rw [e3] at e; cases e
   ·exact e3 (e.trans (by rw [hvn]; rfl))
  ·unfold labSet
   by_cases e : v'.ownBlock = some g
   ·exfalso
    rcases hat with e2 | e2
    ·have h6 := hlab g hg
     have h7 := h4 g (e2.symm.trans e)
     rw [h6] at h7
     exact ht (Option.some.inj h7)
    ·rw [e2, hsz] at e
     have := (ho.lt g hg).2
     have := Option.some.inj e
     omega
   ·rw [if_neg e]; exact hlab g hg
 have hnew : (w3.setCell ⟨gn, n * 5 + 3, none⟩ v').ownsRow B 3 1 v' (nd.keys ++ [x]).length (I64 (nd.keys ++ [x])) ∧ (∀ g, v'.ownBlock = some g → labSet lab v' (2 * n) g = some (2 * n)) := by
  refine ⟨?_, fun g hg => by unfold labSet; rw [if_pos hg]⟩
  rw [List.length_append, ← I64_app]
  refine own_far hown (p := ⟨gn, n * 5 + 3, none⟩) (fun e => ?_) v'
  rcases own_ne hown hnod (by decide) with e3 | e3
  ·rw [e3] at e; cases e
  ·exact e3 (e.trans (by rw [hvn]; rfl))
 refine ⟨hpar, hnod, ⟨?_, ?_, h.tokA, ?_, ?_, ?_, ?_⟩, pstep_push hgr (fun g e => .inr (.inr (.inr (by rw [h4 g e]; rfl)))) (.inr (.inl (by rw [hvn]; rfl))) ?_⟩
 ·exact hpar.far (p := ⟨gn, n * 5 + 3, none⟩) (fun e => h.nodNe (by rw [hvn]; exact congrArg some e.symm)) v'
 ·exact htok.setCell (p := ⟨gn, n * 5 + 3, none⟩) v' (fun ad e => by have := (h.tokA ad e).2; show ad.block ≠ gn; omega)
 ·rw [List.length_set]
  rw [hvn] at hnod ⊢
  exact own_put hnod _ _
 ·intro i y hy
  rcases set_get_eq hn hy with ⟨rfl, rfl⟩ | ⟨hne, hy⟩
  ·rw [five_same _ _ _ _ (by decide), hcs]
   refine ⟨v', vi, rfl, hnew.1, (hint _ _ _ (2 * i + 1) h3 h5 (by omega)).1, hnew.2, (hint _ _ _ (2 * i + 1) h3 h5 (by omega)).2⟩
  ·rw [five_other _ _ _ _ _ (by decide) hne]
   obtain ⟨ak, ai, a1, a2, a3, a4, a5⟩ := h.nds i y hy
   obtain ⟨b2, b4⟩ := hint _ _ _ (2 * i) a2 a4 (by omega)
   obtain ⟨b3, b5⟩ := hint _ _ _ (2 * i + 1) a3 a5 (by omega)
   exact ⟨ak, ai, a1, b2, b3, b4, b5⟩
 ·exact own_far hspn (p := ⟨gn, n * 5 + 3, none⟩) (fun e => by
   rcases own_ne hspn hnod (by decide) with e3 | e3
   ·rw [e3] at e; cases e
   ·exact e3 (e.trans (by rw [hvn]; rfl))) v'
 ·intro g hg
  have hsz3 := hgr.size
  rw [hsz] at hsz3
  have hs4 : (w3.setCell ⟨gn, n * 5 + 3, none⟩ v').heap.size = w3.heap.size := by simp [World.setCell]
  unfold labSet at hg
  by_cases e : v'.ownBlock = some g
  ·have := hown.lt g e
   exact ⟨this.1, by omega⟩
  ·rw [if_neg e] at hg
   have := h.labB g hg
   exact ⟨this.1, by omega⟩
 ·rintro y (e | e | e | e)
  ·exact .inl (.inl e)
  ·exact .inl (.inr (.inl e))
  ·exact .inl (.inr (.inr (.inl e)))
  ·unfold labSet at e
   by_cases e1 : v'.ownBlock = some y
   ·rcases hat with e2 | e2
    ·exact .inl (.inr (.inr (.inr (by rw [h4 y (e2.symm.trans e1)]; rfl))))
    ·rw [e2, hsz] at e1; have := Option.some.inj e1; exact .inr (by omega)
   ·rw [if_neg e1] at e; exact .inl (.inr (.inr (.inr e)))
theorem RM.addItems (h : RM W B k vn vs ncs lab st) {n : Nat} {nd : GNode} (hn : st.nodes[n]? = some nd) {vk vi : Value} (hcs : (ncs.drop (n * 5)).take 5 = [.int .i64 nd.kind, .string (mks nd.text), .bool nd.ord, vk, vi])
  (h2 : W.ownsRow B 3 1 vk nd.keys.length (I64 nd.keys)) (h3 : W.ownsRow B 3 1 vi nd.items.length (I64 nd.items)) (h4 : ∀ g, vk.ownBlock = some g → lab g = some (2 * n)) (h5 : ∀ g, vi.ownBlock = some g → lab g = some (2 * n + 1))
  {gn cap : Nat} (hvn : vn = .slice (some ⟨gn, 0, none⟩) st.nodes.length cap) (x : Int) (v' : Value)
  (hown : w3.ownsRow B 3 1 v' (nd.items.length + 1) (I64 nd.items ++ [.int .i64 x])) (hgr : (W.drew.alloc (.cells #[.int .i64 x] 3)).grownBy w3 (vi).ownBlock)
  (hat : v'.ownBlock = (vi).ownBlock ∨ v'.ownBlock = some (W.drew.alloc (.cells #[.int .i64 x] 3)).heap.size) :
  Arr w3 B 60 (parC k vn vs st) ∧ w3.ownsRow B 41 5 vn st.nodes.length ncs ∧
  RM (w3.setCell ⟨gn, n * 5 + 4, none⟩ v') B k vn vs (ncs.set (n * 5 + 4) v') (labSet lab v' (2 * n + 1)) { st with nodes := st.nodes.set n { nd with items := nd.items ++ [x] } } ∧ PStep W (w3.setCell ⟨gn, n * 5 + 4, none⟩ v') (RF B vn vs lab) (RF B vn vs (labSet lab v' (2 * n + 1))) := by
 have hlt := h.lt
 have hl := h.nlen
 have hsz : (W.drew.alloc (.cells #[.int .i64 x] 3)).heap.size = W.heap.size + 1 := by simp
 have hb1 : Below W.heap.size W (W.drew.alloc (.cells #[.int .i64 x] 3)) := (Below.drew (Below.refl W.heap.size W)).alloc (Nat.le_refl _) _
 have h1 := h.below hb1
 have hrow := own_below h3 hb1
 have hother : ∀ {e kk v m xs}, (W.drew.alloc (.cells #[.int .i64 x] 3)).ownsRow B e kk v m xs → e ≠ 3 → w3.ownsRow B e kk v m xs := fun {e kk v m xs} ho hne => own_same ho (fun b hb => hgr.block b (ho.lt b hb).2 (fun e2 => by
  rcases own_ne ho hrow hne with e3 | e3
  ·rw [e3] at hb; cases hb
  ·exact e3 (hb.trans e2)))
 have hpar : Arr w3 B 60 (parC k vn vs st) := h1.par.grown hgr (fun e => own_arr hrow h1.par (by decide) e.symm)
 have hnod := hother h1.nod (by decide)
 have hspn := hother h1.spn (by decide)
 have htok : Rd w3 k.A (toksC k.ts) := h1.tok.grown hgr (fun ad e e2 => by have := (h.tokA ad e).2; have := (h3.lt _ e2.symm).1; omega)
 have hgB : B ≤ gn := (h.nod.lt gn (by rw [hvn]; rfl)).1
 have hint : ∀ v m xs t, W.ownsRow B 3 1 v m xs → (∀ g, v.ownBlock = some g → lab g = some t) → t ≠ 2 * n + 1 →
   (w3.setCell ⟨gn, n * 5 + 4, none⟩ v').ownsRow B 3 1 v m xs ∧ (∀ g, v.ownBlock = some g → labSet lab v' (2 * n + 1) g = some t) := by
  intro v m xs t ho hlab ht
  have ho1 := own_below ho hb1
  have ho3 : w3.ownsRow B 3 1 v m xs := own_same ho1 (fun b hb => hgr.block b (ho1.lt b hb).2 (fun e2 => by
   have h6 := hlab b hb
   have h7 := h5 b e2.symm
   rw [h6] at h7
   exact ht (Option.some.inj h7)))
  refine ⟨own_far ho3 (p := ⟨gn, n * 5 + 4, none⟩) (fun e => ?_) v', fun g hg => ?_⟩
  ·rcases own_ne ho3 hnod (by decide) with e3 | e3
   ·rw [e3] at e; cases e
   ·exact e3 (e.trans (by rw [hvn]; rfl))
  ·unfold labSet
   by_cases e : v'.ownBlock = some g
   ·exfalso
    rcases hat with e2 | e2
    ·have h6 := hlab g hg
     have h7 := h5 g (e2.symm.trans e)
     rw [h6] at h7
     exact ht (Option.some.inj h7)
    ·rw [e2, hsz] at e
     have := (ho.lt g hg).2
     have := Option.some.inj e
     omega
   ·rw [if_neg e]; exact hlab g hg
 have hnew : (w3.setCell ⟨gn, n * 5 + 4, none⟩ v').ownsRow B 3 1 v' (nd.items ++ [x]).length (I64 (nd.items ++ [x])) ∧ (∀ g, v'.ownBlock = some g → labSet lab v' (2 * n + 1) g = some (2 * n + 1)) := by
  refine ⟨?_, fun g hg => by unfold labSet; rw [if_pos hg]⟩
  rw [List.length_append, ← I64_app]
  refine own_far hown (p := ⟨gn, n * 5 + 4, none⟩) (fun e => ?_) v'
  rcases own_ne hown hnod (by decide) with e3 | e3
  ·rw [e3] at e; cases e
  ·exact e3 (e.trans (by rw [hvn]; rfl))
 refine ⟨hpar, hnod, ⟨?_, ?_, h.tokA, ?_, ?_, ?_, ?_⟩, pstep_push hgr (fun g e => .inr (.inr (.inr (by rw [h5 g e]; rfl)))) (.inr (.inl (by rw [hvn]; rfl))) ?_⟩
 ·exact hpar.far (p := ⟨gn, n * 5 + 4, none⟩) (fun e => h.nodNe (by rw [hvn]; exact congrArg some e.symm)) v'
 ·exact htok.setCell (p := ⟨gn, n * 5 + 4, none⟩) v' (fun ad e => by have := (h.tokA ad e).2; show ad.block ≠ gn; omega)
 ·rw [List.length_set]
  rw [hvn] at hnod ⊢
  exact own_put hnod _ _
 ·intro i y hy
  rcases set_get_eq hn hy with ⟨rfl, rfl⟩ | ⟨hne, hy⟩
  ·rw [five_same _ _ _ _ (by decide), hcs]
   refine ⟨vk, v', rfl, (hint _ _ _ (2 * i) h2 h4 (by omega)).1, hnew.1, (hint _ _ _ (2 * i) h2 h4 (by omega)).2, hnew.2⟩
  ·rw [five_other _ _ _ _ _ (by decide) hne]
   obtain ⟨ak, ai, a1, a2, a3, a4, a5⟩ := h.nds i y hy
   obtain ⟨b2, b4⟩ := hint _ _ _ (2 * i) a2 a4 (by omega)
   obtain ⟨b3, b5⟩ := hint _ _ _ (2 * i + 1) a3 a5 (by omega)
   exact ⟨ak, ai, a1, b2, b3, b4, b5⟩
 ·exact own_far hspn (p := ⟨gn, n * 5 + 4, none⟩) (fun e => by
   rcases own_ne hspn hnod (by decide) with e3 | e3
   ·rw [e3] at e; cases e
   ·exact e3 (e.trans (by rw [hvn]; rfl))) v'
 ·intro g hg
  have hsz3 := hgr.size
  rw [hsz] at hsz3
  have hs4 : (w3.setCell ⟨gn, n * 5 + 4, none⟩ v').heap.size = w3.heap.size := by simp [World.setCell]
  unfold labSet at hg
  by_cases e : v'.ownBlock = some g
  ·have := hown.lt g e
   exact ⟨this.1, by omega⟩
  ·rw [if_neg e] at hg
   have := h.labB g hg
   exact ⟨this.1, by omega⟩
 ·rintro y (e | e | e | e)
  ·exact .inl (.inl e)
  ·exact .inl (.inr (.inl e))
  ·exact .inl (.inr (.inr (.inl e)))
  ·unfold labSet at e
   by_cases e1 : v'.ownBlock = some y
   ·rcases hat with e2 | e2
    ·exact .inl (.inr (.inr (.inr (by rw [h5 y (e2.symm.trans e1)]; rfl))))
    ·rw [e2, hsz] at e1; have := Option.some.inj e1; exact .inr (by omega)
   ·rw [if_neg e1] at e; exact .inl (.inr (.inr (.inr e)))
theorem RM.spanSet (h : RM W B k vn vs ncs lab st) {gs cap : Nat} (hvs : vs = .slice (some ⟨gs, 0, none⟩) st.spans.length cap) (j : Nat) (u : Value) (sp : List JSpan) (hsl : sp.length = st.spans.length) (hsp : (spansC st.spans).set j u = spansC sp) :
  RM (W.setCell ⟨gs, j, none⟩ u) B k vn vs ncs lab { st with spans := sp } ∧ PStep W (W.setCell ⟨gs, j, none⟩ u) (RF B vn vs lab) (RF B vn vs lab) := by
 have hgB : B ≤ gs := (h.spn.lt gs (by rw [hvs]; rfl)).1
 have hfar : ∀ {e kk v m xs}, W.ownsRow B e kk v m xs → e ≠ 38 → (W.setCell ⟨gs, j, none⟩ u).ownsRow B e kk v m xs := fun {e kk v m xs} ho hne => own_far ho (p := ⟨gs, j, none⟩) (fun e2 => by
  rcases own_ne ho h.spn hne with e3 | e3
  ·rw [e3] at e2; cases e2
  ·exact e3 (e2.trans (by rw [hvs]; rfl))) u
 refine ⟨⟨?_, ?_, h.tokA, hfar h.nod (by decide), fun i y hy => (h.nds i y hy).same (fun v m xs ho _ => hfar ho (by decide)), ?_, fun g hg => by have := h.labB g hg; simpa [World.setCell] using this⟩, pstep_set (.inr (.inr (.inl (by rw [hvs]; rfl)))) j u⟩
 ·exact h.par.far (p := ⟨gs, j, none⟩) (fun e => h.spnNe (by rw [hvs]; exact congrArg some e.symm)) u
 ·exact h.tok.setCell (p := ⟨gs, j, none⟩) u (fun ad e => by have := (h.tokA ad e).2; show ad.block ≠ gs; omega)
 ·have h1 := h.spn
  rw [hvs] at h1 ⊢
  show (W.setCell ⟨gs, j, none⟩ u).ownsRow B 38 9 (.slice (some ⟨gs, 0, none⟩) st.spans.length cap) sp.length (spansC sp)
  rw [← hsp, hsl]
  exact own_put h1 j u
end
end Go.Proofs.YtbdnamcjhndpjaaGreatDoor
namespace Go.Proofs.YtbdnamcjhndpjaaGreatDoor
open Go.RowKit
structure RLoop where
 l : List JTok
 dn : List GNode
 ds : List JSpan
 ks : List (List Nat)
 keys : List Int
 items : List Int
def rcommaV (en : Nat) (x : RLoop) : Except PErr RLoop :=
 if x.items.length = 0 then .ok x else if isV x.l [44] then .ok { x with l := x.l.drop 1 } else .error (offV en x.l, 4)
def rkeyV (en d n1 : Nat) (x : RLoop) (s : JSpan) : Except PErr (RLoop × JSpan) :=
 match x.l with
 | [] => .error (en, 4)
 | t :: r =>
  if t.kind ≠ 2 then .error (t.from_, 4)
  else if 32 < d + 1 then .error (t.from_, 5)
  else if 4096 ≤ n1 + x.dn.length then .error (t.from_, 7)
  else if t.text ∈ x.ks then .error (t.from_, 8)
  else if isV r [58] then .ok (⟨r.drop 1, x.dn ++ [⟨5, t.text, false, [], []⟩], x.ds, x.ks ++ [t.text], x.keys ++ [((n1 + x.dn.length : Nat) : Int)], x.items⟩, { s with kf := t.from_, kt := t.to_ })
  else .error (offV en r, 4)
mutual
def rvalV (en : Nat) : Nat → List JTok → Nat → Nat → JSpan → Nat → Except PErr (List JTok × List GNode × List JSpan)
 | 0, _, _, _, _, _ => .error (0, 0)
 | f + 1, l, n0, s0, s, d =>
  match l with
  | [] => .error (en, 4)
  | t :: r =>
   if t.kind = 1 ∧ ¬ t.text = [91] ∧ ¬ t.text = [123] then .error (t.from_, 4)
   else if 32 < d then .error (t.from_, 5)
   else if 4096 ≤ n0 then .error (t.from_, 7)
   else if t.kind = 1 then
    match ritemsV en f (decide (t.text = [123])) s0 d (n0 + 1) (s0 + 1) ⟨r, [], [], [], [], []⟩ with
    | .error e => .error e
    | .ok x => .ok (x.l.drop 1, ⟨if t.text = [123] then 10 else 9, [], false, x.keys, x.items⟩ :: x.dn, { s with node := n0, from_ := t.from_, whole := true, to_ := (x.l.head?.map (·.to_)).getD 0 } :: x.ds)
   else match scalarV t with
    | none => .error (t.from_, 12)
    | some nd => .ok (r, [nd], [{ s with node := n0, from_ := t.from_, to_ := t.to_, whole := true }])
def ritemsV (en : Nat) : Nat → Bool → Nat → Nat → Nat → Nat → RLoop → Except PErr RLoop
 | 0, _, _, _, _, _, _ => .error (0, 0)
 | f + 1, obj, k, d, n1, s1, x =>
  if isV x.l (if obj then [125] else [93]) then .ok x
  else match rcommaV en x with
  | .error e => .error e
  | .ok y =>
   match (if obj then rkeyV en d n1 y ⟨0, k, x.items.length, 0, 0, 0, 0, false, false⟩ else .ok (y, ⟨0, k, x.items.length, 0, 0, 0, 0, false, false⟩)) with
   | .error e => .error e
   | .ok (z, s) =>
    match rvalV en f z.l (n1 + z.dn.length) (s1 + z.ds.length) s (d + 1) with
    | .error e => .error e
    | .ok (l, dn, ds) => ritemsV en f obj k d n1 s1 ⟨l, z.dn ++ dn, z.ds ++ ds, z.ks, z.keys, z.items ++ [((n1 + z.dn.length : Nat) : Int)]⟩
end
def backL (N : List GNode) (S : List JSpan) (x : RLoop) : PLoop := ⟨⟨x.l, N ++ x.dn, S ++ x.ds⟩, x.ks, x.keys, x.items⟩
def mapE {α β : Type} (g : α → β) : Except PErr α → Except PErr β
 | .error e => .error e
 | .ok x => .ok (g x)
theorem rcomma_law (en : Nat) (N : List GNode) (S : List JSpan) (x : RLoop) : commaV en (backL N S x) = mapE (backL N S) (rcommaV en x) := by
 unfold commaV rcommaV
 show (if x.items.length = 0 then _ else if isV x.l [44] = true then _ else _) = _
 by_cases h1 : x.items.length = 0
 ·rw [if_pos h1, if_pos h1]; rfl
 ·rw [if_neg h1, if_neg h1]
  by_cases h2 : isV x.l [44] = true
  ·rw [if_pos h2, if_pos h2]; rfl
  ·rw [if_neg h2, if_neg h2]; rfl
theorem rkey_law (en d : Nat) (N : List GNode) (S : List JSpan) (x : RLoop) (s : JSpan) : keyV en d (backL N S x) s = mapE (fun p => (backL N S p.1, p.2)) (rkeyV en d N.length x s) := by
 unfold keyV rkeyV
 obtain ⟨l, dn, ds, ks, keys, items⟩ := x
 cases l with
 | nil => rfl
 | cons t r =>
  show (if t.kind ≠ 2 then _ else if 32 < d + 1 then _ else if 4096 ≤ (N ++ dn).length then _ else if t.text ∈ ks then _ else if isV r [58] = true then _ else _) = _
  simp only
  rw [List.length_append]
  by_cases h1 : t.kind ≠ 2
  ·rw [if_pos h1, if_pos h1]; rfl
  rw [if_neg h1, if_neg h1]
  by_cases h2 : 32 < d + 1
  ·rw [if_pos h2, if_pos h2]; rfl
  rw [if_neg h2, if_neg h2]
  by_cases h3 : 4096 ≤ N.length + dn.length
  ·rw [if_pos h3, if_pos h3]; rfl
  rw [if_neg h3, if_neg h3]
  by_cases h4 : t.text ∈ ks
  ·rw [if_pos h4, if_pos h4]; rfl
  rw [if_neg h4, if_neg h4]
  by_cases h5 : isV r [58] = true
  ·rw [if_pos h5, if_pos h5]
   show Except.ok (_, _) = Except.ok (_, _)
   unfold backL
   simp [List.append_assoc]
  ·rw [if_neg h5, if_neg h5]; rfl
theorem set_mid' {α : Type} (N : List α) (x y : α) (D : List α) : ((N ++ [x]) ++ D).set N.length y = N ++ y :: D := by
 rw [List.append_assoc, List.set_append_right _ _ (Nat.le_refl _), Nat.sub_self]; rfl
theorem modify_mid {α : Type} (N : List α) (x : α) (D : List α) (f : α → α) : ((N ++ [x]) ++ D).modify N.length f = N ++ f x :: D := by
 induction N with
 | nil => rfl
 | cons a N ih => simp only [List.cons_append, List.length_cons, List.modify_succ_cons]; rw [ih]
theorem rval_law (en : Nat) (f : Nat) :
  (∀ l (N : List GNode) (S : List JSpan) s d, valueV en f ⟨l, N, S⟩ s d = mapE (fun p => ((N.length : Int), (⟨p.1, N ++ p.2.1, S ++ p.2.2⟩ : PSt))) (rvalV en f l N.length S.length s d)) ∧
  (∀ obj k d (N : List GNode) (S : List JSpan) x, itemsV en f obj k d (backL N S x) = mapE (backL N S) (ritemsV en f obj k d N.length S.length x)) := by
 induction f with
 | zero => exact ⟨fun l N S s d => by rw [valueV, rvalV]; rfl, fun obj k d N S x => by rw [itemsV, ritemsV]; rfl⟩
 | succ f ih =>
  constructor
  ·intro l N S s d
   cases l with
   | nil => rw [valueV, rvalV]; rfl
   | cons t r =>
    rw [valueV, rvalV]
    simp only
    by_cases h1 : t.kind = 1 ∧ ¬ t.text = [91] ∧ ¬ t.text = [123]
    ·rw [if_pos h1, if_pos h1]; rfl
    rw [if_neg h1, if_neg h1]
    by_cases h2 : 32 < d
    ·rw [if_pos h2, if_pos h2]; rfl
    rw [if_neg h2, if_neg h2]
    by_cases h3 : 4096 ≤ N.length
    ·rw [if_pos h3, if_pos h3]; rfl
    rw [if_neg h3, if_neg h3]
    by_cases h4 : t.kind = 1
    ·rw [if_pos h4, if_pos h4]
     have hi := ih.2 (decide (t.text = [123])) S.length d (N ++ [⟨if t.text = [123] then 10 else 9, [], false, [], []⟩]) (S ++ [{ s with node := N.length, from_ := t.from_, whole := true }]) ⟨r, [], [], [], [], []⟩
     unfold backL at hi
     simp only [List.append_nil, List.length_append, List.length_singleton] at hi
     rw [hi]
     cases ritemsV en f (decide (t.text = [123])) S.length d (N.length + 1) (S.length + 1) ⟨r, [], [], [], [], []⟩ with
     | error e => rfl
     | ok x =>
      show Except.ok (_, _) = Except.ok (_, _)
      simp only
      rw [set_mid', modify_mid]
    ·rw [if_neg h4, if_neg h4]
     cases scalarV t <;> rfl
  ·intro obj k d N S x
   rw [itemsV, ritemsV]
   show (if isV x.l (if obj = true then [125] else [93]) = true then _ else _) = _
   by_cases hc : isV x.l (if obj = true then [125] else [93]) = true
   ·rw [if_pos hc, if_pos hc]; rfl
   rw [if_neg hc, if_neg hc, rcomma_law]
   cases rcommaV en x with
   | error e => rfl
   | ok y =>
    show (match (if obj = true then keyV en d (backL N S y) ⟨0, k, x.items.length, 0, 0, 0, 0, false, false⟩ else .ok (backL N S y, ⟨0, k, x.items.length, 0, 0, 0, 0, false, false⟩)) with
     | .error e => (.error e : Except PErr PLoop)
     | .ok (z, s) => match valueV en f z.st s (d + 1) with | .error e => (.error e : Except PErr PLoop) | .ok (v, st) => itemsV en f obj k d ⟨st, z.ks, z.keys, z.items ++ [v]⟩) = _
    have fin : ∀ (z : RLoop) (s : JSpan), (match valueV en f (backL N S z).st s (d + 1) with | .error e => (.error e : Except PErr PLoop) | .ok (v, st) => itemsV en f obj k d ⟨st, (backL N S z).ks, (backL N S z).keys, (backL N S z).items ++ [v]⟩) =
      mapE (backL N S) (match rvalV en f z.l (N.length + z.dn.length) (S.length + z.ds.length) s (d + 1) with | .error e => (.error e : Except PErr RLoop) | .ok (l, dn, ds) => ritemsV en f obj k d N.length S.length ⟨l, z.dn ++ dn, z.ds ++ ds, z.ks, z.keys, z.items ++ [((N.length + z.dn.length : Nat) : Int)]⟩) := by
     intro z s
     have hv := ih.1 z.l (N ++ z.dn) (S ++ z.ds) s (d + 1)
     rw [List.length_append, List.length_append] at hv
     show (match valueV en f ⟨z.l, N ++ z.dn, S ++ z.ds⟩ s (d + 1) with | .error e => (.error e : Except PErr PLoop) | .ok (v, st) => itemsV en f obj k d ⟨st, z.ks, z.keys, z.items ++ [v]⟩) = _
     rw [hv]
     cases rvalV en f z.l (N.length + z.dn.length) (S.length + z.ds.length) s (d + 1) with
     | error e => rfl
     | ok p =>
      obtain ⟨l, dn, ds⟩ := p
      have h2 := ih.2 obj k d N S ⟨l, z.dn ++ dn, z.ds ++ ds, z.ks, z.keys, z.items ++ [((N.length + z.dn.length : Nat) : Int)]⟩
      unfold backL at h2
      simp only [mapE]
      rw [List.append_assoc, List.append_assoc]
      exact h2
    cases obj with
    | false => exact fin y _
    | true =>
     simp only [if_true]
     rw [rkey_law]
     cases rkeyV en d N.length y ⟨0, k, x.items.length, 0, 0, 0, 0, false, false⟩ with
     | error e => rfl
     | ok p => obtain ⟨z, s⟩ := p; exact fin z s
end Go.Proofs.YtbdnamcjhndpjaaGreatDoor
namespace Go.Proofs.YtbdnamcjhndpjaaGreatDoor
open Go.RowKit
def tokAt (k : RK) (i : Nat) : JTok := match k.ts.drop i with
 | t :: _ => t
 | [] => ⟨0, k.s.length, k.s.length, []⟩
theorem Tryz.sz62 : (Tryz.prog.info? 62).map (·.size) = some 4 := by kernel_rfl
def TokenR (w : World) (t : JTok) (e : Ending) (w' : World) : Prop := e = .returned (.agg #[.int .i64 (t.kind : Int), .int .i64 (t.from_ : Int), .int .i64 (t.to_ : Int), .string (mks t.text)]) ∧ Below w.heap.size w w'
theorem tok_cells (t : JTok) (l : List JTok) : ∀ i, l[i]? = some t → ∀ j, j < 4 → (toksC l)[i * 4 + j]? = (tokC t)[j]? := by
 induction l with
 | nil => intro i h; cases h
 | cons a l ih =>
  intro i h j hj
  rw [toksC_cons]
  cases i with
  | zero =>
   obtain rfl : a = t := by simpa using h
   rw [List.getElem?_append_left (by show 0 * 4 + j < 4; omega)]
   congr 1; omega
  | succ i =>
   rw [List.getElem?_append_right (by show 4 ≤ (i + 1) * 4 + j; omega)]
   have := ih i (by simpa using h) j hj
   rw [← this]
   congr 1
   show (i + 1) * 4 + j - 4 = i * 4 + j
   omega
theorem RM.tokCell {w : World} {B : Nat} {k : RK} {vn vs : Value} {ncs : List Value} {lab : Nat → Option Nat} {st : RSt} (h : RM w B k vn vs ncs lab st) {i : Nat} {t : JTok} (ht : k.ts[i]? = some t) :
  ∃ g o, k.A = some ⟨g, o, none⟩ ∧ g < B ∧ w.rangeAt g (o + i * 4) (tokC t) := by
 have h0 := tok_cells t k.ts i ht 0 (by omega)
 obtain ⟨ad, e, _⟩ := h.tok (i * 4 + 0) (.int .i64 (t.kind : Int)) h0
 obtain ⟨⟨g, o, rfl⟩, hg⟩ := h.tokA ad e
 refine ⟨g, o, e, hg, fun j v hj => ?_⟩
 have hj4 : j < 4 := (List.getElem?_eq_some_iff.1 hj).1
 obtain ⟨ad2, e2, hc⟩ := h.tok (i * 4 + j) v ((tok_cells t k.ts i ht j hj4).trans hj)
 rw [e] at e2
 obtain rfl := Option.some.inj e2
 rw [Addr.add_mid] at hc
 rw [Nat.add_assoc]
 exact hc
set_option maxRecDepth 8000 in
set_option maxHeartbeats 4000000 in
theorem ptoken_any {w : World} {B : Nat} {k : RK} {vn vs : Value} {ncs : List Value} {lab : Nat → Option Nat} {st : RSt} (h : RM w B k vn vs ncs lab st) (hi : st.i ≤ 100000000) (hl : k.ts.length ≤ 100000000) (hs : k.s.length ≤ 100000000) :
  Calls Tryz.prog 14 #[.pointer (some ⟨B, 0, none⟩)] w (TokenR w (tokAt k st.i)) := by
 have HX := Lib.hid (Arr.new w 62 zTok)
 have HBd : Below w.heap.size w (w.alloc (.cells #[.int .i64 0, .int .i64 0, .int .i64 0, .string ⟨#[]⟩] 62)) := (Below.refl _ _).alloc (Nat.le_refl _) _
 change Hid (Arr (w.alloc (.cells #[.int .i64 0, .int .i64 0, .int .i64 0, .string ⟨#[]⟩] 62)) w.heap.size 62 zTok) at HX
 have hBw := h.lt
 go_enter Tryz.func14, Tryz.ntmps14
 go_upto_region 1 with (fail)
 have hW := h.below HBd
 have hlow : w.heap.size < (w.alloc (.cells #[.int .i64 0, .int .i64 0, .int .i64 0, .string ⟨#[]⟩] 62)).heap.size := HX.out.lt
 generalize (w.alloc (.cells #[.int .i64 0, .int .i64 0, .int .i64 0, .string ⟨#[]⟩] 62)) = W at *
 have c0 := hW.c0
 have c1 := hW.c1
 by_cases hlt : st.i < k.ts.length
 ·obtain ⟨t, ht⟩ : ∃ t, k.ts[st.i]? = some t := ⟨_, List.getElem?_eq_getElem hlt⟩
  have htk : tokAt k st.i = t := by unfold tokAt; rw [List.drop_eq_getElem_cons hlt]; rw [List.getElem?_eq_getElem hlt] at ht; exact Option.some.inj ht
  have HT := Lib.hid htk
  obtain ⟨g, o, hA, hg, hR⟩ := hW.tokCell ht
  have hlt' : (st.i : Int) < k.ts.length := by omega
  go_quiet (fail)
  have hW1 := hW.drewN nq
  have hR1 : Hid ((W.drewN nq).rangeAt g (o + st.i * 4) (tokC t)) := hR
  have HX1 : Hid (Arr (W.drewN nq) w.heap.size 62 zTok) := HX.out
  have hb1 : Below w.heap.size w (W.drewN nq) := Below.drewN' HBd nq
  have hlow1 : w.heap.size < (W.drewN nq).heap.size := hlow
  clear c0 c1 hW HX HBd hR htk ht
  generalize W.drewN nq = W1 at *
  have c0 := hW1.c0
  have c1 := hW1.c1
  have r0 := hR1.out 0 _ rfl
  have r1 := hR1.out 1 _ rfl
  have r2 := hR1.out 2 _ rfl
  have r3 := hR1.out 3 _ rfl
  go_upto_region 2 with (fail)
  go_still_tail 9, (by kernel_rfl)
  change wpList _ _ _ _ _ W1.drew
  have hRd : Hid (W1.drew.rangeAt g (o + st.i * 4) (tokC t)) := hR1
  have HXd : Hid (Arr W1.drew w.heap.size 62 zTok) := HX1
  go_wp2_with (first | ((with_reducible show wpList _ _ _ (Oper.mk _ (Op.load 62 (Operand.tmp 21)) _ _ _ _ :: _) _ _); go_loud (refine wpList_load_mid rfl 62 (.tmp 21) rfl (g) (o + st.i * 4) rfl (tokC t) _ (hRd.out) Tryz.underlying62 rfl Tryz.sz62 ?_)) | ((with_reducible show wpList _ _ _ (Oper.mk none (Op.store 62 (Operand.tmp 2) (Operand.tmp 22)) _ _ _ _ :: _) _ _); go_loud (refine wpList_sr rfl rfl 62 (.tmp 2) (.tmp 22) rfl (w.heap.size) (tokC t) rfl rfl 62 _ HXd.out _ Tryz.sz62 (by first | rfl | simp) (by first | rfl | simp) (by first | rfl | simp [Value.oneCell']) ?_; intro w2 hr2 hg2 hz2)))
  have s0 := hr2.out.cell' (i := 0) rfl
  have s1 := hr2.out.cell' (i := 1) rfl
  have s2 := hr2.out.cell' (i := 2) rfl
  have s3 := hr2.out.cell' (i := 3) rfl
  refine bodyPost_ret (v := .agg (tokC t).toArray) (by simp [results, Tryz.results14, go_sem, s0, s1, s2, s3]; rfl) rfl ?_
  have hbd : Below w.heap.size w W1.drew := Below.drew hb1
  exact ⟨by first | (rw [HT.out]; done) | (rw [HT.out]; rfl), hbd.grown hg2 hbd.size (fun k e => by have := Option.some.inj e; omega)⟩
 ·have htk : tokAt k st.i = ⟨0, k.s.length, k.s.length, []⟩ := by unfold tokAt; rw [List.drop_eq_nil_of_le (by omega)]
  have HT := Lib.hid htk
  have hge : ¬ (st.i : Int) < k.ts.length := by omega
  go_quiet (fail)
  have hW1 := hW.drewN nq
  have HX1 : Hid (Arr (W.drewN nq) w.heap.size 62 zTok) := HX.out
  have hb1 : Below w.heap.size w (W.drewN nq) := Below.drewN' HBd nq
  have hlow1 : w.heap.size < (W.drewN nq).heap.size := hlow
  clear c0 c1 hW HX HBd htk
  generalize W.drewN nq = W1 at *
  have c3 := hW1.c3
  go_upto_region 3 with (fail)
  go_still_tail 12, (by kernel_rfl)
  change wpList _ _ _ _ _ W1.drew
  have HXd : Hid (Arr W1.drew w.heap.size 62 zTok) := HX1
  go_wp2_with (first | ((with_reducible show wpList _ _ _ (Oper.mk none (Op.store 62 (Operand.tmp 2) (Operand.tmp 35)) _ _ _ _ :: _) _ _); go_loud (refine wpList_sr rfl rfl 62 (.tmp 2) (.tmp 35) rfl (w.heap.size) [.int .i64 0, .int .i64 (k.s.length : Int), .int .i64 (k.s.length : Int), .string ⟨#[]⟩] rfl rfl 62 _ HXd.out _ Tryz.sz62 (by first | rfl | simp) (by first | rfl | simp) (by first | rfl | simp [Value.oneCell']) ?_; intro w2 hr2 hg2 hz2)))
  have s0 := hr2.out.cell' (i := 0) rfl
  have s1 := hr2.out.cell' (i := 1) rfl
  have s2 := hr2.out.cell' (i := 2) rfl
  have s3 := hr2.out.cell' (i := 3) rfl
  refine bodyPost_ret (v := .agg #[.int .i64 0, .int .i64 (k.s.length : Int), .int .i64 (k.s.length : Int), .string ⟨#[]⟩]) (by simp [results, Tryz.results14, go_sem, s0, s1, s2, s3]) rfl ?_
  have hbd : Below w.heap.size w W1.drew := Below.drew hb1
  exact ⟨by first | (rw [HT.out]; done) | (rw [HT.out]; rfl), hbd.grown hg2 hbd.size (fun k e => by have := Option.some.inj e; omega)⟩
theorem ptok_f0 (t : JTok) (w : World) : (Instr.field 62 (.agg #[.int .i64 (t.kind : Int), .int .i64 (t.from_ : Int), .int .i64 (t.to_ : Int), .string (mks t.text)]) 0).run Tryz.prog w = .ok (.int .i64 (t.kind : Int)) w := by kernel_rfl
theorem ptok_f1 (t : JTok) (w : World) : (Instr.field 62 (.agg #[.int .i64 (t.kind : Int), .int .i64 (t.from_ : Int), .int .i64 (t.to_ : Int), .string (mks t.text)]) 1).run Tryz.prog w = .ok (.int .i64 (t.from_ : Int)) w := by kernel_rfl
theorem ptok_f3 (t : JTok) (w : World) : (Instr.field 62 (.agg #[.int .i64 (t.kind : Int), .int .i64 (t.from_ : Int), .int .i64 (t.to_ : Int), .string (mks t.text)]) 3).run Tryz.prog w = .ok (.string (mks t.text)) w := by kernel_rfl
def leftA (k : RK) (i : Nat) : List JTok := k.ts.drop i
theorem tokAt_is (k : RK) (i : Nat) (s : List Nat) : isV (leftA k i) s = decide ((tokAt k i).kind = 1 ∧ (tokAt k i).text = s) := by
 unfold isV leftA tokAt
 cases k.ts.drop i with
 | nil => simp
 | cons t r => rfl
theorem tokAt_off (k : RK) (i : Nat) : (tokAt k i).from_ = offV k.s.length (leftA k i) := by
 unfold offV leftA tokAt
 cases k.ts.drop i <;> rfl
structure RB (k : RK) : Prop where
 tl : k.ts.length ≤ 70000
 sl : k.s.length ≤ 70000
 ok : ∀ t ∈ k.ts, TokOK t
theorem tokAt_by {k : RK} (hb : RB k) (i : Nat) : By (tokAt k i).text ∧ (tokAt k i).text.length ≤ 4294967200 := by
 unfold tokAt
 cases hd : k.ts.drop i with
 | nil => exact ⟨(fun c hc => by cases hc), by simp⟩
 | cons t r =>
  have ht : t ∈ k.ts := List.mem_of_mem_drop (i := i) (by rw [hd]; simp)
  exact ⟨(hb.ok t ht).1, (hb.ok t ht).2.1⟩
theorem ptoken_h {w : World} {B : Nat} {k : RK} {vn vs : Value} {ncs : List Value} {lab : Nat → Option Nat} {st : RSt} (h : RM w B k vn vs ncs lab st) (hb : RB k) (hi : st.i ≤ 10000000) :
  Hid (∀ w', Below w.heap.size w w' → Calls Tryz.prog 14 #[.pointer (some ⟨B, 0, none⟩)] w' (TokenR w' (tokAt k st.i))) := fun w' hw => ptoken_any (h.below hw) (by omega) (by have := hb.tl; omega) (by have := hb.sl; omega)
set_option maxRecDepth 8000 in
set_option maxHeartbeats 4000000 in
theorem pis_any {w : World} {B : Nat} {k : RK} {vn vs : Value} {ncs : List Value} {lab : Nat → Option Nat} {st : RSt} (h : RM w B k vn vs ncs lab st) (hb : RB k) (hi : st.i ≤ 10000000) (s : List Nat) (hs : By s) :
  Calls Tryz.prog 29 #[.pointer (some ⟨B, 0, none⟩), .string (mks s)] w (fun e w' => e = .returned (.bool (isV (leftA k st.i) s)) ∧ Below w.heap.size w w') := by
 rw [tokAt_is]
 have D := ptoken_h h hb hi
 have htb := (tokAt_by hb st.i).1
 have he := eq_mks htb hs
 generalize tokAt k st.i = t at *
 have hb0 : Below w.heap.size w w := Below.refl _ _
 have g0 := ptok_f0 t
 have g3 := ptok_f3 t
 by_cases hk : t.kind = 1
 ·have hk' : ((t.kind : Int) == 1) = true := by simp; omega
  have hd : decide (t.kind = 1 ∧ t.text = s) = decide (t.text = s) := by simp [hk]
  rw [hd]
  clear hd hk
  go_enter Tryz.func29, Tryz.ntmps29
  go_wp2_with (first | (go_at_call 14; ((with_reducible refine (D.out _ hb0).mono ?_)); rintro e w5 ⟨rfl, hb5⟩) | (go_at_call 14; ((with_reducible refine (D.out _ hb5).mono ?_)); rintro e w6 ⟨rfl, hb6⟩))
  go_ret
  exact ⟨rfl, hb5.trans (hb6.mono hb5.size)⟩
 ·have hk' : ((t.kind : Int) == 1) = false := by simp; omega
  have hd : decide (t.kind = 1 ∧ t.text = s) = false := by simp [hk]
  rw [hd]
  clear hd hk he
  go_enter Tryz.func29, Tryz.ntmps29
  go_wp2_with (go_at_call 14; ((with_reducible refine (D.out _ hb0).mono ?_)); rintro e w5 ⟨rfl, hb5⟩)
  go_ret
  exact ⟨rfl, hb5⟩
def failS (k : RK) (st : RSt) (e : Nat) : RSt := if st.err = 0 then { st with err := e, at_ := offV k.s.length (leftA k st.i) } else st
set_option maxRecDepth 8000 in
set_option maxHeartbeats 4000000 in
theorem pfail_any {w : World} {B : Nat} {k : RK} {vn vs : Value} {ncs : List Value} {lab : Nat → Option Nat} {st : RSt} (h : RM w B k vn vs ncs lab st) (hb : RB k) (hi : st.i ≤ 10000000) (er : Nat) :
  Calls Tryz.prog 15 #[.pointer (some ⟨B, 0, none⟩), .int .i64 (er : Int)] w (fun e w' => e = .returned (.tuple #[]) ∧ RM w' B k vn vs ncs lab (failS k st er) ∧ PStep w w' (RF B vn vs lab) (RF B vn vs lab)) := by
 have D := ptoken_h h hb hi
 have hb0 : Below w.heap.size w w := Below.refl _ _
 have hto := tokAt_off k st.i
 unfold failS
 rw [← hto]
 clear hto
 generalize tokAt k st.i = t at *
 have g1 := ptok_f1 t
 have hlt := h.lt
 by_cases he : st.err = 0
 ·rw [if_pos he]
  have c8 := h.e0 he
  go_enter Tryz.func15, Tryz.ntmps15
  have hE : ∀ w5, Below w.heap.size w w5 → Hid (RM ((w5.setCell ⟨B, 8, none⟩ (.int .i64 (er : Int))).setCell ⟨B, 9, none⟩ (.int .i64 (t.from_ : Int))) B k vn vs ncs lab { st with err := er, at_ := t.from_ }) := fun w5 h5 => ((h.below h5).setE er).setA t.from_
  have HE := Lib.hid hE
  clear hE
  go_wp2_with (go_at_call 14; ((with_reducible refine (D.out _ hb0).mono ?_)); rintro e w5 ⟨rfl, hb5⟩; have h5 := h.below hb5; have f8 := h5.f 8; have f9 := h5.f 9; have k8 := h5.c8; have k9 := h5.c9)
  go_end0
  exact ⟨rfl, (HE.out _ hb5).out, ((PStep.of_below hb5).trans (pstep_set (.inl rfl) 8 _)).trans (pstep_set (.inl rfl) 9 _)⟩
 ·rw [if_neg he]
  have c8 : w.cell? ⟨B, 8, none⟩ = some (.int .i64 (st.err : Int)) := h.c8
  have he' : ((st.err : Int) == 0) = false := by simp; omega
  go_enter Tryz.func15, Tryz.ntmps15
  go_wp2_with (fail)
  go_end0
  exact ⟨rfl, h, PStep.of_below (Below.refl _ _)⟩
end Go.Proofs.YtbdnamcjhndpjaaGreatDoor
namespace Go.Proofs.YtbdnamcjhndpjaaGreatDoor
open Go.RowKit
theorem failS_nodes (k : RK) (st : RSt) (e : Nat) : (failS k st e).nodes = st.nodes := by unfold failS; split <;> rfl
theorem failS_i (k : RK) (st : RSt) (e : Nat) : (failS k st e).i = st.i := by unfold failS; split <;> rfl
theorem pis_h {w : World} {B : Nat} {k : RK} {vn vs : Value} {ncs : List Value} {lab : Nat → Option Nat} {st : RSt} (h : RM w B k vn vs ncs lab st) (hb : RB k) (hi : st.i ≤ 10000000) (s : List Nat) (hs : By s) :
  Hid (Calls Tryz.prog 29 #[.pointer (some ⟨B, 0, none⟩), .string (mks s)] w (fun e w' => e = .returned (.bool (isV (leftA k st.i) s)) ∧ Below w.heap.size w w')) := pis_any h hb hi s hs
theorem pis_1 {w : World} {B : Nat} {k : RK} {vn vs : Value} {ncs : List Value} {lab : Nat → Option Nat} {st : RSt} (h : RM w B k vn vs ncs lab st) (hb : RB k) (hi : st.i ≤ 10000000) (c : Nat) (hc : c < 256) (x : ByteArray) (hx : x = mks [c]) :
  Hid (Calls Tryz.prog 29 #[.pointer (some ⟨B, 0, none⟩), .string x] w (fun e w' => e = .returned (.bool (isV (leftA k st.i) [c])) ∧ Below w.heap.size w w')) := by
 subst hx; exact pis_any h hb hi [c] (by intro y hy; simp at hy; omega)
theorem pfail_h {w : World} {B : Nat} {k : RK} {vn vs : Value} {ncs : List Value} {lab : Nat → Option Nat} {st : RSt} (h : RM w B k vn vs ncs lab st) (hb : RB k) (hi : st.i ≤ 10000000) (er : Nat) (e' : Int) (he : (er : Int) = e') :
  Hid (Calls Tryz.prog 15 #[.pointer (some ⟨B, 0, none⟩), .int .i64 e'] w (fun e w' => e = .returned (.tuple #[]) ∧ RM w' B k vn vs ncs lab (failS k st er) ∧ PStep w w' (RF B vn vs lab) (RF B vn vs lab))) := by
 subst he; exact pfail_any h hb hi er
def mustS (k : RK) (st : RSt) (s : List Nat) : RSt := if isV (leftA k st.i) s then { st with i := st.i + 1 } else { failS k st 4 with i := st.i + 1 }
set_option maxRecDepth 8000 in
set_option maxHeartbeats 4000000 in
theorem pmust_any {w : World} {B : Nat} {k : RK} {vn vs : Value} {ncs : List Value} {lab : Nat → Option Nat} {st : RSt} (h : RM w B k vn vs ncs lab st) (hb : RB k) (hi : st.i ≤ 10000000) (s : List Nat) (hs : By s) :
  Calls Tryz.prog 54 #[.pointer (some ⟨B, 0, none⟩), .string (mks s)] w (fun e w' => e = .returned (.tuple #[]) ∧ RM w' B k vn vs ncs lab (mustS k st s) ∧ PStep w w' (RF B vn vs lab) (RF B vn vs lab)) := by
 have D := pis_h h hb hi s hs
 unfold mustS
 have hlt := h.lt
 have e1 : ((st.i + 1 : Nat) : Int) = (st.i : Int) + 1 := by omega
 cases hv : isV (leftA k st.i) s with
 | true =>
  simp only [if_true]
  rw [hv] at D
  clear hv
  have hE : ∀ w5, Below w.heap.size w w5 → Hid (RM (w5.setCell ⟨B, 1, none⟩ (.int .i64 ((st.i : Int) + 1))) B k vn vs ncs lab { st with i := st.i + 1 }) := fun w5 h5 => by
   have := (h.below h5).setI (st.i + 1); rw [e1] at this; exact this
  have HE := Lib.hid hE
  clear hE e1
  go_enter Tryz.func54, Tryz.ntmps54
  go_wp2_with (go_at_call 29; ((with_reducible refine D.out.mono ?_)); rintro e w5 ⟨rfl, hb5⟩; have h5 := h.below hb5; have f1 := h5.f 1; have k1 := h5.c1)
  go_end0
  exact ⟨rfl, (HE.out _ hb5).out, (PStep.of_below hb5).trans (pstep_set (.inl rfl) 1 _)⟩
 | false =>
  simp only [Bool.false_eq_true, if_false]
  rw [hv] at D
  clear hv
  have hF : ∀ w5, Below w.heap.size w w5 → Hid (Calls Tryz.prog 15 #[.pointer (some ⟨B, 0, none⟩), .int .i64 4] w5 (fun e w' => e = .returned (.tuple #[]) ∧ RM w' B k vn vs ncs lab (failS k st 4) ∧ PStep w5 w' (RF B vn vs lab) (RF B vn vs lab))) := fun w5 h5 => pfail_h (h.below h5) hb hi 4 4 rfl
  have HF := Lib.hid hF
  have hfi := failS_i k st 4
  generalize failS k st 4 = sf at *
  obtain ⟨fi, fn, fs, fe, fa⟩ := sf
  obtain rfl : fi = st.i := hfi
  clear hF
  have HE1 := Lib.hid e1
  clear e1
  go_enter Tryz.func54, Tryz.ntmps54
  go_wp2_with (first | (go_at_call 29; ((with_reducible refine D.out.mono ?_)); rintro e w5 ⟨rfl, hb5⟩) | (go_at_call 15; ((with_reducible refine (HF.out _ hb5).out.mono ?_)); rintro e w6 ⟨rfl, h6, hb6⟩; have f1 := h6.f 1; have k1 : w6.cell? ⟨B, 1, none⟩ = some (.int .i64 (st.i : Int)) := h6.c1))
  go_end0
  have h7 := h6.setI (st.i + 1)
  rw [HE1.out] at h7
  exact ⟨rfl, h7, ((PStep.of_below hb5).trans hb6).trans (pstep_set (.inl rfl) 1 _)⟩
end Go.Proofs.YtbdnamcjhndpjaaGreatDoor
namespace Go.Proofs.YtbdnamcjhndpjaaGreatDoor
open Go.RowKit
def nodeS (k : RK) (st : RSt) (d : Nat) (nd : GNode) : RSt :=
 { (if 4096 ≤ st.nodes.length then failS k (if 32 < d then failS k st 5 else st) 7 else (if 32 < d then failS k st 5 else st)) with nodes := st.nodes ++ [nd] }
def NodeR (w : World) (B : Nat) (k : RK) (F : Nat → Prop) (vs : Value) (lab : Nat → Option Nat) (n : Nat) (st' : RSt) (e : Ending) (w' : World) : Prop :=
 ∃ vn' ncs', e = .returned (.int .i64 (n : Int)) ∧ RM w' B k vn' vs ncs' lab st' ∧ PStep w w' F (RF B vn' vs lab)
set_option maxRecDepth 100000 in
set_option maxHeartbeats 4000000 in
theorem pnode_any {w : World} {B : Nat} {k : RK} {vn vs : Value} {ncs : List Value} {lab : Nat → Option Nat} {st : RSt} (h : RM w B k vn vs ncs lab st) (hb : RB k) (hi : st.i ≤ 10000000) (hm : st.nodes.length ≤ 100000) (kd : Int) (tx : List Nat) (d : Nat) (hd : d ≤ 100000) :
  Calls Tryz.prog 30 #[.pointer (some ⟨B, 0, none⟩), .agg #[.int .i64 kd, .string (mks tx), .bool false, .slice none 0 0, .slice none 0 0], .int .i64 (d : Int)] w (NodeR w B k (RF B vn vs lab) vs lab st.nodes.length (nodeS k st d ⟨kd, tx, false, [], []⟩)) := by
 have HX := Lib.hid (Arr.new w 41 [.int .i64 kd, .string (mks tx), .bool false, .slice none 0 0, .slice none 0 0])
 have HBd : Below w.heap.size w (w.alloc (.cells #[.int .i64 kd, .string (mks tx), .bool false, .slice none 0 0, .slice none 0 0] 41)) := (Below.refl _ _).alloc (Nat.le_refl _) _
 change Hid (Arr (w.alloc (.cells #[.int .i64 kd, .string (mks tx), .bool false, .slice none 0 0, .slice none 0 0] 41)) w.heap.size 41 [.int .i64 kd, .string (mks tx), .bool false, .slice none 0 0, .slice none 0 0]) at HX
 generalize hS : nodeS k st d ⟨kd, tx, false, [], []⟩ = sF
 have HS := Lib.hid hS
 clear hS
 obtain ⟨An, cn, hvn, _, _⟩ := own_slice h.nod
 have hnF : ¬ RF B vn vs lab w.heap.size := fun hf => by have := h.rfLt _ hf; omega
 have hP0 : PStep w (w.alloc (.cells #[.int .i64 kd, .string (mks tx), .bool false, .slice none 0 0, .slice none 0 0] 41)) (RF B vn vs lab) (RF B vn vs lab) := PStep.of_below HBd
 have hW := h.below HBd
 obtain ⟨F, hF⟩ : ∃ F, Hid (RF B vn vs lab = F) := ⟨_, Lib.hid rfl⟩
 rw [hF.out] at hnF hP0 ⊢
 clear HBd h
 subst hvn
 go_enter Tryz.func30, Tryz.ntmps30
 go_upto_region 1 with (fail)
 generalize (w.alloc (.cells #[.int .i64 kd, .string (mks tx), .bool false, .slice none 0 0, .slice none 0 0] 41)) = W at *
 obtain ⟨s1, hs1⟩ : ∃ s1, Hid ((if 32 < d then failS k st 5 else st) = s1) := ⟨_, Lib.hid rfl⟩
 have hs1n : s1.nodes = st.nodes := by rw [← hs1.out]; split; exact failS_nodes _ _ _; rfl
 have hs1i : s1.i = st.i := by rw [← hs1.out]; split; exact failS_i _ _ _; rfl
 have HS1N := Lib.hid hs1n
 have HS1I := Lib.hid hs1i
 clear hs1n hs1i
 go_upto_if 8 with (fail)
 go_cut [] (fun wx => RM wx B k (.slice An st.nodes.length cn) vs ncs lab s1 ∧ PStep w wx F F ∧ Hid (Arr wx w.heap.size 41 [.int .i64 kd, .string (mks tx), .bool false, .slice none 0 0, .slice none 0 0]))
 case first =>
  by_cases h32 : 32 < d
  ·have h32' : (32 : Int) < d := by omega
   have e1 := hs1.out
   rw [if_pos h32] at e1
   have D5 := pfail_h hW hb hi 5 5 rfl
   rw [e1, hF.out] at D5
   clear e1 h32
   go_wp2_with (go_at_call 15; ((with_reducible refine D5.out.mono ?_)); rintro e w6 ⟨rfl, h6, hb6⟩)
   go_meet
   exact ⟨h6, hP0.trans hb6, Lib.hid ((hb6).arr HX.out hnF)⟩
  ·have h32' : ¬ (32 : Int) < d := by omega
   have e1 := hs1.out
   rw [if_neg h32] at e1
   subst e1
   clear h32
   go_wp2_with (fail)
   go_meet
   exact ⟨hW, hP0, HX⟩
 case rest =>
  obtain ⟨h6, hP6, HX6⟩ := hcut
  obtain ⟨w6, hw6⟩ : ∃ x, x = wc := ⟨_, rfl⟩
  subst hw6
  clear hW hP0 HX
  have c4 : w6.cell? ⟨B, 4, none⟩ = some (.slice An st.nodes.length cn) := h6.c4
  obtain ⟨s2, hs2⟩ : ∃ s2, Hid ((if 4096 ≤ st.nodes.length then failS k s1 7 else s1) = s2) := ⟨_, Lib.hid rfl⟩
  have HS2N : Hid (s2.nodes = st.nodes) := by show _ = _; rw [← hs2.out, ← HS1N.out]; split; exact failS_nodes _ _ _; rfl
  have hi1 : s1.i ≤ 10000000 := by rw [HS1I.out]; exact hi
  go_upto_if 18 with (fail)
  go_cut [] (fun wx => RM wx B k (.slice An st.nodes.length cn) vs ncs lab s2 ∧ PStep w wx F F ∧ Hid (Arr wx w.heap.size 41 [.int .i64 kd, .string (mks tx), .bool false, .slice none 0 0, .slice none 0 0]))
  case first =>
   by_cases h40 : 4096 ≤ st.nodes.length
   ·have h40' : (4096 : Int) ≤ st.nodes.length := by omega
    have e1 := hs2.out
    rw [if_pos h40] at e1
    have D7 := pfail_h h6 hb hi1 7 7 rfl
    rw [e1, hF.out] at D7
    clear e1 h40
    go_wp2_with (go_at_call 15; ((with_reducible refine D7.out.mono ?_)); rintro e w7 ⟨rfl, h7, hb7⟩)
    go_meet
    exact ⟨h7, hP6.trans hb7, Lib.hid (hb7.arr HX6.out hnF)⟩
   ·have h40' : ¬ (4096 : Int) ≤ st.nodes.length := by omega
    have e1 := hs2.out
    rw [if_neg h40] at e1
    subst e1
    clear h40
    go_wp2_with (fail)
    go_meet
    exact ⟨h6, hP6, HX6⟩
  case rest =>
   obtain ⟨h7, hP7, HX7⟩ := hcut
   obtain ⟨w7, hw7⟩ : ∃ x, x = wc := ⟨_, rfl⟩
   subst hw7
   clear h6 hP6 HX6 c4
   have hsF : Hid ({ s2 with nodes := s2.nodes ++ [⟨kd, tx, false, [], []⟩] } = sF) := by
    show _ = _
    rw [← HS.out]
    unfold nodeS
    rw [hs1.out, hs2.out, HS2N.out]
   have hl2 : s2.nodes.length = st.nodes.length := by rw [HS2N.out]
   have HL2 := Lib.hid hl2
   have c4 : w7.cell? ⟨B, 4, none⟩ = some (.slice An st.nodes.length cn) := h7.c4
   have d4 : (w7.alloc (.cells #[.int .i64 kd, .string (mks tx), .bool false, .slice none 0 0, .slice none 0 0] 41)).cell? ⟨B, 4, none⟩ = some (.slice An st.nodes.length cn) := (h7.par.alloc (.cells #[.int .i64 kd, .string (mks tx), .bool false, .slice none 0 0, .slice none 0 0] 41)).cell' (i := 4) rfl
   have x0 := HX7.out.cell' (i := 0) rfl
   have x1 := HX7.out.cell' (i := 1) rfl
   have x2 := HX7.out.cell' (i := 2) rfl
   have x3 := HX7.out.cell' (i := 3) rfl
   have x4 := HX7.out.cell' (i := 4) rfl
   have hownd : w7.drew.ownsRow B 41 5 (.slice An st.nodes.length cn) st.nodes.length ncs := by have := h7.nod; rw [hl2] at this; exact this
   have hBw := h7.lt
   clear hl2
   go_upto_region 5 with (fail)
   go_region_law (refine step_apS rfl (.tmp 27) (.tmp 29) 23 rfl B 41 _ 5 _ Tryz.underlying23 Tryz.infoS41 rfl (by decide) _ st.nodes.length ncs rfl (hownd.alloc _) ⟨w7.heap.size, 0, none⟩ _ [.int .i64 kd, .string (mks tx), .bool false, .slice none 0 0, .slice none 0 0] rfl rfl (cells_new _ _ _) rfl (by unfold maxLen; omega) (by omega) (by simp; omega) ?_; intro v3 w3 hown3 hgr3 hat3; obtain ⟨A3, c3, rfl, hc3, hm3⟩ := own_slice hown3; obtain ⟨P3, h8, hP8⟩ := RM.addNode h7 ⟨kd, tx, false, [], []⟩ rfl rfl _ (by rw [HL2.out]; exact hown3) hgr3 hat3; have p4 := P3.cell' (i := 4) rfl; have q4 := P3.frozen 4; clear hgr3 hat3 hown3)
   all_goals
    have k4 : (w3.setCell ⟨B, 4, none⟩ (.slice A3 (st.nodes.length + 1) c3)).cell? ⟨B, 4, none⟩ = some (.slice A3 (st.nodes.length + 1) c3) := h8.c4
    have H8 := Lib.hid h8
    have HP8 := Lib.hid hP8
    clear P3 p4 q4 c4 d4 x0 x1 x2 x3 x4 hownd h8 hP8
    generalize (w3.setCell ⟨B, 4, none⟩ (.slice A3 (st.nodes.length + 1) c3)) = w8 at *
    have hln : ((st.nodes.length : Int) + 1 - 1) = st.nodes.length := by omega
    have hmn : (st.nodes.length : Int) ≤ 100000 := by omega
    clear hln
    go_wp2
    go_ret
    have h9 := H8.out
    rw [hsF.out] at h9
    have hp := HP8.out
    rw [hF.out] at hp
    exact ⟨_, _, rfl, h9, hP7.trans hp⟩
end Go.Proofs.YtbdnamcjhndpjaaGreatDoor
namespace Go.Proofs.YtbdnamcjhndpjaaGreatDoor
open Go.RowKit
def KeysOK (st : RSt) (nd : GNode) (ks : List (List Nat)) : Prop :=
 nd.keys.length = ks.length ∧ ∀ (j : Nat) (x : Int), nd.keys[j]? = some x → ∃ (m : Nat) (nd' : GNode), x = (m : Int) ∧ st.nodes[m]? = some nd' ∧ ks[j]? = some nd'.text ∧ By nd'.text
theorem RM.nodeCells {w : World} {B : Nat} {k : RK} {vn vs : Value} {ncs : List Value} {lab : Nat → Option Nat} {st : RSt} (h : RM w B k vn vs ncs lab st) {n : Nat} {nd : GNode} (hn : st.nodes[n]? = some nd) :
  ∃ vk vi, (ncs.drop (n * 5)).take 5 = [.int .i64 nd.kind, .string (mks nd.text), .bool nd.ord, vk, vi] ∧ w.ownsRow B 3 1 vk nd.keys.length (I64 nd.keys) ∧ w.ownsRow B 3 1 vi nd.items.length (I64 nd.items) ∧
   (∀ g, vk.ownBlock = some g → lab g = some (2 * n)) ∧ (∀ g, vi.ownBlock = some g → lab g = some (2 * n + 1)) ∧
   ncs[n * 5]? = some (.int .i64 nd.kind) ∧ ncs[n * 5 + 1]? = some (.string (mks nd.text)) ∧ ncs[n * 5 + 2]? = some (.bool nd.ord) ∧ ncs[n * 5 + 3]? = some vk ∧ ncs[n * 5 + 4]? = some vi := by
 obtain ⟨vk, vi, h1, h2, h3, h4, h5⟩ := h.nds n nd hn
 have hg : ∀ r u, r < 5 → ([.int .i64 nd.kind, .string (mks nd.text), .bool nd.ord, vk, vi] : List Value)[r]? = some u → ncs[n * 5 + r]? = some u := by
  intro r u hr hu
  rw [← h1, List.getElem?_take, if_pos hr, List.getElem?_drop] at hu
  exact hu
 exact ⟨vk, vi, h1, h2, h3, h4, h5, hg 0 _ (by omega) rfl, hg 1 _ (by omega) rfl, hg 2 _ (by omega) rfl, hg 3 _ (by omega) rfl, hg 4 _ (by omega) rfl⟩
set_option maxRecDepth 100000 in
set_option maxHeartbeats 4000000 in
theorem ptwice_any {w : World} {B : Nat} {k : RK} {vn vs : Value} {ncs : List Value} {lab : Nat → Option Nat} {st : RSt} (h : RM w B k vn vs ncs lab st) {n : Nat} {nd : GNode} (hn : st.nodes[n]? = some nd) (ks : List (List Nat)) (hks : KeysOK st nd ks) (key : List Nat) (hkey : By key) (hm : st.nodes.length ≤ 100000) (hkl : ks.length ≤ 1000000) :
  Calls Tryz.prog 79 #[.pointer (some ⟨B, 0, none⟩), .int .i64 (n : Int), .string (mks key)] w (fun e w' => e = .returned (.bool (decide (key ∈ ks))) ∧ w = w') := by
 obtain ⟨b, hbm⟩ : ∃ b, Hid (decide (key ∈ ks) = b) := ⟨_, Lib.hid rfl⟩
 rw [hbm.out]
 have hnl := (List.getElem?_eq_some_iff.1 hn).1
 obtain ⟨gn, cn, hvn, hcn, _⟩ := own_slice0 h.nod (by omega)
 obtain ⟨vk, vi, _, hk2, _, _, _, _, _, _, hk3, _⟩ := h.nodeCells hn
 obtain ⟨Ak, ck, hvk, hck, _⟩ := own_slice hk2
 subst hvk
 have hnod := h.nod
 rw [hvn] at hnod
 have hcell : ∀ {j u}, ncs[j]? = some u → w.cell? ⟨gn, j, none⟩ = some u := fun hu => (own_cell hnod hu).1
 have c4 : w.cell? ⟨B, 4, none⟩ = some (.slice (some ⟨gn, 0, none⟩) st.nodes.length cn) := by have := h.c4; rw [← hvn]; exact this
 have k3 := hcell hk3
 have hn' : (n : Int) < st.nodes.length := by omega
 have hkl2 : nd.keys.length = ks.length := hks.1
 have htx : Hid (∀ j, j < ks.length → ∃ m : Nat, ∃ tx, ks[j]? = some tx ∧ By tx ∧ m < st.nodes.length ∧ w.cell? ⟨gn, m * 5 + 1, none⟩ = some (.string (mks tx)) ∧ ∃ ad, Ak = some ad ∧ w.cell? (ad.add j) = some (.int .i64 (m : Int))) := by
  show ∀ j, _
  intro j hj
  obtain ⟨x, hx⟩ : ∃ x, nd.keys[j]? = some x := ⟨_, List.getElem?_eq_getElem (by omega)⟩
  obtain ⟨m, nd', rfl, hm1, hm2, hm3⟩ := hks.2 j x hx
  obtain ⟨vk', vi', _, _, _, _, _, _, ht, _, _, _⟩ := h.nodeCells hm1
  obtain ⟨A', c', hv, _, _, _, hr, _⟩ := own_rd hk2
  injection hv with hv1 _ _
  subst hv1
  obtain ⟨ad, e, hc⟩ := hr j _ (I64_get hx)
  exact ⟨m, nd'.text, hm2, hm3, (List.getElem?_eq_some_iff.1 hm1).1, hcell ht, ad, e, hc⟩
 rw [hkl2] at k3
 clear hcell hk2 hck hks hnod hvn hkl2
 have hB := h.lt
 clear h
 go_enter Tryz.func79, Tryz.ntmps79
 go_wp2_with (fail)
 go_loopw [20] (fun jv wr => ∃ j : Nat, j ≤ ks.length ∧ jv = .int .i64 (j : Int) ∧ Hid (∀ i, i < j → ks[i]? ≠ some key) ∧ w = wr) (fun jv _ => ks.length - (intOf jv).toNat)
 case atStart => exact ⟨0, by omega, rfl, fun i hi => by omega, rfl⟩
 case round =>
  obtain ⟨j, hj, rfl, hq, rfl⟩ := hrel
  by_cases hlt : j < ks.length
  ·obtain ⟨m, tx, h1, h2, h3, h4, ad, rfl, h5⟩ := htx.out j hlt
   have hm' : (m : Int) < st.nodes.length := by omega
   have he := eq_mks h2 hkey
   have H1 := Lib.hid h1
   clear h1
   by_cases heq : tx = key
   ·have hb : b = true := by
     rw [← hbm.out, decide_eq_true_iff]
     rw [← heq]
     exact List.mem_of_getElem? H1.out
    subst hb
    rw [decide_eq_true heq] at he
    clear heq hq hbm htx
    go_wp2_with (fail)
    go_ret
    exact ⟨rfl, rfl⟩
   ·rw [decide_eq_false heq] at he
    have HQ : Hid (∀ i, i < j + 1 → ks[i]? ≠ some key) := by
     show ∀ i, _
     intro i hi
     by_cases e : i = j
     ·subst e; rw [H1.out]; intro e2; exact heq (Option.some.inj e2)
     ·exact hq.out i (by omega)
    clear heq hq
    go_wp2_with (fail)
    go_roundw
    case rel => exact ⟨j + 1, by omega, i64e (by omega), HQ, by first | rfl | trivial⟩
    case measure => simp [intOf]; omega
  ·have hb : b = false := by
    rw [← hbm.out, decide_eq_false_iff_not]
    intro hmem
    obtain ⟨i, hi, e⟩ := List.getElem_of_mem hmem
    exact hq.out i (by omega) (by rw [← e]; exact List.getElem?_eq_getElem hi)
   subst hb
   clear hq hbm htx
   go_wp2_with (fail)
   go_ret
   exact ⟨rfl, rfl⟩
end Go.Proofs.YtbdnamcjhndpjaaGreatDoor
namespace Go.Proofs.YtbdnamcjhndpjaaGreatDoor
open Go.RowKit
def dotB (c : Nat) : Bool := decide (c = 46 ∨ c = 101 ∨ c = 69)
theorem dot_contains {c : Nat} (hc : c < 256) : ([46, 101, 69] : List UInt8).contains (UInt8.ofNat c) = dotB c := by
 have : ∀ c : Fin 256, ([46, 101, 69] : List UInt8).contains (UInt8.ofNat c.val) = dotB c.val := by decide +kernel
 exact this ⟨c, hc⟩
theorem hasDot_no {l : List Nat} (hl : By l) (h : hasDot l = false) : ∀ (j c : Nat), l[j]? = some c → dotB c = false := by
 have hn : ¬ 0 ≤ Lib.indexAny (u8s l) [46, 101, 69] := by
  intro hh
  unfold hasDot Lib.containsAny at h
  rw [decide_eq_true hh] at h
  cases h
 induction l with
 | nil => intro j c hc; simp at hc
 | cons a l ih =>
  have ha := hl a (by simp)
  have hl' : By l := fun c hc => hl c (List.mem_cons_of_mem _ hc)
  have e : u8s (a :: l) = UInt8.ofNat a :: u8s l := rfl
  rw [e, Lib.indexAny, dot_contains ha] at hn
  have hge := Lib.indexAny_ge [46, 101, 69] (u8s l)
  by_cases hd : dotB a = true
  ·rw [if_pos hd] at hn; exact absurd (by decide) hn
  ·rw [if_neg hd] at hn
   have hn2 : ¬ 0 ≤ Lib.indexAny (u8s l) [46, 101, 69] := by
    intro hh
    apply hn
    rw [if_neg (by intro e2; have := beq_iff_eq.1 e2; omega)]
    omega
   have h2 : hasDot l = false := by unfold hasDot Lib.containsAny; exact decide_eq_false hn2
   intro j c hc
   cases j with
   | zero =>
    obtain rfl : a = c := by simpa using hc
    cases hx : dotB a with
    | true => exact absurd hx hd
    | false => rfl
   | succ j => exact ih hl' h2 hn2 j c (by simpa using hc)
theorem hasDot_yes {l : List Nat} (hl : By l) (h : hasDot l = true) : ∃ (j c : Nat), l[j]? = some c ∧ dotB c = true ∧ ∀ (i x : Nat), i < j → l[i]? = some x → dotB x = false := by
 have hn : 0 ≤ Lib.indexAny (u8s l) [46, 101, 69] := by
  unfold hasDot Lib.containsAny at h
  exact of_decide_eq_true h
 induction l with
 | nil => exact absurd hn (by decide)
 | cons a l ih =>
  have ha := hl a (by simp)
  have hl' : By l := fun c hc => hl c (List.mem_cons_of_mem _ hc)
  have e : u8s (a :: l) = UInt8.ofNat a :: u8s l := rfl
  rw [e, Lib.indexAny, dot_contains ha] at hn
  have hge := Lib.indexAny_ge [46, 101, 69] (u8s l)
  by_cases hd : dotB a = true
  ·exact ⟨0, a, rfl, hd, fun i x hi => by omega⟩
  ·rw [if_neg hd] at hn
   have hn2 : 0 ≤ Lib.indexAny (u8s l) [46, 101, 69] := by
    by_cases e2 : (Lib.indexAny (u8s l) [46, 101, 69] == -1) = true
    ·rw [if_pos e2] at hn; exact absurd hn (by decide)
    ·have : ¬ Lib.indexAny (u8s l) [46, 101, 69] = -1 := fun e3 => e2 (beq_iff_eq.2 e3)
     omega
   have h2 : hasDot l = true := by unfold hasDot Lib.containsAny; exact decide_eq_true hn2
   obtain ⟨j, c, h1, h3, h4⟩ := ih hl' h2 hn2
   refine ⟨j + 1, c, by simpa using h1, h3, fun i x hi hx => ?_⟩
   cases i with
   | zero =>
    obtain rfl : a = x := by simpa using hx
    cases hx : dotB a with
    | true => exact absurd hx hd
    | false => rfl
   | succ i => exact h4 i x (by omega) (by simpa using hx)
theorem limV_zero {y : Bool × List Nat × Int} (h : limV y = 0) : y.2.1.length ≤ 400 ∧ -2000 ≤ y.2.2 ∧ y.2.2 ≤ 2000 := by
 unfold limV at h
 by_cases h4 : 400 < y.2.1.length
 ·rw [if_pos h4] at h; cases h
 ·rw [if_neg h4] at h
  by_cases h5 : y.2.2 < -2000 ∨ 2000 < y.2.2
  ·rw [if_pos h5] at h; cases h
  ·omega
theorem dot_cases (s : List Nat) (hs : s.length ≤ 65536) : (rnumV s = none ∧ (parseDV s).2 ≠ 0) ∨ (∃ y, rnumV s = some y ∧ limV y ≠ 0 ∧ (parseDV s).2 ≠ 0) ∨
  (∃ y, rnumV s = some y ∧ limV y = 0 ∧ parseDV s = (textV y, 0) ∧ Ten y.2.1) := by
 rcases rnum_law s hs with ⟨h1, h2⟩ | ⟨x, y, h1, h2, h3⟩
 ·exact .inl ⟨h2, by rw [parseDV_none h1]; decide⟩
 ·right
  have hp := parseDV_some h1
  by_cases hy : limV y = 0
  ·right
   rcases h3 with rfl | ⟨e1, e2⟩
   ·refine ⟨x, h2, hy, ?_, (numeralV_ok h1).1⟩
    rw [hp]
    unfold resV
    rw [if_pos hy]
   ·exact absurd (e1.trans hy) e2
  ·left
   have hx : limV x ≠ 0 := by
    rcases h3 with rfl | ⟨e1, e2⟩
    ·exact hy
    ·exact e2
   refine ⟨y, h2, hy, ?_⟩
   rw [hp]
   unfold resV
   rw [if_neg hx]
   exact hx
theorem rp_cases {w w' : World} {l : List Nat} {e : Ending} (h : RP w l 10 e w') : ∃ (x : Bool × Nat) (no : Int) (A : Option Addr) (n c : Nat), e = .returned (.tuple #[.agg #[.bool x.1, .slice A n c], .int .i64 no]) ∧
  Hid ((no = 0 ∧ parR l 10 = (ntx x.1 x.2, 0)) ∨ (no ≠ 0 ∧ (parR l 10).2 ≠ 0)) ∧ Hid (n = (dg x.2).length) ∧ Rd w' A (B8 (dg x.2)) ∧ (no = 0 → n ≤ 400) ∧ Below w.heap.size w w' := by
 obtain ⟨x, no, A, n, c, he, hc, hn, hr, hb⟩ := h
 refine ⟨x, no, A, n, c, he, ?_, hn, hr, ?_, hb⟩
 ·rcases hc.out with ⟨h1, h2, h3⟩ | ⟨h1, h2⟩
  ·exact .inl ⟨h1, by rw [h2]; unfold tS; rw [if_pos h3]⟩
  ·exact .inr ⟨h1, by rw [h2]; exact h1⟩
 ·intro h0
  rcases hc.out with ⟨_, _, h3⟩ | ⟨h1, _⟩
  ·rw [hn.out]; exact h3
  ·exact absurd h0 h1
end Go.Proofs.YtbdnamcjhndpjaaGreatDoor
