/- The parser of cbor in memory: its block, its nodes with rows of their own, its spans, its shared values and marks; what stores and appends leave. -/
import Derived.Test.YtbhigefbihpnlaaGreatDoorMAh
set_option linter.unusedVariables false
set_option linter.unusedSimpArgs false
set_option linter.defProp false
set_option linter.constructorNameAsVariable false
namespace Go.Proofs.YtbhigefbihpnlaaGreatDoor
open Go.RowKit
theorem five_otherB {α : Type} (xs : List α) (n i r : Nat) (u : α) (hr : r < 5) (hi : i ≠ n) : ((xs.set (n * 5 + r) u).drop (i * 5)).take 5 = (xs.drop (i * 5)).take 5 := by
 apply List.ext_getElem?
 intro j
 rw [List.getElem?_take, List.getElem?_take]
 by_cases hj : j < 5
 ·rw [if_pos hj, if_pos hj, List.getElem?_drop, List.getElem?_drop, List.getElem?_set_ne (by omega)]
 ·rw [if_neg hj, if_neg hj]
theorem five_sameB {α : Type} (xs : List α) (n r : Nat) (u : α) (hr : r < 5) : ((xs.set (n * 5 + r) u).drop (n * 5)).take 5 = ((xs.drop (n * 5)).take 5).set r u := by
 rw [List.drop_set, if_neg (by omega), Nat.add_sub_cancel_left, List.take_set]
theorem set_get_eqB {α : Type} {l : List α} {n i : Nat} {x y z : α} (h : l[n]? = some x) (hi : (l.set n y)[i]? = some z) : (i = n ∧ z = y) ∨ (i ≠ n ∧ l[i]? = some z) := by
 by_cases e : i = n
 ·subst e
  have hlt := (List.getElem?_eq_some_iff.1 h).1
  rw [List.getElem?_set_self hlt] at hi
  exact .inl ⟨rfl, (Option.some.inj hi).symm⟩
 ·rw [List.getElem?_set_ne (fun h => e h.symm)] at hi
  exact .inr ⟨e, hi⟩
def BRow (w : World) (B : Nat) (lab : Nat → Option Nat) (t : Nat) (v : Value) (xs : List Int) : Prop := w.ownsRow B 3 1 v xs.length (I64 xs) ∧ ∀ g, v.ownBlock = some g → lab g = some t
def BNode (w : World) (B : Nat) (lab : Nat → Option Nat) (i : Nat) (cs : List Value) (nd : GNode) : Prop :=
 ∃ vk vi, cs = [.int .i64 nd.kind, .string (mks nd.text), .bool nd.ord, vk, vi] ∧ BRow w B lab (2 * i + 2) vk nd.keys ∧ BRow w B lab (2 * i + 3) vi nd.items
abbrev parCB (s : List Nat) (vn vs vh vm : Value) (st : CSt) : List Value := [.string (mks s), .int .i64 (st.i : Int), .int .i64 6, .string (mks s), vn, .int .i64 0, vs, .slice none 0 0, vh, vm]
structure CM (w : World) (B : Nat) (s : List Nat) (vn vs vh vm : Value) (ncs : List Value) (lab : Nat → Option Nat) (st : CSt) : Prop where
 par : Arr w B 46 [.string (mks s), .int .i64 (st.i : Int), .int .i64 6, .string (mks s), vn, .int .i64 0, vs, .slice none 0 0, vh, vm]
 nod : w.ownsRow B 60 5 vn st.nodes.length ncs
 nds : ∀ i nd, st.nodes[i]? = some nd → BNode w B lab i ((ncs.drop (i * 5)).take 5) nd
 spn : w.ownsRow B 55 9 vs st.spans.length (spansC st.spans)
 shr : BRow w B lab 0 vh st.shared
 mrk : BRow w B lab 1 vm st.marks
 labB : ∀ g, (lab g).isSome = true → B ≤ g ∧ g < w.heap.size
def CF (B : Nat) (vn vs : Value) (lab : Nat → Option Nat) (g : Nat) : Prop := g = B ∨ vn.ownBlock = some g ∨ vs.ownBlock = some g ∨ (lab g).isSome = true
theorem BRow.below {w w' : World} {B : Nat} {lab : Nat → Option Nat} {t : Nat} {v : Value} {xs : List Int} (h : BRow w B lab t v xs) (hb : Below w.heap.size w w') : BRow w' B lab t v xs := ⟨own_below h.1 hb, h.2⟩
theorem BRow.far {w : World} {B : Nat} {lab : Nat → Option Nat} {t : Nat} {v : Value} {xs : List Int} (h : BRow w B lab t v xs) {p : Addr} (hp : v.ownBlock ≠ some p.block) (u : Value) : BRow (w.setCell p u) B lab t v xs := ⟨own_far h.1 hp u, h.2⟩
theorem BNode.map {w w' : World} {B : Nat} {lab lab' : Nat → Option Nat} {i : Nat} {cs : List Value} {nd : GNode} (h : BNode w B lab i cs nd)
  (hk : ∀ t v xs, t = 2 * i + 2 ∨ t = 2 * i + 3 → BRow w B lab t v xs → BRow w' B lab' t v xs) : BNode w' B lab' i cs nd := by
 obtain ⟨vk, vi, h1, h2, h3⟩ := h
 exact ⟨vk, vi, h1, hk _ _ _ (.inl rfl) h2, hk _ _ _ (.inr rfl) h3⟩
section
variable {w w' : World} {B : Nat} {s : List Nat} {vn vs vh vm : Value} {ncs : List Value} {lab : Nat → Option Nat} {st : CSt}
theorem CM.cfB (h : CM w B s vn vs vh vm ncs lab st) : ∀ g, CF B vn vs lab g → B ≤ g := by
 rintro g (rfl | e | e | e)
 ·exact Nat.le_refl _
 ·exact (h.nod.lt g e).1
 ·exact (h.spn.lt g e).1
 ·exact (h.labB g e).1
theorem CM.cfLt (h : CM w B s vn vs vh vm ncs lab st) : ∀ g, CF B vn vs lab g → g < w.heap.size := by
 rintro g (rfl | e | e | e)
 ·exact h.par.lt
 ·exact (h.nod.lt g e).2
 ·exact (h.spn.lt g e).2
 ·exact (h.labB g e).2
theorem CM.lt (h : CM w B s vn vs vh vm ncs lab st) : B < w.heap.size := h.par.lt
theorem CM.nlen (h : CM w B s vn vs vh vm ncs lab st) : ncs.length = st.nodes.length * 5 := by have := h.nod.1; omega
theorem CM.below (h : CM w B s vn vs vh vm ncs lab st) (hb : Below w.heap.size w w') : CM w' B s vn vs vh vm ncs lab st :=
 ⟨h.par.keep hb, own_below h.nod hb, fun i nd hi => (h.nds i nd hi).map (fun _ _ _ _ hr => hr.below hb), own_below h.spn hb, h.shr.below hb, h.mrk.below hb, fun g hg => ⟨(h.labB g hg).1, Nat.lt_of_lt_of_le (h.labB g hg).2 hb.size⟩⟩
theorem CM.drewN (h : CM w B s vn vs vh vm ncs lab st) (n : Nat) : CM (w.drewN n) B s vn vs vh vm ncs lab st := h.below (Below.drewN' (Below.refl _ _) n)
theorem CM.drew (h : CM w B s vn vs vh vm ncs lab st) : CM w.drew B s vn vs vh vm ncs lab st := h.below (Below.drew (Below.refl _ _))
theorem CM.nodNe (h : CM w B s vn vs vh vm ncs lab st) : vn.ownBlock ≠ some B := own_arr h.nod h.par (by decide)
theorem CM.spnNe (h : CM w B s vn vs vh vm ncs lab st) : vs.ownBlock ≠ some B := own_arr h.spn h.par (by decide)
theorem CM.rowNe (h : CM w B s vn vs vh vm ncs lab st) {t : Nat} {v : Value} {xs : List Int} (hr : BRow w B lab t v xs) : v.ownBlock ≠ some B := own_arr hr.1 h.par (by decide)
theorem CM.c0 (h : CM w B s vn vs vh vm ncs lab st) : w.cell? ⟨B, 0, none⟩ = some ((parCB s vn vs vh vm st)[0]) := h.par.cell' (i := 0) rfl
theorem CM.c1 (h : CM w B s vn vs vh vm ncs lab st) : w.cell? ⟨B, 1, none⟩ = some ((parCB s vn vs vh vm st)[1]) := h.par.cell' (i := 1) rfl
theorem CM.c2 (h : CM w B s vn vs vh vm ncs lab st) : w.cell? ⟨B, 2, none⟩ = some ((parCB s vn vs vh vm st)[2]) := h.par.cell' (i := 2) rfl
theorem CM.c3 (h : CM w B s vn vs vh vm ncs lab st) : w.cell? ⟨B, 3, none⟩ = some ((parCB s vn vs vh vm st)[3]) := h.par.cell' (i := 3) rfl
theorem CM.c4 (h : CM w B s vn vs vh vm ncs lab st) : w.cell? ⟨B, 4, none⟩ = some ((parCB s vn vs vh vm st)[4]) := h.par.cell' (i := 4) rfl
theorem CM.c5 (h : CM w B s vn vs vh vm ncs lab st) : w.cell? ⟨B, 5, none⟩ = some ((parCB s vn vs vh vm st)[5]) := h.par.cell' (i := 5) rfl
theorem CM.c6 (h : CM w B s vn vs vh vm ncs lab st) : w.cell? ⟨B, 6, none⟩ = some ((parCB s vn vs vh vm st)[6]) := h.par.cell' (i := 6) rfl
theorem CM.c7 (h : CM w B s vn vs vh vm ncs lab st) : w.cell? ⟨B, 7, none⟩ = some ((parCB s vn vs vh vm st)[7]) := h.par.cell' (i := 7) rfl
theorem CM.c8 (h : CM w B s vn vs vh vm ncs lab st) : w.cell? ⟨B, 8, none⟩ = some ((parCB s vn vs vh vm st)[8]) := h.par.cell' (i := 8) rfl
theorem CM.c9 (h : CM w B s vn vs vh vm ncs lab st) : w.cell? ⟨B, 9, none⟩ = some ((parCB s vn vs vh vm st)[9]) := h.par.cell' (i := 9) rfl
theorem CM.f (h : CM w B s vn vs vh vm ncs lab st) (i : Nat) : w.frozen? ⟨B, i, none⟩ = false := h.par.frozen i
theorem CM.setI (h : CM w B s vn vs vh vm ncs lab st) (i : Nat) : CM (w.setCell ⟨B, 1, none⟩ (.int .i64 (i : Int))) B s vn vs vh vm ncs lab { st with i := i } := by
 refine ⟨h.par.store 1 (.int .i64 (i : Int)), own_far h.nod (p := ⟨B, 1, none⟩) h.nodNe _, fun i nd hi => (h.nds i nd hi).map (fun _ _ _ _ hr => hr.far (p := ⟨B, 1, none⟩) (h.rowNe hr) _), own_far h.spn (p := ⟨B, 1, none⟩) h.spnNe _, h.shr.far (p := ⟨B, 1, none⟩) (h.rowNe h.shr) _, h.mrk.far (p := ⟨B, 1, none⟩) (h.rowNe h.mrk) _, fun g hg => by have := h.labB g hg; simpa [World.setCell] using this⟩
end
section
variable {W w3 : World} {B : Nat} {s : List Nat} {vn vs vh vm : Value} {ncs : List Value} {lab : Nat → Option Nat} {st : CSt}
theorem cstep_set {w : World} {F : Nat → Prop} {g : Nat} (hg : F g) (i : Nat) (u : Value) : PStep w (w.setCell ⟨g, i, none⟩ u) F F :=
 ⟨rfl, rfl, rfl, by simp [World.setCell], fun x hx hF => setCell_heap_ne _ _ _ (fun e => hF (by have : x = g := e; rw [this]; exact hg)), fun _ h => .inl h⟩
theorem cstep_push {o : Obj} {v u : Value} {F F' : Nat → Prop} (hgr : (W.alloc o).grownBy w3 v.ownBlock) (hv : ∀ g, v.ownBlock = some g → F g) {g : Nat} (hg : F g) {i : Nat} (hF : ∀ x, F' x → F x ∨ W.heap.size ≤ x) : PStep W (w3.setCell ⟨g, i, none⟩ u) F F' := by
 have hb1 : Below W.heap.size W (W.alloc o) := (Below.refl _ _).alloc (Nat.le_refl _) _
 refine ⟨hgr.os.trans hb1.os, hgr.tape.trans hb1.tape, hgr.output.trans hb1.output, ?_, fun x hx hnF => ?_, hF⟩
 ·have := hgr.size; have := hb1.size; simp [World.setCell]; omega
 ·rw [setCell_heap_ne _ _ _ (fun e => hnF (by have : x = g := e; rw [this]; exact hg)), hgr.block x (Nat.lt_of_lt_of_le hx hb1.size) (fun e => hnF (hv x e.symm)), hb1.block x hx]
def labPut (lab : Nat → Option Nat) (v : Value) (t : Nat) : Nat → Option Nat := fun g => if v.ownBlock = some g then some t else lab g
theorem own_grew {e e' : TypeId} {k k' n n' : Nat} {v v' : Value} {xs xs' : List Value} {o : Obj} {b b' : Nat} (h : W.ownsRow b e k v n xs) (h0 : W.ownsRow b' e' k' v' n' xs') (hne : e ≠ e') (hgr : (W.alloc o).grownBy w3 v'.ownBlock) : w3.ownsRow b e k v n xs := by
 have hb1 : Below W.heap.size W (W.alloc o) := (Below.refl _ _).alloc (Nat.le_refl _) _
 have h1 := own_below h hb1
 have h2 := own_below h0 hb1
 exact own_same h1 (fun g hg => hgr.block g (h1.lt g hg).2 (fun e2 => by
  rcases own_ne h1 h2 hne with e3 | e3
  ·rw [e3] at hg; cases hg
  ·exact e3 (hg.trans e2)))
theorem arr_grew {e' t : TypeId} {k' n' g : Nat} {v' : Value} {xs us : List Value} {o : Obj} {b' : Nat} (h : Arr W g t us) (h0 : W.ownsRow b' e' k' v' n' xs) (hne : e' ≠ t) (hgr : (W.alloc o).grownBy w3 v'.ownBlock) : Arr w3 g t us := by
 have hb1 : Below W.heap.size W (W.alloc o) := (Below.refl _ _).alloc (Nat.le_refl _) _
 exact (h.keep hb1).grown hgr (fun e => own_arr (own_below h0 hb1) (h.keep hb1) hne e.symm)
theorem BRow.other {t t0 : Nat} {v v0 v' : Value} {xs xs0 : List Int} {o : Obj} (h : BRow W B lab t v xs) (h0 : BRow W B lab t0 v0 xs0) (ht : t ≠ t0) (hgr : (W.alloc o).grownBy w3 v0.ownBlock)
  (hat : v'.ownBlock = v0.ownBlock ∨ v'.ownBlock = some (W.alloc o).heap.size) : BRow w3 B (labPut lab v' t0) t v xs := by
 have hb1 : Below W.heap.size W (W.alloc o) := (Below.refl _ _).alloc (Nat.le_refl _) _
 have h1 := own_below h.1 hb1
 refine ⟨own_same h1 (fun g hg => hgr.block g (h1.lt g hg).2 (fun e2 => ?_)), fun g hg => ?_⟩
 ·have h6 := h.2 g hg
  have h7 := h0.2 g e2.symm
  rw [h6] at h7
  exact ht (Option.some.inj h7)
 ·unfold labPut
  by_cases e : v'.ownBlock = some g
  ·exfalso
   rcases hat with e2 | e2
   ·have h6 := h.2 g hg
    have h7 := h0.2 g (e2.symm.trans e)
    rw [h6] at h7
    exact ht (Option.some.inj h7)
   ·rw [e2] at e
    have := (h.1.lt g hg).2
    have h8 := Option.some.inj e
    simp at h8
    omega
  ·rw [if_neg e]; exact h.2 g hg
theorem BRow.pushed {t0 : Nat} {v' : Value} {xs0 : List Int} {x : Int} (hown : w3.ownsRow B 3 1 v' (xs0.length + 1) (I64 xs0 ++ [.int .i64 x])) : BRow w3 B (labPut lab v' t0) t0 v' (xs0 ++ [x]) := by
 refine ⟨?_, fun g hg => by unfold labPut; rw [if_pos hg]⟩
 rw [List.length_append, ← I64_app]
 exact hown
theorem labPut_B {t0 : Nat} {v0 v' : Value} {n : Nat} {xs : List Value} {o : Obj} (hB : ∀ g, (lab g).isSome = true → B ≤ g ∧ g < W.heap.size) (hown : w3.ownsRow B 3 1 v' n xs) (hgr : (W.alloc o).grownBy w3 v0.ownBlock) :
  ∀ g, (labPut lab v' t0 g).isSome = true → B ≤ g ∧ g < w3.heap.size := fun g hg => by
 have hsz := hgr.size
 simp at hsz
 unfold labPut at hg
 by_cases e : v'.ownBlock = some g
 ·exact hown.lt g e
 ·rw [if_neg e] at hg
  have := hB g hg
  exact ⟨this.1, by omega⟩
theorem labPut_F {t0 : Nat} {v0 v' : Value} {xs0 : List Int} {o : Obj} (h0 : BRow W B lab t0 v0 xs0) (hat : v'.ownBlock = v0.ownBlock ∨ v'.ownBlock = some (W.alloc o).heap.size) : ∀ y, CF B vn vs (labPut lab v' t0) y → CF B vn vs lab y ∨ W.heap.size ≤ y := by
 rintro y (e | e | e | e)
 ·exact .inl (.inl e)
 ·exact .inl (.inr (.inl e))
 ·exact .inl (.inr (.inr (.inl e)))
 ·unfold labPut at e
  by_cases e1 : v'.ownBlock = some y
  ·rcases hat with e2 | e2
   ·exact .inl (.inr (.inr (.inr (by rw [h0.2 y (e2.symm.trans e1)]; rfl))))
   ·rw [e2] at e1; have h8 := Option.some.inj e1; simp at h8; exact .inr (by omega)
  ·rw [if_neg e1] at e; exact .inl (.inr (.inr (.inr e)))
theorem CM.addNode (h : CM W B s vn vs vh vm ncs lab st) (nd : GNode) (hk : nd.keys = []) (hi : nd.items = []) (v' : Value)
  (hown : w3.ownsRow B 60 5 v' (st.nodes.length + 1) (ncs ++ [.int .i64 nd.kind, .string (mks nd.text), .bool nd.ord, .slice none 0 0, .slice none 0 0]))
  (hgr : (W.alloc (.cells #[.int .i64 nd.kind, .string (mks nd.text), .bool nd.ord, .slice none 0 0, .slice none 0 0] 60)).grownBy w3 vn.ownBlock)
  (hat : v'.ownBlock = vn.ownBlock ∨ v'.ownBlock = some (W.alloc (.cells #[.int .i64 nd.kind, .string (mks nd.text), .bool nd.ord, .slice none 0 0, .slice none 0 0] 60)).heap.size) :
  Arr w3 B 46 (parCB s vn vs vh vm st) ∧
  CM (w3.setCell ⟨B, 4, none⟩ v') B s v' vs vh vm (ncs ++ [.int .i64 nd.kind, .string (mks nd.text), .bool nd.ord, .slice none 0 0, .slice none 0 0]) lab { st with nodes := st.nodes ++ [nd] } ∧ PStep W (w3.setCell ⟨B, 4, none⟩ v') (CF B vn vs lab) (CF B v' vs lab) := by
 have hlt := h.lt
 have hl := h.nlen
 have hsz : (W.alloc (.cells #[.int .i64 nd.kind, .string (mks nd.text), .bool nd.ord, .slice none 0 0, .slice none 0 0] 60)).heap.size = W.heap.size + 1 := by simp
 have P3 := arr_grew h.par h.nod (by decide) hgr
 have hv' : v'.ownBlock ≠ some B := by
  rcases hat with e | e
  ·rw [e]; exact h.nodNe
  ·rw [e, hsz]; intro e'; have := Option.some.inj e'; omega
 have hrow : ∀ {t v xs}, BRow W B lab t v xs → BRow (w3.setCell ⟨B, 4, none⟩ v') B lab t v xs := fun hr => BRow.far (p := ⟨B, 4, none⟩) ⟨own_grew hr.1 h.nod (by decide) hgr, hr.2⟩ (h.rowNe hr) v'
 refine ⟨P3, ⟨P3.store 4 v', ?_, ?_, own_far (own_grew h.spn h.nod (by decide) hgr) (p := ⟨B, 4, none⟩) h.spnNe v', hrow h.shr, hrow h.mrk, fun g hg => ⟨(h.labB g hg).1, by have := (h.labB g hg).2; have := hgr.size; rw [hsz] at this; simp [World.setCell]; omega⟩⟩, cstep_push hgr (fun g e => .inr (.inl e)) (.inl rfl) ?_⟩
 ·rw [List.length_append]; exact own_far hown (p := ⟨B, 4, none⟩) hv' v'
 ·intro i x hx
  by_cases hlt2 : i < st.nodes.length
  ·rw [List.getElem?_append_left hlt2] at hx
   rw [List.drop_append_of_le_length (by rw [hl]; omega), List.take_append_of_le_length (by rw [List.length_drop, hl]; omega)]
   exact (h.nds i x hx).map (fun _ _ _ _ hr => hrow hr)
  ·have hi2 := (List.getElem?_eq_some_iff.1 hx).1
   rw [List.length_append, List.length_singleton] at hi2
   obtain rfl : i = st.nodes.length := by omega
   rw [List.getElem?_append_right (Nat.le_refl _), Nat.sub_self] at hx
   obtain rfl : nd = x := by simpa using hx
   rw [← hl, List.drop_left]
   refine ⟨.slice none 0 0, .slice none 0 0, rfl, ⟨?_, fun g e => by simp [Value.ownBlock] at e⟩, ⟨?_, fun g e => by simp [Value.ownBlock] at e⟩⟩
   ·rw [hk]; exact World.ownsRow_nil _ _ _ _
   ·rw [hi]; exact World.ownsRow_nil _ _ _ _
 ·rintro x (e | e | e | e)
  ·exact .inl (.inl e)
  ·rcases hat with e2 | e2
   ·exact .inl (.inr (.inl (e2.symm.trans e)))
   ·rw [e2, hsz] at e; have := Option.some.inj e; exact .inr (by omega)
  ·exact .inl (.inr (.inr (.inl e)))
  ·exact .inl (.inr (.inr (.inr e)))
theorem CM.addSpan (h : CM W B s vn vs vh vm ncs lab st) (sp : JSpan) (v' : Value)
  (hown : w3.ownsRow B 55 9 v' (st.spans.length + 1) (spansC st.spans ++ spanC sp))
  (hgr : (W.alloc (.cells (spanC sp).toArray 55)).grownBy w3 vs.ownBlock)
  (hat : v'.ownBlock = vs.ownBlock ∨ v'.ownBlock = some (W.alloc (.cells (spanC sp).toArray 55)).heap.size) :
  Arr w3 B 46 (parCB s vn vs vh vm st) ∧
  CM (w3.setCell ⟨B, 6, none⟩ v') B s vn v' vh vm ncs lab { st with spans := st.spans ++ [sp] } ∧ PStep W (w3.setCell ⟨B, 6, none⟩ v') (CF B vn vs lab) (CF B vn v' lab) := by
 have hlt := h.lt
 have hsz : (W.alloc (.cells (spanC sp).toArray 55)).heap.size = W.heap.size + 1 := by simp
 have P3 := arr_grew h.par h.spn (by decide) hgr
 have hv' : v'.ownBlock ≠ some B := by
  rcases hat with e | e
  ·rw [e]; exact h.spnNe
  ·rw [e, hsz]; intro e'; have := Option.some.inj e'; omega
 have hrow : ∀ {t v xs}, BRow W B lab t v xs → BRow (w3.setCell ⟨B, 6, none⟩ v') B lab t v xs := fun hr => BRow.far (p := ⟨B, 6, none⟩) ⟨own_grew hr.1 h.spn (by decide) hgr, hr.2⟩ (h.rowNe hr) v'
 refine ⟨P3, ⟨P3.store 6 v', own_far (own_grew h.nod h.spn (by decide) hgr) (p := ⟨B, 6, none⟩) h.nodNe v', fun i x hx => (h.nds i x hx).map (fun _ _ _ _ hr => hrow hr), ?_, hrow h.shr, hrow h.mrk, fun g hg => ⟨(h.labB g hg).1, by have := (h.labB g hg).2; have := hgr.size; rw [hsz] at this; simp [World.setCell]; omega⟩⟩, cstep_push hgr (fun g e => .inr (.inr (.inl e))) (.inl rfl) ?_⟩
 ·rw [List.length_append, spansC_snoc]; exact own_far hown (p := ⟨B, 6, none⟩) hv' v'
 ·rintro x (e | e | e | e)
  ·exact .inl (.inl e)
  ·exact .inl (.inr (.inl e))
  ·rcases hat with e2 | e2
   ·exact .inl (.inr (.inr (.inl (e2.symm.trans e))))
   ·rw [e2, hsz] at e; have := Option.some.inj e; exact .inr (by omega)
  ·exact .inl (.inr (.inr (.inr e)))
theorem CM.addShared (h : CM W B s vn vs vh vm ncs lab st) (x : Int) (v' : Value)
  (hown : w3.ownsRow B 3 1 v' (st.shared.length + 1) (I64 st.shared ++ [.int .i64 x])) (hgr : (W.alloc (.cells #[.int .i64 x] 3)).grownBy w3 (vh).ownBlock)
  (hat : v'.ownBlock = (vh).ownBlock ∨ v'.ownBlock = some (W.alloc (.cells #[.int .i64 x] 3)).heap.size) :
  Arr w3 B 46 (parCB s vn vs vh vm st) ∧
  CM (w3.setCell ⟨B, 8, none⟩ v') B s vn vs v' vm ncs (labPut lab v' 0) { st with shared := st.shared ++ [x] } ∧ PStep W (w3.setCell ⟨B, 8, none⟩ v') (CF B vn vs lab) (CF B vn vs (labPut lab v' 0)) := by
 have hlt := h.lt
 have hsz : (W.alloc (.cells #[.int .i64 x] 3)).heap.size = W.heap.size + 1 := by simp
 have P3 := arr_grew h.par h.shr.1 (by decide) hgr
 have hv' : v'.ownBlock ≠ some B := by
  rcases hat with e | e
  ·rw [e]; exact h.rowNe h.shr
  ·rw [e, hsz]; intro e'; have := Option.some.inj e'; omega
 have hrow : ∀ {t v xs}, t ≠ 0 → BRow W B lab t v xs → BRow (w3.setCell ⟨B, 8, none⟩ v') B (labPut lab v' 0) t v xs := fun ht hr => BRow.far (p := ⟨B, 8, none⟩) (hr.other h.shr ht hgr hat) (h.rowNe hr) v'
 have hnew : BRow w3 B (labPut lab v' 0) 0 v' (st.shared ++ [x]) := BRow.pushed hown
 refine ⟨P3, ⟨P3.store 8 v', own_far (own_grew h.nod h.shr.1 (by decide) hgr) (p := ⟨B, 8, none⟩) h.nodNe v', fun i x hx => (h.nds i x hx).map (fun _ _ _ ht hr => hrow (by omega) hr), own_far (own_grew h.spn h.shr.1 (by decide) hgr) (p := ⟨B, 8, none⟩) h.spnNe v', (hnew.far (p := ⟨B, 8, none⟩) hv' v'), (hrow (by decide) h.mrk), ?_⟩, cstep_push hgr (fun g e => .inr (.inr (.inr (by rw [h.shr.2 g e]; rfl)))) (.inl rfl) (labPut_F h.shr hat)⟩
 intro g hg
 have := labPut_B h.labB hown hgr g hg
 simpa [World.setCell] using this
theorem CM.addMark (h : CM W B s vn vs vh vm ncs lab st) (x : Int) (v' : Value)
  (hown : w3.ownsRow B 3 1 v' (st.marks.length + 1) (I64 st.marks ++ [.int .i64 x])) (hgr : (W.alloc (.cells #[.int .i64 x] 3)).grownBy w3 (vm).ownBlock)
  (hat : v'.ownBlock = (vm).ownBlock ∨ v'.ownBlock = some (W.alloc (.cells #[.int .i64 x] 3)).heap.size) :
  Arr w3 B 46 (parCB s vn vs vh vm st) ∧
  CM (w3.setCell ⟨B, 9, none⟩ v') B s vn vs vh v' ncs (labPut lab v' 1) { st with marks := st.marks ++ [x] } ∧ PStep W (w3.setCell ⟨B, 9, none⟩ v') (CF B vn vs lab) (CF B vn vs (labPut lab v' 1)) := by
 have hlt := h.lt
 have hsz : (W.alloc (.cells #[.int .i64 x] 3)).heap.size = W.heap.size + 1 := by simp
 have P3 := arr_grew h.par h.mrk.1 (by decide) hgr
 have hv' : v'.ownBlock ≠ some B := by
  rcases hat with e | e
  ·rw [e]; exact h.rowNe h.mrk
  ·rw [e, hsz]; intro e'; have := Option.some.inj e'; omega
 have hrow : ∀ {t v xs}, t ≠ 1 → BRow W B lab t v xs → BRow (w3.setCell ⟨B, 9, none⟩ v') B (labPut lab v' 1) t v xs := fun ht hr => BRow.far (p := ⟨B, 9, none⟩) (hr.other h.mrk ht hgr hat) (h.rowNe hr) v'
 have hnew : BRow w3 B (labPut lab v' 1) 1 v' (st.marks ++ [x]) := BRow.pushed hown
 refine ⟨P3, ⟨P3.store 9 v', own_far (own_grew h.nod h.mrk.1 (by decide) hgr) (p := ⟨B, 9, none⟩) h.nodNe v', fun i x hx => (h.nds i x hx).map (fun _ _ _ ht hr => hrow (by omega) hr), own_far (own_grew h.spn h.mrk.1 (by decide) hgr) (p := ⟨B, 9, none⟩) h.spnNe v', (hrow (by decide) h.shr), (hnew.far (p := ⟨B, 9, none⟩) hv' v'), ?_⟩, cstep_push hgr (fun g e => .inr (.inr (.inr (by rw [h.mrk.2 g e]; rfl)))) (.inl rfl) (labPut_F h.mrk hat)⟩
 intro g hg
 have := labPut_B h.labB hown hgr g hg
 simpa [World.setCell] using this
theorem CM.addKeys (h : CM W B s vn vs vh vm ncs lab st) {n : Nat} {nd : GNode} (hn : st.nodes[n]? = some nd) {vk vi : Value} (hcs : (ncs.drop (n * 5)).take 5 = [.int .i64 nd.kind, .string (mks nd.text), .bool nd.ord, vk, vi])
  (h2 : BRow W B lab (2 * n + 2) vk nd.keys) (h3 : BRow W B lab (2 * n + 3) vi nd.items) {gn cap : Nat} (hvn : vn = .slice (some ⟨gn, 0, none⟩) st.nodes.length cap) (x : Int) (v' : Value)
  (hown : w3.ownsRow B 3 1 v' (nd.keys.length + 1) (I64 nd.keys ++ [.int .i64 x])) (hgr : (W.alloc (.cells #[.int .i64 x] 3)).grownBy w3 (vk).ownBlock)
  (hat : v'.ownBlock = (vk).ownBlock ∨ v'.ownBlock = some (W.alloc (.cells #[.int .i64 x] 3)).heap.size) :
  Arr w3 B 46 (parCB s vn vs vh vm st) ∧ w3.ownsRow B 60 5 vn st.nodes.length ncs ∧
  CM (w3.setCell ⟨gn, n * 5 + 3, none⟩ v') B s vn vs vh vm (ncs.set (n * 5 + 3) v') (labPut lab v' (2 * n + 2)) { st with nodes := st.nodes.set n { nd with keys := nd.keys ++ [x] } } ∧ PStep W (w3.setCell ⟨gn, n * 5 + 3, none⟩ v') (CF B vn vs lab) (CF B vn vs (labPut lab v' (2 * n + 2))) := by
 have hlt := h.lt
 have P3 := arr_grew h.par h2.1 (by decide) hgr
 have hnod := own_grew h.nod h2.1 (by decide) hgr
 have hspn := own_grew h.spn h2.1 (by decide) hgr
 have hfar : ∀ {e kk v m xs}, w3.ownsRow B e kk v m xs → e ≠ 60 → v.ownBlock ≠ some gn := fun {e kk v m xs} ho hne e2 => by
  rcases own_ne ho hnod hne with e3 | e3
  ·rw [e3] at e2; cases e2
  ·exact e3 (e2.trans (by rw [hvn]; rfl))
 have hrow : ∀ {t v xs}, t ≠ 2 * n + 2 → BRow W B lab t v xs → BRow (w3.setCell ⟨gn, n * 5 + 3, none⟩ v') B (labPut lab v' (2 * n + 2)) t v xs := fun ht hr => BRow.far (p := ⟨gn, n * 5 + 3, none⟩) (hr.other h2 ht hgr hat) (hfar (hr.other h2 ht hgr hat).1 (by decide)) v'
 have hnew : BRow w3 B (labPut lab v' (2 * n + 2)) (2 * n + 2) v' (nd.keys ++ [x]) := BRow.pushed hown
 have hne := hfar hown (by decide)
 refine ⟨P3, hnod, ⟨?_, ?_, ?_, own_far hspn (p := ⟨gn, n * 5 + 3, none⟩) (hfar hspn (by decide)) v', hrow (by omega) h.shr, hrow (by omega) h.mrk, ?_⟩, cstep_push hgr (fun g e => .inr (.inr (.inr (by rw [h2.2 g e]; rfl)))) (.inr (.inl (by rw [hvn]; rfl))) (labPut_F h2 hat)⟩
 ·exact P3.far (p := ⟨gn, n * 5 + 3, none⟩) (fun e => h.nodNe (by rw [hvn]; exact congrArg some e.symm)) v'
 ·rw [List.length_set]
  rw [hvn] at hnod ⊢
  exact own_put hnod _ _
 ·intro i y hy
  rcases set_get_eqB hn hy with ⟨rfl, rfl⟩ | ⟨hne2, hy⟩
  ·rw [five_sameB _ _ _ _ (by decide), hcs]
   exact ⟨v', vi, rfl, hnew.far (p := ⟨gn, i * 5 + 3, none⟩) hne v', hrow (by omega) h3⟩
  ·rw [five_otherB _ _ _ _ _ (by decide) hne2]
   exact (h.nds i y hy).map (fun _ _ _ ht hr => hrow (by omega) hr)
 ·intro g hg
  have := labPut_B h.labB hown hgr g hg
  simpa [World.setCell] using this
theorem CM.addItems (h : CM W B s vn vs vh vm ncs lab st) {n : Nat} {nd : GNode} (hn : st.nodes[n]? = some nd) {vk vi : Value} (hcs : (ncs.drop (n * 5)).take 5 = [.int .i64 nd.kind, .string (mks nd.text), .bool nd.ord, vk, vi])
  (h2 : BRow W B lab (2 * n + 2) vk nd.keys) (h3 : BRow W B lab (2 * n + 3) vi nd.items) {gn cap : Nat} (hvn : vn = .slice (some ⟨gn, 0, none⟩) st.nodes.length cap) (x : Int) (v' : Value)
  (hown : w3.ownsRow B 3 1 v' (nd.items.length + 1) (I64 nd.items ++ [.int .i64 x])) (hgr : (W.alloc (.cells #[.int .i64 x] 3)).grownBy w3 (vi).ownBlock)
  (hat : v'.ownBlock = (vi).ownBlock ∨ v'.ownBlock = some (W.alloc (.cells #[.int .i64 x] 3)).heap.size) :
  Arr w3 B 46 (parCB s vn vs vh vm st) ∧ w3.ownsRow B 60 5 vn st.nodes.length ncs ∧
  CM (w3.setCell ⟨gn, n * 5 + 4, none⟩ v') B s vn vs vh vm (ncs.set (n * 5 + 4) v') (labPut lab v' (2 * n + 3)) { st with nodes := st.nodes.set n { nd with items := nd.items ++ [x] } } ∧ PStep W (w3.setCell ⟨gn, n * 5 + 4, none⟩ v') (CF B vn vs lab) (CF B vn vs (labPut lab v' (2 * n + 3))) := by
 have hlt := h.lt
 have P3 := arr_grew h.par h3.1 (by decide) hgr
 have hnod := own_grew h.nod h3.1 (by decide) hgr
 have hspn := own_grew h.spn h3.1 (by decide) hgr
 have hfar : ∀ {e kk v m xs}, w3.ownsRow B e kk v m xs → e ≠ 60 → v.ownBlock ≠ some gn := fun {e kk v m xs} ho hne e2 => by
  rcases own_ne ho hnod hne with e3 | e3
  ·rw [e3] at e2; cases e2
  ·exact e3 (e2.trans (by rw [hvn]; rfl))
 have hrow : ∀ {t v xs}, t ≠ 2 * n + 3 → BRow W B lab t v xs → BRow (w3.setCell ⟨gn, n * 5 + 4, none⟩ v') B (labPut lab v' (2 * n + 3)) t v xs := fun ht hr => BRow.far (p := ⟨gn, n * 5 + 4, none⟩) (hr.other h3 ht hgr hat) (hfar (hr.other h3 ht hgr hat).1 (by decide)) v'
 have hnew : BRow w3 B (labPut lab v' (2 * n + 3)) (2 * n + 3) v' (nd.items ++ [x]) := BRow.pushed hown
 have hne := hfar hown (by decide)
 refine ⟨P3, hnod, ⟨?_, ?_, ?_, own_far hspn (p := ⟨gn, n * 5 + 4, none⟩) (hfar hspn (by decide)) v', hrow (by omega) h.shr, hrow (by omega) h.mrk, ?_⟩, cstep_push hgr (fun g e => .inr (.inr (.inr (by rw [h3.2 g e]; rfl)))) (.inr (.inl (by rw [hvn]; rfl))) (labPut_F h3 hat)⟩
 ·exact P3.far (p := ⟨gn, n * 5 + 4, none⟩) (fun e => h.nodNe (by rw [hvn]; exact congrArg some e.symm)) v'
 ·rw [List.length_set]
  rw [hvn] at hnod ⊢
  exact own_put hnod _ _
 ·intro i y hy
  rcases set_get_eqB hn hy with ⟨rfl, rfl⟩ | ⟨hne2, hy⟩
  ·rw [five_sameB _ _ _ _ (by decide), hcs]
   exact ⟨vk, v', rfl, hrow (by omega) h2, hnew.far (p := ⟨gn, i * 5 + 4, none⟩) hne v'⟩
  ·rw [five_otherB _ _ _ _ _ (by decide) hne2]
   exact (h.nds i y hy).map (fun _ _ _ ht hr => hrow (by omega) hr)
 ·intro g hg
  have := labPut_B h.labB hown hgr g hg
  simpa [World.setCell] using this
theorem CM.spanSet (h : CM W B s vn vs vh vm ncs lab st) {gs cap : Nat} (hvs : vs = .slice (some ⟨gs, 0, none⟩) st.spans.length cap) (j : Nat) (u : Value) (sp : List JSpan) (hsl : sp.length = st.spans.length) (hsp : (spansC st.spans).set j u = spansC sp) :
  CM (W.setCell ⟨gs, j, none⟩ u) B s vn vs vh vm ncs lab { st with spans := sp } ∧ PStep W (W.setCell ⟨gs, j, none⟩ u) (CF B vn vs lab) (CF B vn vs lab) := by
 have hfar : ∀ {e kk v m xs}, W.ownsRow B e kk v m xs → e ≠ 55 → v.ownBlock ≠ some gs := fun {e kk v m xs} ho hne e2 => by
  rcases own_ne ho h.spn hne with e3 | e3
  ·rw [e3] at e2; cases e2
  ·exact e3 (e2.trans (by rw [hvs]; rfl))
 have hrow : ∀ {t v xs}, BRow W B lab t v xs → BRow (W.setCell ⟨gs, j, none⟩ u) B lab t v xs := fun hr => hr.far (p := ⟨gs, j, none⟩) (hfar hr.1 (by decide)) u
 refine ⟨⟨h.par.far (p := ⟨gs, j, none⟩) (fun e => h.spnNe (by rw [hvs]; exact congrArg some e.symm)) u, own_far h.nod (p := ⟨gs, j, none⟩) (hfar h.nod (by decide)) u, fun i y hy => (h.nds i y hy).map (fun _ _ _ _ hr => hrow hr), ?_, hrow h.shr, hrow h.mrk, fun g hg => by have := h.labB g hg; simpa [World.setCell] using this⟩, cstep_set (.inr (.inr (.inl (by rw [hvs]; rfl)))) j u⟩
 have h1 := h.spn
 rw [hvs] at h1 ⊢
 show (W.setCell ⟨gs, j, none⟩ u).ownsRow B 55 9 (.slice (some ⟨gs, 0, none⟩) st.spans.length cap) sp.length (spansC sp)
 rw [← hsp, hsl]
 exact own_put h1 j u
theorem CM.sharedSet (h : CM W B s vn vs vh vm ncs lab st) {gh cap : Nat} (hvh : vh = .slice (some ⟨gh, 0, none⟩) st.shared.length cap) (j : Nat) (x : Int) :
  CM (W.setCell ⟨gh, j, none⟩ (.int .i64 x)) B s vn vs vh vm ncs lab { st with shared := st.shared.set j x } ∧ PStep W (W.setCell ⟨gh, j, none⟩ (.int .i64 x)) (CF B vn vs lab) (CF B vn vs lab) := by
 have hL : lab gh = some 0 := h.shr.2 gh (by rw [hvh]; rfl)
 have hfar : ∀ {e kk v m xs}, W.ownsRow B e kk v m xs → e ≠ 3 → v.ownBlock ≠ some gh := fun {e kk v m xs} ho hne e2 => by
  rcases own_ne ho h.shr.1 hne with e3 | e3
  ·rw [e3] at e2; cases e2
  ·exact e3 (e2.trans (by rw [hvh]; rfl))
 have hrow : ∀ {t v xs}, t ≠ 0 → BRow W B lab t v xs → BRow (W.setCell ⟨gh, j, none⟩ (.int .i64 x)) B lab t v xs := fun ht hr => hr.far (p := ⟨gh, j, none⟩) (fun e => by
  have := hr.2 gh e
  rw [hL] at this
  exact ht (Option.some.inj this).symm) _
 refine ⟨⟨h.par.far (p := ⟨gh, j, none⟩) (fun e => h.rowNe h.shr (by rw [hvh]; exact congrArg some e.symm)) _, own_far h.nod (p := ⟨gh, j, none⟩) (hfar h.nod (by decide)) _, fun i y hy => (h.nds i y hy).map (fun _ _ _ ht hr => hrow (by omega) hr), own_far h.spn (p := ⟨gh, j, none⟩) (hfar h.spn (by decide)) _, ⟨?_, h.shr.2⟩, hrow (by decide) h.mrk, fun g hg => by have := h.labB g hg; simpa [World.setCell] using this⟩, cstep_set (.inr (.inr (.inr (by rw [hL]; rfl)))) j _⟩
 have h1 := h.shr.1
 rw [hvh] at h1 ⊢
 show (W.setCell ⟨gh, j, none⟩ (.int .i64 x)).ownsRow B 3 1 (.slice (some ⟨gh, 0, none⟩) st.shared.length cap) (st.shared.set j x).length (I64 (st.shared.set j x))
 rw [← I64_set, List.length_set]
 exact own_put h1 j _
end
end Go.Proofs.YtbhigefbihpnlaaGreatDoor
