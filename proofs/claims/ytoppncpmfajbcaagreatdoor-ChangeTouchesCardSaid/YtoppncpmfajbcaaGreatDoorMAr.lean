/- The walk of the closure 'step' in graph's components: an edge. -/
import Derived.Test.YtoppncpmfajbcaaGreatDoorMAq
import Derived.StillTailTactics
import Derived.Test.YtoppncpmfajbcaaGreatDoorMAj
import Derived.Maps.OwnOps
import Derived.Maps.Views
import Derived.StringKeys
import Derived.Test.YtoppncpmfajbcaaGreatDoorMAb
set_option linter.unusedVariables false
set_option linter.unusedSimpArgs false
set_option linter.defProp false
set_option linter.constructorNameAsVariable false
namespace Go.Proofs.YtoppncpmfajbcaaGreatDoor
open Go.RowKit
def VisT (B g o c : Nat) (nodes : List GNode) (root : Int) (e : TB) (f : Nat) : Prop := ∀ (k : Nat) (w : World) (F : Nat → Prop) (vs vz : Value) (s s' : TS), visitT nodes f (k : Int) s = some s' → k < nodes.length → gI s.index (k : Int) = 0 → TOK nodes.length s → TE w B g o c nodes root F e vs vz s →
 Calls Tryz.prog 85 #[.int .i64 (k : Int), .pointer (some ⟨e.nx, 0, none⟩), .pointer (some ⟨e.ix, 0, none⟩), .pointer (some ⟨e.lw, 0, none⟩), .pointer (some ⟨e.st, 0, none⟩), .pointer (some ⟨e.on_, 0, none⟩), .pointer (some ⟨e.vi, 0, none⟩), .pointer (some ⟨e.gr, 0, none⟩), .pointer (some ⟨e.sz, 0, none⟩), .pointer (some ⟨e.in_, 0, none⟩)] w (TC w B g o c nodes root F e s')
theorem gI_nat (l : List Int) (k : Nat) : gI l (k : Int) = l.getD k 0 := by unfold gI; rw [Int.toNat_natCast]
theorem sI_nat (l : List Int) (k : Nat) (v : Int) : sI l (k : Int) v = l.set k v := by unfold sI; rw [Int.toNat_natCast]
section
variable {w : World} {B g o c : Nat} {nodes : List GNode} {root : Int} {F : Nat → Prop} {e : TB} {vs vz : Value} {s : TS}
theorem TE.cell_im (h : TE w B g o c nodes root F e vs vz s) {k : Nat} (hk : k < s.index.length) : w.cell? ⟨e.im, k, none⟩ = some (.int .i64 (s.index.getD k 0)) := h.im.cell' (I64_getD hk)
theorem TE.cell_lm (h : TE w B g o c nodes root F e vs vz s) {k : Nat} (hk : k < s.low.length) : w.cell? ⟨e.lm, k, none⟩ = some (.int .i64 (s.low.getD k 0)) := h.lm.cell' (I64_getD hk)
theorem TE.cell_nm (h : TE w B g o c nodes root F e vs vz s) {k : Nat} (hk : k < s.inn.length) : w.cell? ⟨e.nm, k, none⟩ = some (.int .i64 (s.inn.getD k 0)) := h.nm.cell' (I64_getD hk)
theorem TE.cell_om (h : TE w B g o c nodes root F e vs vz s) {k : Nat} (hk : k < s.on.length) : w.cell? ⟨e.om, k, none⟩ = some (.bool (s.on.getD k false)) := h.om.cell' (Bs_get hk)
theorem TE.low_at (h : TE w B g o c nodes root F e vs vz s) (a : Nat) (v : Int) : TE (w.setCell ⟨e.lm, a, none⟩ (.int .i64 v)).drew B g o c nodes root F e vs vz { s with low := sI s.low (a : Int) v } ∧ PStep w (w.setCell ⟨e.lm, a, none⟩ (.int .i64 v)).drew F F := by
 have hg := grown_set w ⟨e.lm, a, none⟩ (.int .i64 v)
 have hb : Below (w.setCell ⟨e.lm, a, none⟩ (.int .i64 v)).heap.size (w.setCell ⟨e.lm, a, none⟩ (.int .i64 v)) (w.setCell ⟨e.lm, a, none⟩ (.int .i64 v)).drew := (Below.refl _ _).drew
 refine ⟨(h.set_lm (sI s.low (a : Int) v) hg ?_).kept hb, (pstep_grown hg h.fw.2.2.1).trans (PStep.of_below hb)⟩
 have h2 := h.lm.store a (.int .i64 v)
 rw [I64_set] at h2
 rw [sI_nat]
 exact h2
end
set_option maxRecDepth 20000 in
set_option maxHeartbeats 4000000 in
theorem step_any {B g o c : Nat} {nodes : List GNode} {root : Int} {e : TB} {f : Nat} (hv : VisT B g o c nodes root e f) (hI : Idx nodes) (a k ab : Nat) (ha : a < nodes.length) (hk : k < nodes.length) (w : World) (F : Nat → Prop) (vs vz : Value) (s s' : TS) (h : stepT (visitT nodes f) (a : Int) (k : Int) s = some s') (hT : TOK nodes.length s)
  (hE : TE w B g o c nodes root F e vs vz s) (hA : Arr w ab 3 [.int .i64 (a : Int)]) (hab : ¬ F ab) :
  Calls Tryz.prog 86 #[.int .i64 (k : Int), .pointer (some ⟨e.ix, 0, none⟩), .pointer (some ⟨e.vi, 0, none⟩), .pointer (some ⟨e.lw, 0, none⟩), .pointer (some ⟨ab, 0, none⟩), .pointer (some ⟨e.on_, 0, none⟩)] w (TC w B g o c nodes root F e s') := by
 have hk0 : (0 : Int) ≤ k := by omega
 have hk1 : (k : Int) < nodes.length := by omega
 have ha0 : (0 : Int) ≤ a := by omega
 have ha1 : (a : Int) < nodes.length := by omega
 have x0 := hE.ix.cell' (i := 0) rfl
 have x1 := hE.cell_im (k := k) (by rw [hT.li]; exact hk)
 unfold stepT at h
 rw [gI_nat] at h
 by_cases h0 : s.index.getD k 0 = 0
 ·rw [if_pos h0] at h
  rw [h0] at x1
  cases hs1 : visitT nodes f (k : Int) s with
  | none => rw [hs1] at h; cases h
  | some s1 =>
   rw [hs1] at h
   have h' : { s1 with low := sI s1.low (a : Int) (min (gI s1.low (a : Int)) (gI s1.low (k : Int))) } = s' := Option.some.inj h
   have hT1 := TOK.visit hI f (k : Int) s s1 ⟨by omega, by omega⟩ (by rw [gI_nat]; exact h0) hT hs1
   have D := Lib.hid (hv k w F vs vz s s1 hs1 hk (by rw [gI_nat]; exact h0) hT hE)
   have v0 := hE.vi.cell' (i := 0) rfl
   unfold visitFn at v0
   have HS := Lib.hid h'
   have hAl := hA.lt
   clear h h' hs1 h0
   go_enter Tryz.func86, Tryz.ntmps86
   go_upto_region 2 with (go_at_call 85; ((with_reducible refine D.out.mono ?_)); rintro en w1 ⟨rfl, F1, vs1, vz1, hE1, hP1⟩)
   have hA1 := hP1.arr hA hab
   have hab1 := hP1.out hAl hab
   have y0 := hE1.out.lw.cell' (i := 0) rfl
   have y1 := hA1.cell' (i := 0) rfl
   have y2 := hE1.out.cell_lm (k := a) (by rw [hT1.ll]; exact ha)
   have y3 := hE1.out.cell_lm (k := k) (by rw [hT1.ll]; exact hk)
   have yf := hE1.out.lm.frozen a
   have hfin := Lib.hid (hE1.out.low_at a (min (gI s1.low (a : Int)) (gI s1.low (k : Int))))
   rw [gI_nat, gI_nat] at hfin HS
   clear x0 x1 v0 hA1
   generalize s1.low.getD a 0 = la at *
   generalize s1.low.getD k 0 = lk at *
   go_still_tail 12, (by kernel_rfl)
   go_wp2_with (fail)
   go_end0
   exact ⟨rfl, F1, vs1, vz1, by rw [← HS.out]; exact hfin.out.1, hP1.trans hfin.out.2⟩
 ·rw [if_neg h0] at h
  have z1 : (s.index.getD k 0 == 0) = false := by simpa using h0
  have x2 := hE.on_.cell' (i := 0) rfl
  have x3 := hE.cell_om (k := k) (by rw [hT.lo]; exact hk)
  rw [Int.toNat_natCast] at h
  by_cases ho : s.on.getD k false = true
  ·rw [if_pos ho] at h
   rw [ho] at x3
   have h' : { s with low := sI s.low (a : Int) (min (gI s.low (a : Int)) (s.index.getD k 0)) } = s' := by
    exact Option.some.inj h
   have HS := Lib.hid h'
   have y0 := hE.lw.cell' (i := 0) rfl
   have y1 := hA.cell' (i := 0) rfl
   have y2 := hE.cell_lm (k := a) (by rw [hT.ll]; exact ha)
   have yf := hE.lm.frozen a
   have hfin := Lib.hid (hE.low_at a (min (gI s.low (a : Int)) (s.index.getD k 0)))
   rw [gI_nat] at hfin HS
   clear h h' ho h0
   generalize s.low.getD a 0 = la at *
   generalize s.index.getD k 0 = lk at *
   go_enter Tryz.func86, Tryz.ntmps86
   go_upto_region 4 with (fail)
   go_still_tail 12, (by kernel_rfl)
   go_wp2_with (fail)
   go_end0
   exact ⟨rfl, F, vs, vz, by rw [← HS.out]; exact hfin.out.1, hfin.out.2⟩
  ·rw [if_neg ho] at h
   have ho' : s.on.getD k false = false := by simpa using ho
   rw [ho'] at x3
   obtain rfl := Option.some.inj h
   have HE := Lib.hid hE
   clear h ho ho' h0 hE
   generalize s.index.getD k 0 = lk at *
   go_enter Tryz.func86, Tryz.ntmps86
   go_wp2_with (fail)
   go_end0
   exact ⟨rfl, F, vs, vz, HE, PStep.of_below (Below.refl _ _)⟩
end Go.Proofs.YtoppncpmfajbcaaGreatDoor
namespace Go.Proofs.YtoppncpmfajbcaaGreatDoor
open Go.RowKit
section
variable {w : World} {B pb : Nat} {F : Nat → Prop} {k : PK} {A : Option Addr} {n c : Nat} {vn vs : Value} {ncs : List Value} {st : PSt}
end
end Go.Proofs.YtoppncpmfajbcaaGreatDoor
namespace Go.Proofs.YtoppncpmfajbcaaGreatDoor
open Go.RowKit
end Go.Proofs.YtoppncpmfajbcaaGreatDoor
namespace Go.Proofs.YtoppncpmfajbcaaGreatDoor
open Go.RowKit
end Go.Proofs.YtoppncpmfajbcaaGreatDoor
namespace Go.Proofs.YtoppncpmfajbcaaGreatDoor
open Go.RowKit
def KeyMap (w : World) (b n : Nat) (ks : List (List Nat)) : Prop :=
 ∃ D : DataW Unit, w.ownsMap Tryz.prog 9 (plainElem Tryz.prog 4) b n D ∧ Maps.IsMap D ∧ ∀ key, By key → D.atKey (.string (u8s key)) (.lit (.bool false)) = .lit (.bool (decide (key ∈ ks)))
theorem KeyMap.lt {w : World} {b n : Nat} {ks : List (List Nat)} (h : KeyMap w b n ks) : b < w.heap.size := by obtain ⟨D, h1, _⟩ := h; exact h1.lt
theorem KeyMap.same {w w' : World} {b n : Nat} {ks : List (List Nat)} (h : KeyMap w b n ks) (hs : w'.heap[b]? = w.heap[b]?) : KeyMap w' b n ks := by
 obtain ⟨D, ⟨es, clock, hb, hF, hn, hD⟩, h2, h3⟩ := h
 exact ⟨D, ⟨es, clock, hs.trans hb, hF, hn, hD⟩, h2, h3⟩
theorem KeyMap.made (w : World) : KeyMap (w.alloc (.map #[] 0)) w.heap.size 0 [] :=
 ⟨.map [], World.ownsMap_made w _ _ _, Maps.isMap_empty, fun key _ => by simp [DataW.atKey]⟩
section
variable {w : World} {ops : Array Oper} {rest : List Oper} {o : Oper} {a : Act} {Q : Exit → Act → World → Prop}
end
end Go.Proofs.YtoppncpmfajbcaaGreatDoor
namespace Go.Proofs.YtoppncpmfajbcaaGreatDoor
open Go.RowKit
def setL (xs : List Value) : Nat → List Value → List Value
 | _, [] => xs
 | o, v :: r => setL (xs.set o v) (o + 1) r
theorem setL_len (vs : List Value) : ∀ (o : Nat) (xs : List Value), (setL xs o vs).length = xs.length := by
 induction vs with
 | nil => intro o xs; rfl
 | cons v r ih => intro o xs; rw [setL, ih, List.length_set]
theorem setL_get (vs : List Value) : ∀ (o : Nat) (xs : List Value) (j : Nat), o + vs.length ≤ xs.length → (setL xs o vs)[j]? = if o ≤ j ∧ j < o + vs.length then vs[j - o]? else xs[j]? := by
 induction vs with
 | nil => intro o xs j _; rw [setL, if_neg (by rw [List.length_nil]; omega)]
 | cons v r ih =>
  intro o xs j hl
  rw [List.length_cons] at hl ⊢
  rw [setL, ih (o + 1) (xs.set o v) j (by rw [List.length_set]; omega)]
  by_cases h0 : j = o
  ·subst h0
   rw [if_neg (by omega), if_pos (by omega), List.getElem?_set_self (by omega), Nat.sub_self]
   rfl
  ·by_cases h1 : o + 1 ≤ j ∧ j < o + 1 + r.length
   ·rw [if_pos h1, if_pos (by omega), show j - o = (j - (o + 1)) + 1 by omega, List.getElem?_cons_succ]
   ·rw [if_neg h1, if_neg (by omega), List.getElem?_set_ne (by omega)]
theorem heap_setCells (g : Nat) : ∀ (vs : List Value) (o : Nat) (w : World) {i : Nat}, i ≠ g → (w.setCells g o vs).heap[i]? = w.heap[i]?
 | [], _, _, _, _ => rfl
 | v :: r, o, w, i, h => (heap_setCells g r (o + 1) _ h).trans (Below.heap_setCell w ⟨g, o, none⟩ v i h)
theorem size_setCells (g : Nat) : ∀ (vs : List Value) (o : Nat) (w : World), (w.setCells g o vs).heap.size = w.heap.size
 | [], _, _ => rfl
 | v :: r, o, w => (size_setCells g r (o + 1) _).trans (by simp [World.setCell])
theorem same_setCells (g : Nat) : ∀ (vs : List Value) (o : Nat) (w : World), (w.setCells g o vs).os = w.os ∧ (w.setCells g o vs).tape = w.tape ∧ (w.setCells g o vs).output = w.output
 | [], _, _ => ⟨rfl, rfl, rfl⟩
 | v :: r, o, w => same_setCells g r (o + 1) (w.setCell ⟨g, o, none⟩ v)
theorem own_there {w : World} {b : Nat} {e : TypeId} {k g n cap : Nat} {xs : List Value} (h : w.ownsRow b e k (.slice (some ⟨g, 0, none⟩) n cap) n xs) {o m : Nat} (ho : o + m ≤ n * k) : w.there g o m := by
 rcases h.2 with ⟨hv, _⟩ | ⟨g', cap', cur, hv, hb, hg, h1, h2, h3, h4⟩
 ·cases hv
 ·injection hv with hv1 _ hv3
  injection hv1 with hv1
  injection hv1 with hv1
  subst hv1
  subst hv3
  intro j hj
  have hle : n * k ≤ cap * k := Nat.mul_le_mul_right _ h1
  refine ⟨?_, frozen_of_row w g (o + j) cur e hg⟩
  rw [cell_of_row w g (o + j) cur e (0, 0) hg, Array.getElem?_eq_getElem (by omega)]
  rfl
theorem own_cell {w : World} {b : Nat} {e : TypeId} {k g n cap : Nat} {xs : List Value} (h : w.ownsRow b e k (.slice (some ⟨g, 0, none⟩) n cap) n xs) {i : Nat} {u : Value} (hu : xs[i]? = some u) : w.cell? ⟨g, i, none⟩ = some u ∧ w.frozen? ⟨g, i, none⟩ = false := by
 have h1 := h.cells (g := g) rfl i u hu
 rw [Addr.add_mid, Nat.zero_add] at h1
 have hl := (List.getElem?_eq_some_iff.1 hu).1
 have h2 := own_there h (o := i) (m := 1) (by have := h.1; omega) 0 (by omega)
 exact ⟨h1, h2.2⟩
section
variable {w : World} {B pb : Nat} {F : Nat → Prop} {k : PK} {A : Option Addr} {n c : Nat} {vn vs : Value} {ncs : List Value} {st : PSt}
theorem PStep.drew {w w' : World} {F F' : Nat → Prop} (h : PStep w w' F F') : PStep w w'.drew F F' := ⟨h.os, h.tape, h.output, h.size, h.keep, h.new⟩
theorem PStep.drewN {w w' : World} {F F' : Nat → Prop} (h : PStep w w' F F') (m : Nat) : PStep w (w'.drewN m) F F' := ⟨h.os, h.tape, h.output, h.size, h.keep, h.new⟩
theorem PStep.refl (w : World) (F : Nat → Prop) : PStep w w F F := ⟨rfl, rfl, rfl, Nat.le_refl _, fun _ _ _ => rfl, fun _ h => .inl h⟩
theorem PStep.far {w w' : World} {F F' : Nat → Prop} (h : PStep w w' F F') {p : Addr} (hp : w.heap.size ≤ p.block ∨ F p.block) (u : Value) : PStep w (w'.setCell p u) F F' :=
 ⟨h.os, h.tape, h.output, by simpa [World.setCell] using h.size, fun i hi hF => (setCell_heap_ne _ _ _ (by rintro rfl; rcases hp with h1 | h1; omega; exact hF h1)).trans (h.keep i hi hF), h.new⟩
theorem PStep.grown {w w' w2 : World} {F F' : Nat → Prop} (h : PStep w w' F F') {row : Option Nat} (hg : w'.grownBy w2 row) (hr : ∀ g, row = some g → w.heap.size ≤ g) : PStep w w2 F F' :=
 ⟨hg.os.trans h.os, hg.tape.trans h.tape, hg.output.trans h.output, Nat.le_trans h.size hg.size, fun i hi hF => (hg.block i (Nat.lt_of_lt_of_le hi h.size) (by intro e; have := hr i e.symm; omega)).trans (h.keep i hi hF), h.new⟩
theorem PStep.below' {w w' w2 : World} {F F' : Nat → Prop} (h : PStep w w' F F') (hb : Below w'.heap.size w' w2) : PStep w w2 F F' := h.trans (PStep.of_below hb)
theorem NodesRd.put (h : NodesRd w F ncs st.nodes) {i : Nat} (hi : i < st.nodes.length) {cs : List Value} {nd : GNode} (hn : NodeRd w F cs nd) : NodesRd w F (setL ncs (i * 5) cs) (st.nodes.set i nd) := by
 have hl : cs.length = 5 := by obtain ⟨K, nk, ck, I, ni, ci, rfl, _⟩ := hn; rfl
 have hb : i * 5 + cs.length ≤ ncs.length := by rw [h.1, hl]; omega
 refine ⟨by rw [setL_len, List.length_set]; exact h.1, fun j x hj => ?_⟩
 have hj2 := (List.getElem?_eq_some_iff.1 hj).1
 rw [List.length_set] at hj2
 by_cases hij : j = i
 ·subst hij
  rw [List.getElem?_set_self hi] at hj
  obtain rfl := Option.some.inj hj
  have e : ((setL ncs (j * 5) cs).drop (j * 5)).take 5 = cs := by
   apply List.ext_getElem?
   intro q
   rw [List.getElem?_take]
   by_cases hq : q < 5
   ·rw [if_pos hq, List.getElem?_drop, setL_get _ _ _ _ hb, if_pos (by omega)]
    congr 1; omega
   ·rw [if_neg hq, List.getElem?_eq_none (by omega)]
  rw [e]; exact hn
 ·rw [List.getElem?_set_ne (by omega)] at hj
  have e : ((setL ncs (i * 5) cs).drop (j * 5)).take 5 = (ncs.drop (j * 5)).take 5 := by
   apply List.ext_getElem?
   intro q
   rw [List.getElem?_take, List.getElem?_take]
   by_cases hq : q < 5
   ·rw [if_pos hq, if_pos hq, List.getElem?_drop, List.getElem?_drop, setL_get _ _ _ _ hb, if_neg (by omega)]
   ·rw [if_neg hq, if_neg hq]
  rw [e]; exact h.2 j x hj
end
end Go.Proofs.YtoppncpmfajbcaaGreatDoor
namespace Go.Proofs.YtoppncpmfajbcaaGreatDoor
open Go.RowKit
structure PSub (m : Nat) (st st' : PSt) : Prop where
 left : ∃ j, m ≤ j ∧ j ≤ st.left.length ∧ st'.left = st.left.drop j
 nodes : st.nodes.length ≤ st'.nodes.length
 spans : st.spans.length ≤ st'.spans.length
theorem PSub.refl (st : PSt) : PSub 0 st st := ⟨⟨0, Nat.le_refl _, Nat.zero_le _, rfl⟩, Nat.le_refl _, Nat.le_refl _⟩
theorem PSub.trans {m n : Nat} {a b c : PSt} (h : PSub m a b) (k : PSub n b c) : PSub (m + n) a c := by
 obtain ⟨⟨j, h1, h2, h3⟩, h4, h5⟩ := h
 obtain ⟨⟨i, k1, k2, k3⟩, k4, k5⟩ := k
 rw [h3, List.length_drop] at k2
 exact ⟨⟨j + i, by omega, by omega, by rw [k3, h3, List.drop_drop]⟩, by omega, by omega⟩
theorem PSub.mono {m n : Nat} {a b : PSt} (h : PSub m a b) (hn : n ≤ m) : PSub n a b := by
 obtain ⟨⟨j, h1, h2, h3⟩, h4, h5⟩ := h
 exact ⟨⟨j, by omega, h2, h3⟩, h4, h5⟩
theorem PSub.len {m : Nat} {a b : PSt} (h : PSub m a b) : b.left.length + m ≤ a.left.length := by
 obtain ⟨⟨j, h1, h2, h3⟩, _⟩ := h
 rw [h3, List.length_drop]; omega
theorem PSub.ok {m : Nat} {a b : PSt} (h : PSub m a b) (ha : ∀ t ∈ a.left, TokOK t) : ∀ t ∈ b.left, TokOK t := by
 obtain ⟨⟨j, h1, h2, h3⟩, _⟩ := h
 intro t ht
 rw [h3] at ht
 exact ha t (List.mem_of_mem_drop ht)
end Go.Proofs.YtoppncpmfajbcaaGreatDoor
namespace Go.Proofs.YtoppncpmfajbcaaGreatDoor
open Go.RowKit
def LibAt (B : Nat) (w : World) : Prop := ∃ W0, LibOK W0 ∧ W0.heap.size = B ∧ Below B W0 w
theorem LibAt.ok {B : Nat} {w : World} (h : LibAt B w) : LibOK w := by obtain ⟨W0, h1, rfl, h2⟩ := h; exact h1.keep h2
theorem LibAt.size {B : Nat} {w : World} (h : LibAt B w) : B ≤ w.heap.size := by obtain ⟨W0, h1, rfl, h2⟩ := h; exact h2.size
theorem LibAt.step {B : Nat} {w w' : World} (h : LibAt B w) (hb : Below B w w') : LibAt B w' := by obtain ⟨W0, h1, h3, h2⟩ := h; exact ⟨W0, h1, h3, h2.trans hb⟩
end Go.Proofs.YtoppncpmfajbcaaGreatDoor
namespace Go.Proofs.YtoppncpmfajbcaaGreatDoor
open Go.RowKit
section
variable {w : World} {B pb : Nat} {F : Nat → Prop} {k : PK} {A : Option Addr} {n c : Nat} {vn vs : Value} {ncs : List Value} {st : PSt}
end
end Go.Proofs.YtoppncpmfajbcaaGreatDoor
namespace Go.Proofs.YtoppncpmfajbcaaGreatDoor
open Go.RowKit
end Go.Proofs.YtoppncpmfajbcaaGreatDoor
namespace Go.Proofs.YtoppncpmfajbcaaGreatDoor
open Go.RowKit
section
variable {P : Program} {w : World} {ops : Array Oper} {o : Oper} {a : Act} {K : Act → World → Prop} {Q : Exit → Act → World → Prop} {E : Prop}
end
end Go.Proofs.YtoppncpmfajbcaaGreatDoor
namespace Go.Proofs.YtoppncpmfajbcaaGreatDoor
open Go.RowKit
section
variable {w : World} {B pb sb nb mb : Nat} {F0 : Nat → Prop} {k : PK} {kd : Int} {cs : List Value} {L : Nat} {x : PLoop} {F : Nat → Prop} {A : Option Addr} {n c : Nat} {vn vs : Value} {ncs : List Value} {vk vi : Value} {wr : World}
end
section
variable {w : World} {B pb sb nb mb : Nat} {F0 : Nat → Prop} {k : PK} {kd : Int} {cs : List Value} {L : Nat} {x : PLoop} {F : Nat → Prop} {A : Option Addr} {n c : Nat} {vn vs : Value} {ncs : List Value} {vk vi : Value} {wr : World}
end
end Go.Proofs.YtoppncpmfajbcaaGreatDoor
namespace Go.Proofs.YtoppncpmfajbcaaGreatDoor
open Go.RowKit
theorem own_slice0 {w : World} {b : Nat} {e : TypeId} {k : Nat} {v : Value} {n : Nat} {xs : List Value} (h : w.ownsRow b e k v n xs) (hn : 0 < n) : ∃ g c, v = .slice (some ⟨g, 0, none⟩) n c ∧ n ≤ c ∧ c ≤ maxLen := by
 rcases h.2 with ⟨_, h0⟩ | ⟨g, cap, cur, rfl, _, _, h1, h2, _⟩
 ·omega
 ·exact ⟨g, cap, rfl, h1, h2⟩
section
variable {w : World} {B pb sb nb mb : Nat} {F0 : Nat → Prop} {k : PK} {kd : Int} {cs : List Value} {L : Nat} {x : PLoop} {F : Nat → Prop} {A : Option Addr} {n c : Nat} {vn vs : Value} {ncs : List Value} {vk vi : Value} {wr : World}
end
end Go.Proofs.YtoppncpmfajbcaaGreatDoor
