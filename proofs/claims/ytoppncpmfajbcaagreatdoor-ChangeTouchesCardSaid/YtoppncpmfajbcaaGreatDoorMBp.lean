/- The walks of built's closures 'value' and that of Set. -/
import Derived.Test.YtoppncpmfajbcaaGreatDoorMBo
import Derived.WideMake
import Derived.MapKept
set_option linter.unusedVariables false
set_option linter.unusedSimpArgs false
set_option linter.defProp false
set_option linter.constructorNameAsVariable false
namespace Go.Proofs.YtoppncpmfajbcaaGreatDoor
open Go.RowKit
theorem Fr.wide {w w' : World} {mb bo mb' bo' : Nat} {u v : Value} (h : Fr w w' mb bo u v) (h1 : mb = mb' ∨ mb = bo') (h2 : bo = mb' ∨ bo = bo') : Fr w w' mb' bo' u v :=
 ⟨h.os, h.tape, h.output, h.size, fun b hb k1 k2 k3 => h.block b hb (by rcases h1 with rfl | rfl <;> assumption) (by rcases h2 with rfl | rfl <;> assumption) k3, h.own⟩
def ValueE (w : World) (zb tb : Nat) (v : Value) (n : Nat) (ncs : List Value) (M : List GNode) (r : Int) (e : Ending) (w' : World) : Prop :=
 ∃ v' ncs', e = .returned (.int .i64 (r + (n : Int))) ∧ Arr w' tb 24 [v'] ∧ w'.ownsRow zb 34 5 v' (n + M.length) (ncs ++ ncs') ∧ NodesRd w' (fun b => w.heap.size ≤ b) ncs' (M.map (shiftN n)) ∧ Fr w w' tb tb v v'
set_option maxRecDepth 20000 in
set_option maxHeartbeats 16000000 in
theorem cvalue_any {zb tb n g o c r : Nat} {M : List GNode} {ncs : List Value} {v : Value} (hL : NL 65536 M) (hM : M.length ≤ 4096) (hn : n ≤ 65536) (hI : Idx M) (hr : r < M.length) (w : World) (hT : Arr w tb 24 [v]) (hzt : zb ≤ tb) (hrow : w.ownsRow zb 34 5 v n ncs) (hG : GRd w zb g o M) :
  Calls Tryz.prog 54 #[.agg #[.slice (some ⟨g, o, none⟩) M.length c, .int .i64 (r : Int)], .pointer (some ⟨tb, 0, none⟩)] w (ValueE w zb tb v n ncs M (r : Int)) := by
 have h1 : Hid (Arr (w.alloc (.cells #[.slice (some ⟨g, o, none⟩) M.length c, .int .i64 (r : Int)] 26)) w.heap.size 26 [.slice (some ⟨g, o, none⟩) M.length c, .int .i64 (r : Int)]) := Arr.new w _ _
 have hb1 : Below w.heap.size w (w.alloc (.cells #[.slice (some ⟨g, o, none⟩) M.length c, .int .i64 (r : Int)] 26)) := (Below.refl _ _).alloc (Nat.le_refl _) _
 have HT := Lib.hid (hT.keep hb1)
 have HR := Lib.hid (own_below hrow hb1)
 have hzw : zb ≤ w.heap.size := by have := hT.lt; omega
 have DA := Lib.hid (fun (w' : World) (h1 : GRd w' zb g o M) (h2 : w'.ownsRow zb 34 5 v n ncs) => cappended_any (c := c) hL hM hn hI hr w' h1 h2)
 have HG := Lib.hid (hG.below hb1 hzw)
 clear hG hrow hI hr hL
 go_enter Tryz.func54, Tryz.ntmps54
 go_upto_region 1 with (fail)
 have HB1 := Lib.hid hb1
 have hs1 := hb1.size
 generalize (w.alloc (.cells #[.slice (some ⟨g, o, none⟩) M.length c, .int .i64 (r : Int)] 26)) = W at *
 have t0 := HT.out.cell' (i := 0) rfl
 have x0 := h1.out.cell' (i := 0) rfl
 have x1 := h1.out.cell' (i := 1) rfl
 clear hb1
 go_upto_region 3 with (go_at_call 51; ((with_reducible refine (DA.out _ HG.out HR.out).mono ?_)); rintro e w2 ⟨v2, ncs2, rfl, hrow2, hnd2, hgr2, hat2⟩; obtain ⟨A2, c2, hv2, _, _⟩ := own_slice hrow2; subst hv2; have a2 := HT.out.grown hgr2 (fun e => by obtain ⟨C, fz, hk⟩ := own_kind HR.out e.symm; exact absurd (cells_kind HT.out hk) (by decide)); have b2 := a2.cell' (i := 0) rfl; have f2 := a2.frozen 0)
 have hRow := Lib.hid hrow2
 have hTF : Hid (Arr (w2.setCell ⟨tb, 0, none⟩ (.slice A2 (n + M.length) c2)) tb 24 [.slice A2 (n + M.length) c2]) := a2.store 0 _
 have hRF : Hid ((w2.setCell ⟨tb, 0, none⟩ (.slice A2 (n + M.length) c2)).ownsRow zb 34 5 (.slice A2 (n + M.length) c2) (n + M.length) (ncs ++ ncs2)) := own_far (p := ⟨tb, 0, none⟩) hRow.out (fun e => by
  obtain ⟨C, fz, hk⟩ := own_kind hRow.out e
  exact absurd (cells_kind a2 hk) (by decide)) _
 have hNF : Hid (NodesRd (w2.setCell ⟨tb, 0, none⟩ (.slice A2 (n + M.length) c2)) (fun b => w.heap.size ≤ b) ncs2 (M.map (shiftN n))) := hnd2.over fun b hb hF hk => ⟨setCell_heap_ne _ _ _ (fun e => by
  subst e
  obtain ⟨C, fz, hk⟩ := hk
  exact absurd (cells_kind a2 hk) (by decide)), Nat.le_trans hs1 hF⟩
 have hFF : Hid (Fr w (w2.setCell ⟨tb, 0, none⟩ (.slice A2 (n + M.length) c2)) tb tb v (.slice A2 (n + M.length) c2)) := by
  have h1 := HB1.out
  refine ⟨hgr2.os.trans h1.os, hgr2.tape.trans h1.tape, hgr2.output.trans h1.output, ?_, fun b hb h2 _ h3 => ?_, ?_⟩
  ·have := hgr2.size
   simp [World.setCell]
   omega
  ·exact (setCell_heap_ne _ _ _ h2).trans ((hgr2.block b (Nat.lt_of_lt_of_le hb h1.size) (fun e => h3 e.symm)).trans (h1.block b hb))
  ·rcases hat2 with e1 | ⟨b, e1, e2⟩
   ·exact .inl e1
   ·exact .inr ⟨b, e1, Nat.le_trans hs1 e2⟩
 clear hRow hrow2 hnd2 hgr2 hat2 a2 b2 f2 t0 x0 x1 HT HR HG DA h1 HB1
 go_wp2_with (fail)
 go_ret
 exact ⟨_, ncs2, rfl, hTF.out, hRF.out, hNF.out, hFF.out⟩
def SetE (w : World) (zb tb oi n : Nat) (v : Value) (ncs : List Value) (M : List GNode) (its : List Int) (e : Ending) (w' : World) : Prop :=
 e = .returned (.tuple #[]) ∧ ∃ v' ncs', Arr w' tb 24 [v'] ∧ w'.ownsRow zb 34 5 v' (n + M.length) (ncs ++ ncs') ∧ NodesRd w' (fun b => w.heap.size ≤ b) ncs' (M.map (shiftN n)) ∧ Arr w' oi 3 (I64 its) ∧ Fr w w' tb oi v v'
set_option maxRecDepth 20000 in
set_option maxHeartbeats 16000000 in
theorem setop_any {zb tb n g o c r b15 b5 b21 b7 en ii oi m : Nat} {M : List GNode} {ncs : List Value} {v : Value} {items : List Int} {op : Int} {P : Value} (hL : NL 65536 M) (hM : M.length ≤ 4096) (hn : n ≤ 65536) (hI : Idx M) (hr : r < M.length) (w : World) (hT : Arr w tb 24 [v]) (hzt : zb ≤ tb) (hrow : w.ownsRow zb 34 5 v n ncs) (hG : GRd w zb g o M)
  (h15 : Arr w b15 97 [.func (.func 54) #[] #[.pointer (some ⟨tb, 0, none⟩)]]) (h5 : Arr w b5 28 [.int .i64 op, P, .slice (some ⟨g, o, none⟩) M.length c, .int .i64 (r : Int)]) (h21 : Arr w b21 3 [.int .i64 (en : Int)]) (h7 : Arr w b7 3 [.int .i64 (ii : Int)])
  (hen : en < n) (hcell : ncs[en * 5 + 4]? = some (.slice (some ⟨oi, 0, none⟩) m m)) (hii : ii < m) (hm : m ≤ 65536) (hoi : Arr w oi 3 (I64 items)) (him : items.length = m) (hz : zb ≤ oi) (h15t : b15 ≠ tb) (d1 : b21 ≠ oi) (d2 : b7 ≠ oi) :
  Calls Tryz.prog 55 #[.pointer (some ⟨b15, 0, none⟩), .pointer (some ⟨b5, 0, none⟩), .pointer (some ⟨tb, 0, none⟩), .pointer (some ⟨b21, 0, none⟩), .pointer (some ⟨b7, 0, none⟩)] w (SetE w zb tb oi n v ncs M (items.set ii ((r : Int) + (n : Int)))) := by
 have DV := Lib.hid (cvalue_any (c := c) hL hM hn hI hr w hT hzt hrow hG)
 have hrk : ∀ {b : Nat} {t : TypeId} {xs : List Value}, Arr w b t xs → t ≠ 34 → v.ownBlock ≠ some b := fun ha ht e => by
  obtain ⟨C, fz, hk⟩ := own_kind hrow e
  exact ht (cells_kind ha hk)
 have kt : ∀ {b : Nat} {t : TypeId} {xs : List Value}, Arr w b t xs → t ≠ 24 → b ≠ tb := fun ha ht => ha.ne hT ht
 have q5 := Lib.hid h5
 have q15 := Lib.hid h15
 have n5 := Lib.hid (hrk h5 (by decide))
 have n21 := Lib.hid (hrk h21 (by decide))
 have n7 := Lib.hid (hrk h7 (by decide))
 have noi := Lib.hid (hrk hoi (by decide))
 have t5 := kt h5 (by decide)
 have t21 := kt h21 (by decide)
 have t7 := kt h7 (by decide)
 have toi := kt hoi (by decide)
 have q21 := Lib.hid h21
 have q7 := Lib.hid h7
 have qoi := Lib.hid hoi
 have hol := hoi.lt
 have HI := Lib.hid him
 have HC := Lib.hid hcell
 have hrn : (r : Int) < 4096 := by omega
 have x0 := h15.cell' (i := 0) rfl
 have c2 := h5.cell' (i := 2) rfl
 have c3 := h5.cell' (i := 3) rfl
 clear hT hrow hG h15 h5 h21 h7 hoi him hcell hrk kt hI hL
 go_enter Tryz.func55, Tryz.ntmps55
 go_upto_region 1 with (go_at_call 54; ((with_reducible refine DV.out.mono ?_)); rintro e w2 ⟨v2, ncs2, rfl, hT2, hrow2, hnd2, hF2⟩)
 clear x0 c2 c3 DV
 have e21 := (hF2.arr q21.out t21 t21 n21.out).cell' (i := 0) rfl
 have e7 := (hF2.arr q7.out t7 t7 n7.out).cell' (i := 0) rfl
 have a2 := Lib.hid (hF2.arr qoi.out toi toi noi.out)
 obtain ⟨rb, c2, hv2, _, _⟩ := own_some hrow2 (by omega)
 subst hv2
 have t0 := hT2.cell' (i := 0) rfl
 have hcl : (ncs ++ ncs2)[en * 5 + 4]? = some (.slice (some ⟨oi, 0, none⟩) m m) := by
  have h := HC.out
  rw [List.getElem?_append_left (List.getElem?_eq_some_iff.1 h).1]
  exact h
 have r4 := (own_cell1 hrow2 hcl).1
 obtain ⟨y, hy⟩ : ∃ y, items[ii]? = some y := ⟨_, List.getElem?_eq_getElem (by have := HI.out; omega)⟩
 have i0 := a2.out.cell' (I64_get hy)
 have if0 := a2.out.frozen ii
 have hen' : (en : Int) < n := by omega
 have hen0 : (0 : Int) ≤ en := by omega
 have hnM : en < n + M.length := by omega
 have hii' : (ii : Int) < m := by omega
 have hii0 : (0 : Int) ≤ ii := by omega
 clear hcl hy HC
 have hRF : Hid ((w2.setCell ⟨oi, ii, none⟩ (.int .i64 ((r : Int) + (n : Int)))).ownsRow zb 34 5 (.slice (some ⟨rb, 0, none⟩) (n + M.length) c2) (n + M.length) (ncs ++ ncs2)) := own_far (p := ⟨oi, ii, none⟩) hrow2 (fun e => by
  obtain ⟨C, fz, hk⟩ := own_kind hrow2 e
  exact absurd (cells_kind a2.out hk) (by decide)) _
 have hTF := Lib.hid (hT2.far (p := ⟨oi, ii, none⟩) (show tb ≠ oi from toi.symm) (.int .i64 ((r : Int) + (n : Int))))
 have hNF : Hid (NodesRd (w2.setCell ⟨oi, ii, none⟩ (.int .i64 ((r : Int) + (n : Int)))) (fun b => w.heap.size ≤ b) ncs2 (M.map (shiftN n))) := hnd2.over fun b hb hF _ => ⟨setCell_heap_ne _ _ _ (by show b ≠ oi; omega), hF⟩
 have hAF : Hid (Arr (w2.setCell ⟨oi, ii, none⟩ (.int .i64 ((r : Int) + (n : Int)))) oi 3 (I64 (items.set ii ((r : Int) + (n : Int))))) := by
  have h := a2.out.store ii (.int .i64 ((r : Int) + (n : Int)))
  rw [I64_set] at h
  exact h
 have hFF : Hid (Fr w (w2.setCell ⟨oi, ii, none⟩ (.int .i64 ((r : Int) + (n : Int)))) tb oi v (.slice (some ⟨rb, 0, none⟩) (n + M.length) c2)) :=
  ⟨hF2.os, hF2.tape, hF2.output, by simpa [World.setCell] using hF2.size, fun b hb k1 k2 k3 => (setCell_heap_ne _ _ _ k2).trans (hF2.block b hb k1 k1 k3), hF2.own⟩
 clear hrow2 hT2 hnd2 a2 hF2 qoi n5 n21 n7 noi q5 q15 q21 q7
 go_region
 all_goals
  go_end0
  exact ⟨rfl, _, ncs2, hTF.out, hRF.out, hNF.out, hAF.out, ⟨hFF.out.os, hFF.out.tape, hFF.out.output, hFF.out.size, hFF.out.block, hFF.out.own⟩⟩
end Go.Proofs.YtoppncpmfajbcaaGreatDoor
namespace Go.Proofs.YtoppncpmfajbcaaGreatDoor
open Go.RowKit
section
variable {P : Program} (w : World)
theorem run_put_int (mty kt et : TypeId) (r clock : Nat) (es : Array MapEntry) (k : Int) (val : Value) (hm : P.underlying mty = some (.map kt et)) (hk : P.underlying kt = some (.int .i64)) (hb : w.heap[r]? = some (.map es clock))
  (hf : Instr.findNow (.int .i64) (.int .i64 k) es.toList 0 = some none) :
  (Instr.mapUpdate mty (.map (some r)) (.int .i64 k) val).run P w = .ok () { w with heap := w.heap.setIfInBounds r (.map (es.push { key := .int .i64 k, val := val, born := clock }) (clock + 1)) } := by
 have hc : (Instr.checkKey false 10000 kt (.int .i64 k)).run P w = .ok () w := MapKept.run_checkKey (k := .int .i64 k) hk (by simp [MapKept.IsKey]) false 9999
 simp [Instr.mapUpdate, run_underlying hm, MapKept.run_getObj_map hb, hc, MapKept.run_findKey hk hf, MapKept.run_setObj_map _ hb, Result.andThen]
theorem run_get_int (mty kt et : TypeId) (r clock i : Nat) (es : Array MapEntry) (k : Int) (val : Value) (hm : P.underlying mty = some (.map kt et)) (hk : P.underlying kt = some (.int .i64)) (hb : w.heap[r]? = some (.map es clock))
  (hf : Instr.findNow (.int .i64) (.int .i64 k) es.toList 0 = some (some (i, val))) :
  (Instr.lookup mty (.map (some r)) (.int .i64 k) false).run P w = .ok val w := by
 have hc : (Instr.checkKey es.isEmpty 10000 kt (.int .i64 k)).run P w = .ok () w := MapKept.run_checkKey (k := .int .i64 k) hk (by simp [MapKept.IsKey]) _ 9999
 simp [Instr.lookup, run_underlying hm, MapKept.run_getObj_map hb, hc, MapKept.run_findKey hk hf, Result.andThen]
end
theorem map_three {P : Program} (w : World) (mty kt et : TypeId) (hm : P.underlying mty = some (.map kt et)) (hk : P.underlying kt = some (.int .i64)) (f1 f2 f3 : Value) :
  ∃ Wa W1 W2 W3 : World, (Instr.makeMap mty none).run P w = .ok (.map (some w.heap.size)) Wa ∧ (Instr.mapUpdate mty (.map (some w.heap.size)) (.int .i64 1) f1).run P Wa = .ok () W1 ∧
   (Instr.mapUpdate mty (.map (some w.heap.size)) (.int .i64 2) f2).run P W1 = .ok () W2 ∧ (Instr.mapUpdate mty (.map (some w.heap.size)) (.int .i64 3) f3).run P W2 = .ok () W3 ∧
   Below w.heap.size w W3 ∧ w.heap.size < W3.heap.size ∧ (Instr.lookup mty (.map (some w.heap.size)) (.int .i64 1) false).run P W3 = .ok f1 W3 := by
 have ha : (w.alloc (.map #[] 0)).heap[w.heap.size]? = some (.map #[] 0) := (MapKept.heap_alloc w _).1
 have h1 := run_put_int (P := P) (w.alloc (.map #[] 0)) mty kt et w.heap.size 0 #[] 1 f1 hm hk ha rfl
 generalize hW1 : { (w.alloc (.map #[] 0)) with heap := (w.alloc (.map #[] 0)).heap.setIfInBounds w.heap.size (.map ((#[] : Array MapEntry).push { key := .int .i64 1, val := f1, born := 0 }) (0 + 1)) } = W1 at h1
 have b1 : W1.heap[w.heap.size]? = some (.map ((#[] : Array MapEntry).push { key := .int .i64 1, val := f1, born := 0 }) (0 + 1)) := by rw [← hW1]; exact (MapKept.heap_set ha).1
 have h2 := run_put_int (P := P) W1 mty kt et w.heap.size (0 + 1) _ 2 f2 hm hk b1 rfl
 generalize hW2 : { W1 with heap := W1.heap.setIfInBounds w.heap.size (.map (((#[] : Array MapEntry).push { key := .int .i64 1, val := f1, born := 0 }).push { key := .int .i64 2, val := f2, born := 0 + 1 }) (0 + 1 + 1)) } = W2 at h2
 have b2 : W2.heap[w.heap.size]? = some (.map (((#[] : Array MapEntry).push { key := .int .i64 1, val := f1, born := 0 }).push { key := .int .i64 2, val := f2, born := 0 + 1 }) (0 + 1 + 1)) := by rw [← hW2]; exact (MapKept.heap_set b1).1
 have h3 := run_put_int (P := P) W2 mty kt et w.heap.size (0 + 1 + 1) _ 3 f3 hm hk b2 rfl
 generalize hW3 : { W2 with heap := W2.heap.setIfInBounds w.heap.size (.map ((((#[] : Array MapEntry).push { key := .int .i64 1, val := f1, born := 0 }).push { key := .int .i64 2, val := f2, born := 0 + 1 }).push { key := .int .i64 3, val := f3, born := 0 + 1 + 1 }) (0 + 1 + 1 + 1)) } = W3 at h3
 have b3 : W3.heap[w.heap.size]? = some (.map ((((#[] : Array MapEntry).push { key := .int .i64 1, val := f1, born := 0 }).push { key := .int .i64 2, val := f2, born := 0 + 1 }).push { key := .int .i64 3, val := f3, born := 0 + 1 + 1 }) (0 + 1 + 1 + 1)) := by rw [← hW3]; exact (MapKept.heap_set b2).1
 have hs : W3.heap.size = w.heap.size + 1 := by rw [← hW3, ← hW2, ← hW1]; simp
 refine ⟨_, W1, W2, W3, run_makeMap_plain w mty, h1, h2, h3, ⟨?_, ?_, ?_, by omega, fun j hj => ?_⟩, by omega, run_get_int W3 mty kt et w.heap.size _ 0 _ 1 f1 hm hk b3 rfl⟩
 ·rw [← hW3, ← hW2, ← hW1]; rfl
 ·rw [← hW3, ← hW2, ← hW1]; rfl
 ·rw [← hW3, ← hW2, ← hW1]; rfl
 ·have e3 : W3.heap[j]? = W2.heap[j]? := by rw [← hW3]; exact (MapKept.heap_set b2).2 j (by omega)
  have e2 : W2.heap[j]? = W1.heap[j]? := by rw [← hW2]; exact (MapKept.heap_set b1).2 j (by omega)
  have e1 : W1.heap[j]? = (w.alloc (.map #[] 0)).heap[j]? := by rw [← hW1]; exact (MapKept.heap_set ha).2 j (by omega)
  exact e3.trans (e2.trans (e1.trans ((MapKept.heap_alloc w _).2 j hj)))
end Go.Proofs.YtoppncpmfajbcaaGreatDoor
namespace Go.Proofs.YtoppncpmfajbcaaGreatDoor
open Go.RowKit
def ItS (j : Nat) (its it0 it1 : List Int) : Prop := (j = 0 → its = it0) ∧ (j = 1 → its = it1)
def Kx (z x : Nat) (w w' : World) : Prop := z ≤ w'.heap.size ∧ ∀ b, b < z → b ≠ x → w'.heap[b]? = w.heap[b]?
theorem Kx.refl {z : Nat} (x : Nat) {w : World} (hz : z ≤ w.heap.size) : Kx z x w w := ⟨hz, fun _ _ _ => rfl⟩
theorem Kx.drew {z x : Nat} {w w' : World} (h : Kx z x w w') : Kx z x w w'.drew := h
theorem Kx.below {z x y : Nat} {w w' w'' : World} (h : Kx z x w w') (hb : Below y w' w'') (hy : z ≤ y) : Kx z x w w'' := ⟨Nat.le_trans h.1 hb.size, fun b h1 h2 => (hb.block b (by omega)).trans (h.2 b h1 h2)⟩
theorem Kx.set {z x i : Nat} {w w' : World} (h : Kx z x w w') (u : Value) : Kx z x w (w'.setCell ⟨x, i, none⟩ u) := ⟨by simpa [World.setCell] using h.1, fun b h1 h2 => (setCell_heap_ne _ _ _ h2).trans (h.2 b h1 h2)⟩
theorem Kx.cell {z x : Nat} {w w' : World} {a : Addr} {u : Value} (h : Kx z x w w') (hc : w.cell? a = some u) (h1 : a.block < z) (h2 : a.block ≠ x) : w'.cell? a = some u := (World.cell?_of_block (h.2 _ h1 h2)).trans hc
theorem Kx.grd {z x B g o : Nat} {w w' : World} {N : List GNode} (h : Kx z x w w') (hG : GRd w B g o N) (h1 : B ≤ z) (h2 : B ≤ x) : GRd w' B g o N :=
 ⟨hG.1, Nat.le_trans h1 h.1, fun i nd hi => (hG.2.2 i nd hi).same hG.1 fun _ ha _ hu => h.cell hu (by omega) (by omega)⟩
def TwS (wr : World) (gb tb tw n : Nat) (ncs0 : List Value) (N : List GNode) (n0 n1 : GNode) (v : Value) : Nat → Prop
 | 0 => wr.ownsRow gb 34 5 v n ncs0 ∧ NodesRd wr (fun b => gb ≤ b ∧ b < tb) ncs0 N ∧ Arr wr tw 3 (I64 [0, 0])
 | 1 => ∃ ok0 oi0, wr.ownsRow gb 34 5 v (n + 1) (ncs0 ++ nodeC n0 ok0 oi0) ∧ NodesRd wr (fun b => gb ≤ b ∧ b < tb) ncs0 N ∧ Arr wr tw 3 (I64 [(n : Int), 0]) ∧ Arr wr ok0 3 (I64 n0.keys) ∧ Arr wr oi0 3 (I64 n0.items) ∧ tw < ok0 ∧ tw < oi0 ∧ ok0 ≠ oi0
 | _ => ∃ ok0 oi0 ok1 oi1, wr.ownsRow gb 34 5 v (n + 2) (ncs0 ++ nodeC n0 ok0 oi0 ++ nodeC n1 ok1 oi1) ∧ NodesRd wr (fun b => gb ≤ b ∧ b < tb) ncs0 N ∧ Arr wr tw 3 (I64 [(n : Int), ((n + 1 : Nat) : Int)]) ∧
   Arr wr ok0 3 (I64 n0.keys) ∧ Arr wr oi0 3 (I64 n0.items) ∧ Arr wr ok1 3 (I64 n1.keys) ∧ Arr wr oi1 3 (I64 n1.items) ∧ tw < ok0 ∧ tw < oi0 ∧ tw < ok1 ∧ tw < oi1 ∧ ok0 ≠ oi0 ∧ ok1 ≠ oi1 ∧ ok0 < ok1 ∧ ok0 < oi1 ∧ oi0 < ok1 ∧ oi0 < oi1
theorem Fr.set (w : World) (mb bo i : Nat) (u v : Value) : Fr w (w.setCell ⟨bo, i, none⟩ u) mb bo v v :=
 ⟨rfl, rfl, rfl, by simp [World.setCell], fun b _ _ h _ => setCell_heap_ne _ _ _ h, .inl rfl⟩
theorem nodeC_rd {w : World} {F : Nat → Prop} {nd : GNode} {ok oi : Nat} (h1 : Arr w ok 3 (I64 nd.keys)) (h2 : Arr w oi 3 (I64 nd.items)) (f1 : F ok) (f2 : F oi) : NodesRd w F (nodeC nd ok oi) [nd] :=
 NodesRd.one ⟨some ⟨ok, 0, none⟩, _, _, some ⟨oi, 0, none⟩, _, _, rfl, ⟨rfl, h1.rd, fun ad e => by obtain rfl := Option.some.inj e; exact ⟨f1, _, _, h1⟩⟩, rfl, h2.rd, fun ad e => by obtain rfl := Option.some.inj e; exact ⟨f2, _, _, h2⟩⟩
def StepE (wr : World) (gb tb tw n i : Nat) (ncs0 : List Value) (N : List GNode) (n0 n1 : GNode) (v : Value) (e : Ending) (w' : World) : Prop :=
 ∃ v', e = .returned (.int .i64 ((n + i : Nat) : Int)) ∧ Arr w' tb 24 [v'] ∧ Fr wr w' tb tb v v' ∧ (∃ u, w'.cell? ⟨tw, i, none⟩ = some u) ∧ w'.frozen? ⟨tw, i, none⟩ = false ∧ TwS (w'.setCell ⟨tw, i, none⟩ (.int .i64 ((n + i : Nat) : Int))) gb tb tw n ncs0 N n0 n1 v' (i + 1)
theorem twin_step {gb tb tw n x0 x1 i : Nat} {N : List GNode} {ncs0 : List Value} {v : Value} {bg : Nat} (hL : NL 65536 N) (hn : N.length = n) (hn4 : n ≤ 4096) (h0 : x0 < n) (h1 : x1 < n) (e0 : (ndAt N x0).keys = []) (e1 : (ndAt N x1).keys = []) (wr : World) (hi : i < 2) (ht : gb ≤ tb) (htw : tb < tw)
  (hT : Arr wr tb 24 [v]) (hS : TwS wr gb tb tw n ncs0 N (ndAt N x0) (ndAt N x1) v i) :
  ∃ xi : Nat, (I64 [(x0 : Int), (x1 : Int)])[i]? = some (.int .i64 (xi : Int)) ∧ Calls Tryz.prog 52 #[.int .i64 (xi : Int), .pointer (some ⟨tb, 0, none⟩), .pointer (some ⟨bg, 0, none⟩)] wr (StepE wr gb tb tw n i ncs0 N (ndAt N x0) (ndAt N x1) v) := by
 have h01 : i = 0 ∨ i = 1 := by omega
 rcases h01 with rfl | rfl
 ·obtain ⟨hrow, hnd, hA⟩ := hS
  refine ⟨x0, rfl, (twin_any hL hn (by omega) h0 e0 wr hT ht hrow (hnd.over fun b _ hF _ => ⟨rfl, hF.1⟩)).mono ?_⟩
  rintro e w' ⟨v', ok, oi, rfl, hT', hrow', hK, hI, hok, hoi, hne, hF⟩
  have hrn : ∀ {b : Nat} {t : TypeId} {xs : List Value}, Arr wr b t xs → t ≠ 34 → v.ownBlock ≠ some b := fun ha ht e => by
   obtain ⟨C, fz, hk⟩ := own_kind hrow e
   exact ht (cells_kind ha hk)
  have htwl := hA.lt
  have hA' := hF.arr hA (by omega) (by omega) (hrn hA (by decide))
  have hA2 := hA'.store 0 (.int .i64 ((n + 0 : Nat) : Int))
  refine ⟨v', rfl, hT', hF, ⟨_, hA'.cell' (i := 0) rfl⟩, hA'.frozen 0, ok, oi, ?_, ?_, ?_, hK.far (p := ⟨tw, 0, none⟩) (by show ok ≠ tw; omega) _, hI.far (p := ⟨tw, 0, none⟩) (by show oi ≠ tw; omega) _, by omega, by omega, hne⟩
  ·exact own_far (p := ⟨tw, 0, none⟩) hrow' (fun e => by
    obtain ⟨C, fz, hk⟩ := own_kind hrow' e
    exact absurd (cells_kind hA' hk) (by decide)) _
  ·refine hnd.over fun b hb hF' hk => ⟨(setCell_heap_ne _ _ _ (by show b ≠ tw; omega)).trans (hF.block b hb (by omega) (by omega) (fun e => ?_)), hF'⟩
   obtain ⟨C, fz, hk⟩ := hk
   obtain ⟨C', fz', hk'⟩ := own_kind hrow e
   exact absurd (cells_kind hk hk') (by decide)
  ·exact hA2
 ·obtain ⟨ok0, oi0, hrow, hnd, hA, hK0, hI0, l1, l2, l3⟩ := hS
  have hnd1 : NodesRd wr (fun b => gb ≤ b) (ncs0 ++ nodeC (ndAt N x0) ok0 oi0) (N ++ [ndAt N x0]) := (hnd.over fun b _ hF _ => ⟨rfl, hF.1⟩).app (nodeC_rd hK0 hI0 (by omega) (by omega))
  have hx1 : ndAt (N ++ [ndAt N x0]) x1 = ndAt N x1 := by
   unfold ndAt
   rw [List.getD_eq_getElem?_getD, List.getElem?_append_left (by omega), ← List.getD_eq_getElem?_getD]
  have hL1 : NL 65536 (N ++ [ndAt N x0]) := fun j hj => by
   by_cases hjn : j < N.length
   ·have e : ndAt (N ++ [ndAt N x0]) j = ndAt N j := by
     unfold ndAt
     rw [List.getD_eq_getElem?_getD, List.getElem?_append_left hjn, ← List.getD_eq_getElem?_getD]
    rw [e]
    exact hL j hjn
   ·have e : ndAt (N ++ [ndAt N x0]) j = ndAt N x0 := by
     have hj' : j = N.length := by simp at hj; omega
     subst hj'
     show (N ++ [ndAt N x0]).getD N.length _ = _
     rw [List.getD_eq_getElem?_getD, List.getElem?_append_right (Nat.le_refl _), Nat.sub_self]
     rfl
    rw [e]
    exact hL x0 (by omega)
  have hd := twin_any (bg := bg) hL1 (show (N ++ [ndAt N x0]).length = n + 1 by simp [hn]) (by omega) (show x1 < n + 1 by omega) (by rw [hx1]; exact e1) wr hT ht hrow hnd1
  rw [hx1] at hd
  refine ⟨x1, rfl, hd.mono ?_⟩
  rintro e w' ⟨v', ok, oi, rfl, hT', hrow', hK, hI, hok, hoi, hne, hF⟩
  have hrn : ∀ {b : Nat} {t : TypeId} {xs : List Value}, Arr wr b t xs → t ≠ 34 → v.ownBlock ≠ some b := fun ha ht e => by
   obtain ⟨C, fz, hk⟩ := own_kind hrow e
   exact ht (cells_kind ha hk)
  have htwl := hA.lt
  have hkl := hK0.lt
  have hil := hI0.lt
  have hA' := hF.arr hA (by omega) (by omega) (hrn hA (by decide))
  have hA2 := hA'.store 1 (.int .i64 ((n + 1 : Nat) : Int))
  have hK0' := hF.arr hK0 (by omega) (by omega) (hrn hK0 (by decide))
  have hI0' := hF.arr hI0 (by omega) (by omega) (hrn hI0 (by decide))
  refine ⟨v', rfl, hT', hF, ⟨_, hA'.cell' (i := 1) rfl⟩, hA'.frozen 1, ok0, oi0, ok, oi, ?_, ?_, hA2, hK0'.far (p := ⟨tw, 1, none⟩) (by show ok0 ≠ tw; omega) _, hI0'.far (p := ⟨tw, 1, none⟩) (by show oi0 ≠ tw; omega) _, hK.far (p := ⟨tw, 1, none⟩) (by show ok ≠ tw; omega) _, hI.far (p := ⟨tw, 1, none⟩) (by show oi ≠ tw; omega) _, l1, l2, by omega, by omega, l3, hne, by omega, by omega, by omega, by omega⟩
  ·exact own_far (p := ⟨tw, 1, none⟩) hrow' (fun e => by
    obtain ⟨C, fz, hk⟩ := own_kind hrow' e
    exact absurd (cells_kind hA' hk) (by decide)) _
  ·refine hnd.over fun b hb hF' hk => ⟨(setCell_heap_ne _ _ _ (by show b ≠ tw; omega)).trans (hF.block b hb (by omega) (by omega) (fun e => ?_)), hF'⟩
   obtain ⟨C, fz, hk⟩ := hk
   obtain ⟨C', fz', hk'⟩ := own_kind hrow e
   exact absurd (cells_kind hk hk') (by decide)
end Go.Proofs.YtoppncpmfajbcaaGreatDoor
