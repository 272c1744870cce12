/- The walk of cbor.Parse. -/
import Derived.Test.YtbhigefbihpnlaaGreatDoorMBl
import Derived.Test.YtbhigefbihpnlaaGreatDoorMAa
import Derived.OpenShut
import Derived.Deep.DeepHandedRow
import Derived.Lib.LaidTab
import Derived.Lib.LaidU8
import Derived.Stop.LaidErr
import Derived.LaidHandle
import Derived.Test.YtbhigefbihpnlaaGreatDoorMAp
import Derived.Test.YtbhigefbihpnlaaGreatDoorMBj
set_option linter.unusedVariables false
set_option linter.unusedSimpArgs false
set_option linter.defProp false
set_option linter.constructorNameAsVariable false
namespace Go.Proofs.YtbhigefbihpnlaaGreatDoor
open Go.RowKit
abbrev zDocB : List Value := [.int .i64 0, .string ⟨#[]⟩, .slice none 0 0, .int .i64 0, .slice none 0 0, .slice none 0 0]
structure LibF (w : World) : Prop where
 e : LibE w
 et : w.cell? ⟨0, 0, none⟩ = some (.iface 98 (.agg #[hT 51]))
theorem LibF.lt {w : World} (h : LibF w) : 0 < w.heap.size := by
 rcases Nat.lt_or_ge 0 w.heap.size with h1 | h1
 ·exact h1
 ·have := h.et; simp [World.cell?, Array.getElem?_eq_none h1] at this
theorem LibF.keep {w w' : World} (h : LibF w) (hb : Below w.heap.size w w') : LibF w' := ⟨h.e.keep hb, (show w'.cell? ⟨0, 0, none⟩ = w.cell? ⟨0, 0, none⟩ by unfold World.cell?; rw [hb.block _ h.lt]).trans h.et⟩
def CParR (w : World) (s : List Nat) (r : CR (List GNode × List JSpan)) (e : Ending) (w' : World) : Prop :=
 Below w.heap.size w w' ∧ match r with
 | .ok (N, S) => (chkV N 0 = 5 → e = .returned (.tuple #[.agg zDocB.toArray, .int .i64 0, .int .i64 5])) ∧ (chkV N 0 ≠ 5 → ∃ gn cn vs, e = .returned (.tuple #[.agg #[.int .i64 6, .string (mks s), .slice (some ⟨gn, 0, none⟩) N.length cn, .int .i64 0, vs, .slice none 0 0], .int .i64 0, .int .i64 0]) ∧
   w.heap.size ≤ gn ∧ GRd w' w'.heap.size gn 0 N ∧ w'.ownsRow w.heap.size 55 9 vs S.length (spansC S))
 | .err a c => e = .returned (.tuple #[.agg zDocB.toArray, .int .i64 (a : Int), .int .i64 (c : Int)])
 | .no => True
theorem own_lowB {w : World} {b b' : Nat} {e : TypeId} {k : Nat} {v : Value} {n : Nat} {xs : List Value} (h : w.ownsRow b e k v n xs) (hb : b' ≤ b) : w.ownsRow b' e k v n xs := by
 refine ⟨h.1, ?_⟩
 rcases h.2 with h1 | ⟨g, cap, cur, h1, h2, h3⟩
 ·exact .inl h1
 ·exact .inr ⟨g, cap, cur, h1, Nat.le_trans hb h2, h3⟩
theorem row6 {w : World} {rb : Nat} {t : TypeId} {a b c d e f x0 x1 x2 x3 x4 x5 : Value} (hZ : Arr w rb t [a, b, c, d, e, f]) :
  Arr ((((((w.setCell ⟨rb, 0, none⟩ x0).setCell ⟨rb, 1, none⟩ x1).setCell ⟨rb, 2, none⟩ x2).setCell ⟨rb, 3, none⟩ x3).setCell ⟨rb, 4, none⟩ x4).setCell ⟨rb, 5, none⟩ x5) rb t [x0, x1, x2, x3, x4, x5] ∧
  (∀ (zz : Nat) (wz : World), zz ≤ rb → Below zz wz w → Below zz wz ((((((w.setCell ⟨rb, 0, none⟩ x0).setCell ⟨rb, 1, none⟩ x1).setCell ⟨rb, 2, none⟩ x2).setCell ⟨rb, 3, none⟩ x3).setCell ⟨rb, 4, none⟩ x4).setCell ⟨rb, 5, none⟩ x5)) :=
 ⟨(((((hZ.store 0 x0).store 1 x1).store 2 x2).store 3 x3).store 4 x4).store 5 x5, fun _ _ hz hb => (((((hb.setCell (p := ⟨rb, 0, none⟩) hz x0).setCell (p := ⟨rb, 1, none⟩) hz x1).setCell (p := ⟨rb, 2, none⟩) hz x2).setCell (p := ⟨rb, 3, none⟩) hz x3).setCell (p := ⟨rb, 4, none⟩) hz x4).setCell (p := ⟨rb, 5, none⟩) hz x5⟩
theorem CM.asides6 {s : List Nat} {w : World} {B : Nat} {vn vs vh vm : Value} {ncs : List Value} {lab : Nat → Option Nat} {st : CSt} (h : CM w B s vn vs vh vm ncs lab st) {g : Nat} (hg : ¬ CF B vn vs lab g) (x0 x1 x2 x3 x4 x5 : Value) :
  CM ((((((w.setCell ⟨g, 0, none⟩ x0).setCell ⟨g, 1, none⟩ x1).setCell ⟨g, 2, none⟩ x2).setCell ⟨g, 3, none⟩ x3).setCell ⟨g, 4, none⟩ x4).setCell ⟨g, 5, none⟩ x5) B s vn vs vh vm ncs lab st :=
 (((((h.aside hg 0 x0).aside hg 1 x1).aside hg 2 x2).aside hg 3 x3).aside hg 4 x4).aside hg 5 x5
theorem CM_start {w : World} {B : Nat} {s : List Nat} (h : Arr w B 46 [.string (mks s), .int .i64 0, .int .i64 6, .string (mks s), .slice none 0 0, .int .i64 0, .slice none 0 0, .slice none 0 0, .slice none 0 0, .slice none 0 0]) :
  CM w B s (.slice none 0 0) (.slice none 0 0) (.slice none 0 0) (.slice none 0 0) [] (fun _ => none) st0C where
 par := h
 nod := World.ownsRow_nil _ _ _ _
 nds := fun i nd hi => by simp at hi
 spn := World.ownsRow_nil _ _ _ _
 shr := ⟨World.ownsRow_nil _ _ _ _, fun g e => by simp [Value.ownBlock] at e⟩
 mrk := ⟨World.ownsRow_nil _ _ _ _, fun g e => by simp [Value.ownBlock] at e⟩
 labB := fun g hg => by simp at hg
theorem CI_start (s : List Nat) : CI s st0C := ⟨Nat.zero_le _, by decide, Nat.le_refl _, Nat.le_refl _, Nat.le_refl _, fun nd h => (by cases h), fun nd h => (by cases h), fun nd h => (by cases h)⟩
set_option maxRecDepth 20000 in
set_option maxHeartbeats 16000000 in
theorem cparse_cb (f : Nat) (s : List Nat) (hs : By s) (hl : s.length ≤ 65536) (hne : sourceC f s ≠ .no) (hck : ∀ N S, sourceC f s = .ok (N, S) → ChkOK N 0) (w : World) (hw : LibF w) :
  Calls Tryz.prog 5 #[.string (mks s)] w (CParR w s (sourceC f s)) := by
 obtain ⟨n, hn⟩ : ∃ n, s.length = n := ⟨_, rfl⟩
 have hsz : (mks s).size = n := by rw [size_mks]; exact hn
 have hn' : ¬ (n : Int) > 65536 := by omega
 have Z0 : Hid (Arr (w.alloc (.cells zDocB.toArray 30)) w.heap.size 30 zDocB) := Arr.new w 30 zDocB
 have HB0 := Lib.hid ((Below.refl w.heap.size w).alloc (Nat.le_refl _) (.cells zDocB.toArray 30))
 have HW := Lib.hid hw
 obtain ⟨R, hR⟩ : ∃ R, sourceC f s = R := ⟨_, rfl⟩
 have HSRC := Lib.hid (fun (W : World) (B : Nat) (h : PW s W B (.slice none 0 0) (.slice none 0 0) (.slice none 0 0) (.slice none 0 0) [] (fun _ => none) st0C) => source_cb f h hne hck)
 rw [hR] at HSRC ⊢
 have HCK : Hid (∀ N S, R = .ok (N, S) → ChkOK N 0) := by show ∀ N S, _; rw [← hR]; exact hck
 have HNO : Hid (R ≠ .no) := by show R ≠ .no; rw [← hR]; exact hne
 have HBY := Lib.hid hs
 have HLE := Lib.hid hl
 clear hn hl hne hck hR hs hw
 go_enter Tryz.func5, Tryz.ntmps5
 go_upto_region 1 with (fail)
 generalize (w.alloc (.cells zDocB.toArray 30)) = W at *
 obtain ⟨rb, hrb⟩ : ∃ x, w.heap.size = x := ⟨_, rfl⟩
 have HRB := Lib.hid hrb
 rw [hrb] at Z0 HB0 ⊢
 clear hrb
 obtain ⟨h1, h2, hb2, hz2⟩ := box2 W 46 48 [.string (mks s), .int .i64 0, .int .i64 6, .string (mks s), .slice none 0 0, .int .i64 0, .slice none 0 0, .slice none 0 0, .slice none 0 0, .slice none 0 0] [.int .i64 0, .int .i64 0]
 have Z2 := Lib.hid (Z0.out.keep hb2)
 have hrl := Z0.out.lt
 have HB2 := Lib.hid (HB0.out.trans (hb2.mono (Nat.le_of_lt hrl)))
 clear hb2 Z0 HB0
 go_upto_region 5 with (fail)
 generalize ((W.alloc (.cells #[.string (mks s), .int .i64 0, .int .i64 6, .string (mks s), .slice none 0 0, .int .i64 0, .slice none 0 0, .slice none 0 0, .slice none 0 0, .slice none 0 0] 46)).alloc (.cells #[.int .i64 0, .int .i64 0] 48)) = w5 at *
 obtain ⟨pb, hpb⟩ : ∃ x, W.heap.size = x := ⟨_, rfl⟩
 rw [hpb] at h1 h2 hz2 hrl ⊢
 clear hpb
 obtain ⟨fb, hfb⟩ : ∃ x, pb + 1 = x := ⟨_, rfl⟩
 have hpf : pb < fb := by omega
 rw [hfb] at h2 ⊢
 clear hfb
 have hF0 : ∀ g, g ≠ pb → ¬ CF pb (.slice none 0 0) (.slice none 0 0) (fun _ => none) g := fun g hg h => by
  rcases h with e | e | e | e
  ·exact hg e
  ·simp [Value.ownBlock] at e
  ·simp [Value.ownBlock] at e
  ·simp at e
 have HF0 := Lib.hid hF0
 have PW5 : Hid (PW s w5 pb (.slice none 0 0) (.slice none 0 0) (.slice none 0 0) (.slice none 0 0) [] (fun _ => none) st0C) := ⟨HBY.out, HLE.out, CI_start s, CM_start h1.out, fun w' hb => HW.out.e.keep (by rw [HRB.out]; exact HB2.out.trans (hb.mono (Nat.le_of_lt hrl)))⟩
 have DS := Lib.hid (HSRC.out w5 pb PW5.out)
 have HFL : Hid (∀ w' F', PStep w5 w' (CF pb (.slice none 0 0) (.slice none 0 0) (fun _ => none)) F' → Below rb w w') := fun w' F' h => HB2.out.trans ((h.below (fun g hg => by rcases hg with e | e | e | e; exact Nat.le_of_eq e.symm; (simp [Value.ownBlock] at e); (simp [Value.ownBlock] at e); (simp at e)) (Nat.le_of_lt h1.out.lt)).mono (Nat.le_of_lt hrl))
 clear hF0 HSRC
 have hcase : Hid ((∃ a c : Nat, Hid (Calls Tryz.prog 11 #[.pointer (some ⟨pb, 0, none⟩)] w5 fun e w' => (∃ F', PStep w5 w' (CF pb (.slice none 0 0) (.slice none 0 0) (fun _ => none)) F') ∧ e = .returned (faultV a c)) ∧ Hid (∀ w', Below rb w w' → CParR w s R (.returned (.tuple #[.agg zDocB.toArray, .int .i64 (a : Int), .int .i64 (c : Int)])) w')) ∨
   (∃ N S, Hid (R = .ok (N, S)) ∧ Hid (chkV N 0 ≠ 5) ∧ Hid (Calls Tryz.prog 11 #[.pointer (some ⟨pb, 0, none⟩)] w5 fun e w' => (∃ F', PStep w5 w' (CF pb (.slice none 0 0) (.slice none 0 0) (fun _ => none)) F') ∧ e = .returned .nilIface ∧ ∃ vn vs vh vm ncs lab st, CM w' pb s vn vs vh vm ncs lab st ∧ st.nodes = N ∧ st.spans = S)) ∨ R = .no) := by
  show _ ∨ _ ∨ _
  cases R with
  | no => exact .inr (.inr rfl)
  | err a c => exact .inl ⟨a, c, DS.out, fun w' hb => ⟨by rw [HRB.out]; exact hb, rfl⟩⟩
  | ok p =>
   obtain ⟨N, S⟩ := p
   by_cases h5 : chkV N 0 = 5
   ·exact .inl ⟨0, 5, DS.out.mono fun e w' h => ⟨h.1, h.2.1 h5⟩, fun w' hb => ⟨by rw [HRB.out]; exact hb, fun _ => rfl, fun h => absurd h5 h⟩⟩
   ·exact .inr (.inl ⟨N, S, rfl, h5, DS.out.mono fun e w' h => ⟨h.1, h.2.2 h5⟩⟩)
 clear DS
 rcases hcase.out with ⟨a, c, DS, HH⟩ | ⟨N, S, HR, H5, DS⟩ | hno
 ·clear hcase
  have DA := Lib.hid (fun (w' : World) (hg : w'.cell? ⟨0, 0, none⟩ = some (.iface 98 (.agg #[hT 51]))) (ht : Arr w' fb 48 [.int .i64 0, .int .i64 0]) => as_hit fb (a : Int) (c : Int) _ _ w' hg ht)
  go_upto_region 6 with (first | (go_at_call 11; ((with_reducible refine DS.out.mono ?_)); rintro e w6 ⟨⟨F6, hS6⟩, rfl⟩; have X6 := Lib.hid (hS6.arr h2.out (HF0.out fb (by omega))); have Z6 := Lib.hid (hS6.arr Z2.out (HF0.out rb (by omega))); have B6 := Lib.hid (HFL.out _ _ hS6); have E6 := Lib.hid (HW.out.keep (by rw [HRB.out]; exact B6.out)).et) | (go_at_call 10; ((with_reducible refine (DA.out _ E6.out X6.out).mono ?_)); rintro e w7 ⟨rfl, hF7, hk7, hz7, ho1, ho2, ho3⟩))
  have hrlt : rb < w6.heap.size := Z6.out.lt
  have Z7 : Hid (Arr w7 rb 30 zDocB) := (hk7 rb hrlt (by omega)).trans Z6.out
  have B7 : Hid (Below rb w w7) := ⟨ho1.trans B6.out.os, ho2.trans B6.out.tape, ho3.trans B6.out.output, Nat.le_trans B6.out.size hz7, fun k hk => (hk7 k (by omega) (by omega)).trans (B6.out.block k hk)⟩
  have HF7 := Lib.hid hF7
  clear hk7 hz7 ho1 ho2 ho3 hF7 X6 Z6 B6 E6 hS6 DA DS PW5
  have u0 := HF7.out.cell' (i := 0) rfl
  have u1 := HF7.out.cell' (i := 1) rfl
  have z0 := Z7.out.cell' (i := 0) rfl
  have f0 := Z7.out.frozen 0
  have z1 := Z7.out.cell' (i := 1) rfl
  have f1 := Z7.out.frozen 1
  have z2 := Z7.out.cell' (i := 2) rfl
  have f2 := Z7.out.frozen 2
  have z3 := Z7.out.cell' (i := 3) rfl
  have f3 := Z7.out.frozen 3
  have z4 := Z7.out.cell' (i := 4) rfl
  have f4 := Z7.out.frozen 4
  have z5 := Z7.out.cell' (i := 5) rfl
  have f5 := Z7.out.frozen 5
  go_region
  all_goals
   go_wp2
   obtain ⟨q1, q2⟩ := row6 (x0 := .int .i64 0) (x1 := .string ⟨#[]⟩) (x2 := .slice none 0 0) (x3 := .int .i64 0) (x4 := .slice none 0 0) (x5 := .slice none 0 0) Z7.out
   have r0 := q1.cell' (i := 0) rfl
   have r1 := q1.cell' (i := 1) rfl
   have r2 := q1.cell' (i := 2) rfl
   have r3 := q1.cell' (i := 3) rfl
   have r4 := q1.cell' (i := 4) rfl
   have r5 := q1.cell' (i := 5) rfl
   refine bodyPost_ret (v := .tuple #[.agg zDocB.toArray, .int .i64 (a : Int), .int .i64 (c : Int)]) (by simp [results, Tryz.results5, go_sem, r0, r1, r2, r3, r4, r5]) rfl ?_
   exact HH.out _ (Below.drew (q2 _ _ (Nat.le_refl _) B7.out))
 ·clear hcase
  go_upto_region 7 with (first | (go_at_call 11; ((with_reducible refine DS.out.mono ?_)); rintro e w6 ⟨⟨F6, hS6⟩, rfl, vn, vs, vh, vm, ncs, lab, st, C6, hN6, hS6'⟩; have X6 := Lib.hid (hS6.arr h2.out (HF0.out fb (by omega))); have Z6 := Lib.hid (hS6.arr Z2.out (HF0.out rb (by omega))); have B6 := Lib.hid (HFL.out _ _ hS6)) | (go_at_call 10; ((with_reducible refine (as_nil _ _).mono ?_)); rintro e w7 ⟨rfl, rfl⟩))
  have HRO := Lib.hid (show R = .ok (st.nodes, st.spans) by rw [hN6, hS6']; exact HR.out)
  have H5' := Lib.hid (show chkV st.nodes 0 ≠ 5 by rw [hN6]; exact H5.out)
  have hrbF : ¬ CF pb vn vs lab rb := fun h => by have := C6.cfB rb h; omega
  obtain ⟨gn, cn, hvn, _, _⟩ := own_some C6.nod (HCK.out _ _ HRO.out).n0
  subst hvn
  obtain ⟨As, cs, hvs, _, _⟩ := own_slice C6.spn
  subst hvs
  have c2 : w7.cell? ⟨pb, 2, none⟩ = some (.int .i64 6) := C6.par.cell' (i := 2) rfl
  have c3 : w7.cell? ⟨pb, 3, none⟩ = some (.string (mks s)) := C6.par.cell' (i := 3) rfl
  have c4 : w7.cell? ⟨pb, 4, none⟩ = some (.slice (some ⟨gn, 0, none⟩) st.nodes.length cn) := C6.par.cell' (i := 4) rfl
  have c5 : w7.cell? ⟨pb, 5, none⟩ = some (.int .i64 0) := C6.par.cell' (i := 5) rfl
  have c6 : w7.cell? ⟨pb, 6, none⟩ = some (.slice As st.spans.length cs) := C6.par.cell' (i := 6) rfl
  have c7 : w7.cell? ⟨pb, 7, none⟩ = some (.slice none 0 0) := C6.par.cell' (i := 7) rfl
  have C6h := Lib.hid C6
  have HRF := Lib.hid hrbF
  clear hS6 hN6 hS6' C6 hrbF DS HR H5 X6 PW5
  have z0 := Z6.out.cell' (i := 0) rfl
  have f0 := Z6.out.frozen 0
  have z1 := Z6.out.cell' (i := 1) rfl
  have f1 := Z6.out.frozen 1
  have z2 := Z6.out.cell' (i := 2) rfl
  have f2 := Z6.out.frozen 2
  have z3 := Z6.out.cell' (i := 3) rfl
  have f3 := Z6.out.frozen 3
  have z4 := Z6.out.cell' (i := 4) rfl
  have f4 := Z6.out.frozen 4
  have z5 := Z6.out.cell' (i := 5) rfl
  have f5 := Z6.out.frozen 5
  go_wp2
  obtain ⟨q1, q2⟩ := row6 (x0 := .int .i64 6) (x1 := .string (mks s)) (x2 := .slice (some ⟨gn, 0, none⟩) st.nodes.length cn) (x3 := .int .i64 0) (x4 := .slice As st.spans.length cs) (x5 := .slice none 0 0) Z6.out
  have C7 := C6h.out.asides6 HRF.out (.int .i64 6) (.string (mks s)) (.slice (some ⟨gn, 0, none⟩) st.nodes.length cn) (.int .i64 0) (.slice As st.spans.length cs) (.slice none 0 0)
  have r0 := q1.cell' (i := 0) rfl
  have r1 := q1.cell' (i := 1) rfl
  have r2 := q1.cell' (i := 2) rfl
  have r3 := q1.cell' (i := 3) rfl
  have r4 := q1.cell' (i := 4) rfl
  have r5 := q1.cell' (i := 5) rfl
  refine bodyPost_ret (v := .tuple #[.agg #[.int .i64 6, .string (mks s), .slice (some ⟨gn, 0, none⟩) st.nodes.length cn, .int .i64 0, .slice As st.spans.length cs, .slice none 0 0], .int .i64 0, .int .i64 0]) (by simp [results, Tryz.results5, go_sem, r0, r1, r2, r3, r4, r5]) rfl ?_
  rw [HRO.out]
  refine ⟨by rw [HRB.out]; exact q2 _ _ (Nat.le_refl _) B6.out, fun h => absurd h H5'.out, fun _ => ⟨gn, cn, _, rfl, ?_, C7.grd, ?_⟩⟩
  ·rw [HRB.out]; have := (C6h.out.nod.lt gn rfl).1; omega
  ·rw [HRB.out]; exact own_lowB C7.spn (Nat.le_of_lt hrl)
 ·exact absurd hno HNO.out
end Go.Proofs.YtbhigefbihpnlaaGreatDoor
namespace Go.Proofs.YtbhigefbihpnlaaGreatDoor
open Go.ChangeShapes Go.WideShapes Go.ChangeAt Go.RowKit Go.Lib
theorem Tryz.g_pow : Tryz.prog.globalNamed "internal/strconv.uint64pow10" = some 9 := by kernel_rfl
theorem pow_type : (Tryz.prog.globals[9]?).map (·.type) = some 316 := by kernel_rfl
theorem cells_u64 : Tryz.prog.cellsOf 36 = 1 := by kernel_rfl
theorem cells_pow : Tryz.prog.cellsOf 316 = 20 := by kernel_rfl
theorem tabIs_of_reads {P : Program} {W : World} {name : String} {k : IntKind} {zs : List Int} {g : Nat} {t e : TypeId} {n : Nat}
  (hg : P.globalNamed name = some g) (hty : (P.globals[g]?).map (·.type) = some t) (ht : P.underlying t = some (.array n e)) (he : P.underlying e = some (.int k)) (hce : P.cellsOf e = 1) (hct : P.cellsOf t = n)
  (h : VarReads P W name (tabData k zs)) : TabIs P W name k zs := by
 obtain ⟨g', t', cs, fuel, p, hg', ht', hvar, hd⟩ := h
 obtain rfl := Option.some.inj (hg.symm.trans hg')
 obtain rfl := Option.some.inj (hty.symm.trans ht')
 unfold TabIs
 rw [hvar, ← cells_of_tab ht he hce hct hd]
theorem pow_data : Rows.laid_internal_strconv_uint64pow10 = (tabData .u64 pow10Tab : DataW Unit) := by kernel_rfl
theorem first_data : Rows.laid_unicode_utf8_first = firstData := by kernel_rfl
theorem accept_data : Rows.laid_unicode_utf8_acceptRanges = acceptData := by kernel_rfl
theorem u8_extra : U8Extra Tryz.prog Tryz.lays260_ren := ⟨by kernel_rfl, by kernel_rfl, by kernel_rfl, by kernel_rfl, by kernel_rfl, by kernel_rfl, by kernel_rfl⟩
def laidAll : List (String × DataW Unit) := [("math/bits.deBruijn32tab", Rows.laid_math_bits_deBruijn32tab), ("math/bits.deBruijn64tab", Rows.laid_math_bits_deBruijn64tab), ("internal/strconv.uint64pow10", Rows.laid_internal_strconv_uint64pow10), ("unicode/utf8.acceptRanges", Rows.laid_unicode_utf8_acceptRanges), ("errors.errorType", Rows.laid_errors_errorType), ("strconv.ErrRange", Rows.laid_strconv_ErrRange), ("strconv.ErrSyntax", Rows.laid_strconv_ErrSyntax), ("rosetta/binary.formats", Rows.laid_rosetta_binary_formats), ("unicode/utf8.first", Rows.laid_unicode_utf8_first)]
def laidRest : List (String × DataW Unit) := [("math/bits.deBruijn32tab", Rows.laid_math_bits_deBruijn32tab), ("math/bits.deBruijn64tab", Rows.laid_math_bits_deBruijn64tab), ("internal/strconv.uint64pow10", Rows.laid_internal_strconv_uint64pow10), ("unicode/utf8.acceptRanges", Rows.laid_unicode_utf8_acceptRanges), ("strconv.ErrRange", Rows.laid_strconv_ErrRange), ("strconv.ErrSyntax", Rows.laid_strconv_ErrSyntax), ("rosetta/binary.formats", Rows.laid_rosetta_binary_formats), ("unicode/utf8.first", Rows.laid_unicode_utf8_first)]
theorem rest_eq : (laidAll.filter fun x => x.2.handleName?.isNone) = laidRest := by kernel_rfl
theorem hand_eq : (laidAll.filter fun x => x.2.handleName?.isSome) = [("errors.errorType", Rows.laid_errors_errorType)] := by kernel_rfl
theorem lib_ok {W : World} (h : laidMet Tryz.prog laidRest W) (hsh : W.ShapedOpen Tryz.prog) : LibOK W where
 pow := by
  have h1 : VarReads Tryz.prog W "internal/strconv.uint64pow10" Rows.laid_internal_strconv_uint64pow10 := laidMet.reads h (by simp [laidRest])
  rw [pow_data] at h1
  exact tabIs_of_reads Tryz.g_pow pow_type Tryz.underlying316 Tryz.underlying36 cells_u64 cells_pow h1
 max := cell_of_shapedOpen_int (zero := #[.int .i64 0]) (t := 3) (g := 5) hsh (of_decide_eq_true (by kernel_rfl)) (by kernel_rfl) rfl (by kernel_rfl) (by kernel_rfl) Tryz.underlying3
 tabs := by
  have h3 : VarReads Tryz.prog W "unicode/utf8.first" Rows.laid_unicode_utf8_first := laidMet.reads h (by simp [laidRest])
  have h4 : VarReads Tryz.prog W "unicode/utf8.acceptRanges" Rows.laid_unicode_utf8_acceptRanges := laidMet.reads h (by simp [laidRest])
  rw [first_data] at h3
  rw [accept_data] at h4
  exact utf8Tabs_of_reads Tryz.lays260 u8_extra h3 h4
theorem Tryz.g_syn : Tryz.prog.globalNamed "strconv.ErrSyntax" = some 7 := by kernel_rfl
theorem syn_type : (Tryz.prog.globals[7]?).map (·.type) = some 51 := by kernel_rfl
theorem star_err : "*" ++ "errors.errorString" = "*errors.errorString" := by decide
theorem row_err (u : TypeId) (h : Tryz.prog.typeName? 3 u = some "*errors.errorString") : u = 311 :=
 typeName_ptr_named (nm := "errors.errorString") (by rw [star_err]; kernel_rfl) (by kernel_rfl) (by decide) u (by rw [star_err]; exact h)
theorem lib_e {W : World} (h : laidMet Tryz.prog laidRest W) (hsh : W.ShapedOpen Tryz.prog) : LibE W where
 lib := lib_ok h hsh
 err := by
  have h5 := h.tail.tail.tail.tail.tail
  obtain ⟨a, s, hv, _⟩ := laid_sentinel (n := "strconv.ErrSyntax") h5 Tryz.g_syn syn_type Tryz.underlying51 row_err Tryz.underlying311 Tryz.underlying313 rfl rfl Tryz.underlying9 (by kernel_rfl) (by kernel_rfl)
  exact ⟨_, _, by simpa using World.var?_cell Tryz.g_syn hv 0⟩
theorem Tryz.g_et : Tryz.prog.globalNamed "errors.errorType" = some 0 := by kernel_rfl
theorem Tryz.rt_name : (Tryz.prog.cutTypes.find? (·.1 == "internal/reflectlite.rtype")).map (·.2) = some 98 := by kernel_rfl
theorem row_error : ((List.range 348).filter fun t => Tryz.prog.rowNamed t [101, 114, 114, 111, 114]) = [51] := by kernel_rfl
theorem types_size : Tryz.prog.types.size = 348 := by kernel_rfl
theorem handle_of {W : World} (h : handlesMet Tryz.prog [("errors.errorType", Rows.laid_errors_errorType)] W) : W.cell? ⟨0, 0, none⟩ = some (.iface 98 (.agg #[hT 51])) := by
 obtain ⟨name, u, ty, e1, e2, e3, e4, e5⟩ := h _ (List.mem_singleton.2 rfl)
 have en : name = [101, 114, 114, 111, 114] := (Option.some.inj e1).symm
 subst en
 obtain rfl := Option.some.inj (Tryz.rt_name.symm.trans e2)
 have hm : ty ∈ (List.range 348).filter fun t => Tryz.prog.rowNamed t [101, 114, 114, 111, 114] := List.mem_filter.2 ⟨List.mem_range.2 (by rw [← types_size]; exact e3), e4⟩
 rw [row_error] at hm
 obtain rfl := List.mem_singleton.1 hm
 have hh : typeHandle Tryz.prog 51 = hT 51 := by kernel_rfl
 rw [hh] at e5
 simpa using World.var?_cell Tryz.g_et e5 0
theorem lib_f {W : World} (h : laidMetH Tryz.prog laidAll W) (hsh : W.ShapedOpen Tryz.prog) : LibF W := by
 have h1 : laidMet Tryz.prog laidRest W ∧ handlesMet Tryz.prog [("errors.errorType", Rows.laid_errors_errorType)] W := by
  rw [← rest_eq, ← hand_eq]
  unfold laidMetH at h
  rw [hand_eq] at h ⊢
  exact h
 exact ⟨lib_e h1.1 hsh, handle_of h1.2⟩
/-! ### A world for the witness -/
def flatD : Nat → DataW Unit → List Value
 | 0, _ => []
 | _ + 1, .lit (.int k z) => [.int k z]
 | n + 1, .agg ds => ds.flatMap (flatD n)
 | _ + 1, _ => []
def layAt (h : Array Obj) (g : Nat) (d : DataW Unit) : Array Obj := h.modify g fun
 | .cells _ t fz => .cells (flatD 4 d).toArray t fz
 | o => o
def rangeS : ByteArray := ⟨#[118, 97, 108, 117, 101, 32, 111, 117, 116, 32, 111, 102, 32, 114, 97, 110, 103, 101]⟩
def synS : ByteArray := ⟨#[105, 110, 118, 97, 108, 105, 100, 32, 115, 121, 110, 116, 97, 120]⟩
noncomputable def low : Nat := (World.holding Tryz.prog default ⟨#[], #[], []⟩).heap.size
def layErr (h : Array Obj) (g n : Nat) : Array Obj := h.modify g fun
 | .cells _ t fz => .cells #[.iface 311 (.pointer (some ⟨n, 0, none⟩))] t fz
 | o => o
def layHan (h : Array Obj) (g : Nat) : Array Obj := h.modify g fun
 | .cells _ t fz => .cells #[.iface 98 (.agg #[hT 51])] t fz
 | o => o
noncomputable def errWorld (os : Os) : World := World.holding Tryz.prog os ⟨#[.cells #[.string rangeS] 313, .cells #[.string synS] 313], #[], []⟩
noncomputable def laidWorld (os : Os) : World :=
 { errWorld os with heap := layHan (layErr (layErr (layAt (layAt (layAt (layAt (layAt (layAt (errWorld os).heap 10 Rows.laid_math_bits_deBruijn32tab) 6 Rows.laid_math_bits_deBruijn64tab) 9 Rows.laid_internal_strconv_uint64pow10) 3 Rows.laid_unicode_utf8_acceptRanges) 2 Rows.laid_unicode_utf8_first) 4 Rows.laid_rosetta_binary_formats) 8 low) 7 (low + 1)) 0 }
end Go.Proofs.YtbhigefbihpnlaaGreatDoor
namespace Go.Proofs.YtbhigefbihpnlaaGreatDoor
open Go.RowKit
def piecesV : Nat → List (List Nat) → List Nat
 | _, [] => []
 | k, p :: ps => wideV 2 p.length (k % 4) ++ p ++ piecesV (k + 1) ps
theorem parts_ok {s : List Nat} : ∀ (ps : List (List Nat)) (k i f : Nat) (acc r : List Nat), s.drop i = piecesV k ps ++ 255 :: r → (∀ p ∈ ps, p.length < 256) → ps.length < f → partsC s 2 f i acc = .ok (acc ++ ps.flatten, i + (piecesV k ps).length + 1) := by
 intro ps
 induction ps with
 | nil =>
  intro k i f acc r h _ hf
  obtain ⟨f, rfl⟩ : ∃ g, f = g + 1 := ⟨f - 1, by simp at hf; omega⟩
  have h1 := hd_one (c := 255) (.inr (.inr (.inr (.inl rfl)))) (show s.drop i = 255 :: r from h)
  unfold partsC
  simp only [h1.1, CR.bind]
  simp [CH.ends, piecesV]
 | cons p ps ih =>
  intro k i f acc r h hp hf
  obtain ⟨f, rfl⟩ : ∃ g, f = g + 1 := ⟨f - 1, by simp at hf; omega⟩
  have hpl : p.length < 256 := hp p (by simp)
  have h' : s.drop i = wideV 2 p.length (k % 4) ++ (p ++ (piecesV (k + 1) ps ++ 255 :: r)) := by rw [h]; simp [piecesV]
  have hlt : p.length < 256 ^ 2 ^ (k % 4) := Nat.lt_of_lt_of_le hpl (by
   have h1 : 256 ^ 1 ≤ 256 ^ 2 ^ (k % 4) := Nat.pow_le_pow_right (by decide) (Nat.one_le_two_pow)
   simpa using h1)
  have h1 := hd_wide (Nat.mod_lt _ (by decide)) hlt h'
  have h2 := drop_more h'
  have h3 := drop_more h2
  have hr : runC s ⟨i, 2, 24 + k % 4, p.length⟩ (i + (wideV 2 p.length (k % 4)).length) = .ok (p, i + (wideV 2 p.length (k % 4)).length + p.length) := by
   have hl : ¬ p.length > s.length - (i + (wideV 2 p.length (k % 4)).length) := by
    have := congrArg List.length h2
    rw [List.length_drop, List.length_append] at this
    omega
   unfold runC
   rw [if_neg hl, if_neg (by simp)]
   rw [h2, List.take_left']
   rfl
  unfold partsC
  simp only [h1.1, CR.bind]
  have he : CH.ends ⟨i, 2, 24 + k % 4, p.length⟩ = false := rfl
  simp only [he, Bool.false_eq_true, if_false, ne_eq, not_true_eq_false, false_or]
  rw [if_neg (by omega)]
  simp only [hr]
  rw [ih (k + 1) _ f (acc ++ p) r h3 (fun q hq => hp q (by simp [hq])) (by simp at hf; omega)]
  simp [piecesV, Nat.add_assoc]
theorem pieces_sc {s : List Nat} {ps : List (List Nat)} {i j : Nat} {r : List Nat} (h : s.drop i = piecesV 0 ps ++ 255 :: r) (hp : ∀ p ∈ ps, p.length < 256) (hl : ps.length ≤ s.length) : scalarC s ⟨j, 2, 31, 31⟩ i = .ok (⟨6, ps.flatten, false, [], []⟩, i + (piecesV 0 ps).length + 1) := by
 unfold scalarC
 simp only [show ¬ (2 : Nat) ≤ 1 by decide, if_false, if_true, textC, ne_eq, not_true_eq_false]
 rw [parts_ok ps 0 i (s.length + 1) [] r h hp (by omega)]
 simp [CR.bind]
def intW (b : Bool) (n : Nat) : GNode := ⟨2, tS (sigN b n), false, [], []⟩
def nodesW (m : Nat) (t : List Nat) : List GNode := [⟨9, [], false, [], [1, 2, 3, 4]⟩, intW false m, intW true (m + 1), ⟨6, t, false, [], []⟩, ⟨10, [], false, [5], [6]⟩, intW false m, nullN]
theorem map_ok {s : List Nat} {h x : CH} {m i i1 i2 i3 f span : Nat} {N : List GNode} {sps : List JSpan} {sh mk : List Int} {M : GNode} (hN : N.length = 4) (hM : M = ⟨10, [], false, [], []⟩) (h5 : h.major = 5) (hc : (h.info = 31) ∨ (h.info ≠ 31 ∧ h.arg = 1))
  (hx : hdC s i = .ok (x, i1)) (hx0 : x.major = 0) (hxm : x.arg = m) (hy : hdC s i1 = .ok (⟨i1, 7, 22, 22⟩, i2)) (he : (h.info = 31 → ∃ y, hdC s i2 = .ok (y, i3) ∧ y.ends = true) ∧ (h.info ≠ 31 → i3 = i2)) :
  ∃ sps', contentC s (f + 4) h 4 span 2 0 ⟨i, N ++ [M], sps, sh, mk⟩ = .ok ⟨i3, N ++ [⟨10, [], false, [5], [6]⟩, intW false m, nullN], sps', sh, mk⟩ := by
 match N, hN with
 | [n0, n1, n2, n3], _ =>
 subst hM
 have t : ∀ n, x.tag n = false := fun n => by unfold CH.tag; simp [hx0]
 have xe : x.ends = false := by unfold CH.ends; simp [hx0]
 have hsc : scalarC s x i1 = .ok (intW false m, i1) := by rw [int_ok (by omega)]; unfold intC intW; rw [hx0, hxm]; rfl
 have hk : keyC s x 4 2 ⟨i1, [n0, n1, n2, n3, ⟨10, [], false, [], []⟩], sps, sh, mk⟩ = .ok ⟨i1, [n0, n1, n2, n3, ⟨10, [], false, [5], []⟩, intW false m], sps, sh, mk⟩ := by
  unfold keyC
  rw [if_neg (by rw [t, t, t, hx0]; decide)]
  simp only [hsc, CR.bind, addC]
  rfl
 obtain ⟨sps1, hv⟩ := scal_ok (s := s) (f := f + 1) (depth := 2) (h := ⟨i1, 7, 22, 22⟩) (x := nullN) (i := i2) (i1 := i2) (N := [n0, n1, n2, n3, ⟨10, [], false, [5], []⟩, intW false m]) (sps := sps) (sh := sh) (mk := mk) ⟨0, span, ((0 : Nat) : Int), 0, 0, x.at_, i1, false, false⟩ null_sc (by show (7 : Nat) ≠ 6; decide) (by show (7 : Nat) ≠ 4; decide) (by show (7 : Nat) ≠ 5; decide) (by decide) (by decide) (by decide) (by simp)
 have hstep : contentC s (f + 4) h 4 span 2 0 ⟨i, [n0, n1, n2, n3, ⟨10, [], false, [], []⟩], sps, sh, mk⟩ = contentC s (f + 3) h 4 span 2 1 ⟨i2, [n0, n1, n2, n3, ⟨10, [], false, [5], [6]⟩, intW false m, nullN], sps1, sh, mk⟩ := by
  conv => lhs; unfold contentC
  rw [if_pos (by rcases hc with e | e; exact .inl e; right; rw [e.2]; decide)]
  simp only [hx, CR.bind, xe, Bool.false_eq_true, and_false, if_false, h5, if_true]
  rw [hk]
  simp only [hy]
  rw [show f + 3 = f + 1 + 2 from rfl, hv]
  rfl
 refine ⟨sps1, ?_⟩
 show contentC s (f + 4) h 4 span 2 0 ⟨i, [n0, n1, n2, n3, ⟨10, [], false, [], []⟩], sps, sh, mk⟩ = _
 rw [hstep]
 rcases hc with e | ⟨e, e1⟩
 ·obtain ⟨y, hy2, hye⟩ := he.1 e
  rw [items_break e hy2 hye]
  rfl
 ·rw [items_end e (by rw [e1]; decide), he.2 e]
  rfl
end Go.Proofs.YtbhigefbihpnlaaGreatDoor
