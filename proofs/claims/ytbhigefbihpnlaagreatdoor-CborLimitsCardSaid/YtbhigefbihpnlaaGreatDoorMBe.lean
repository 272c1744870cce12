/- What graph.twice's map holds: under each key the earlier nodes of that key. No program is mentioned here. -/
import Derived.Test.YtbhigefbihpnlaaGreatDoorMBd
import Derived.Test.YtbhigefbihpnlaaGreatDoorMAh
import Derived.Maps.Views
import Derived.Test.YtbhigefbihpnlaaGreatDoorMAg
import Derived.Deep.DeepCutAuto
import Derived.Test.YtbhigefbihpnlaaGreatDoorMAn
import Derived.DeepKeys4
set_option linter.unusedVariables false
set_option linter.unusedSimpArgs false
set_option linter.defProp false
set_option linter.constructorNameAsVariable false
namespace Go.Proofs.YtbhigefbihpnlaaGreatDoor
open Go.RowKit Go.Maps
open Go.ChangeShapes
def itsOf {H : Type} : DataW H → List Int
 | .slice es _ => es.map fun | .lit (.int _ n) => n | _ => 0
 | _ => []
theorem itsOf_row {H : Type} {w : World} {base : Nat} {e : TypeId} {q : IntKind} {v : Value} {zs : List Int} (h : w.ownsInts base e q v zs) : itsOf (rowDatum (H := H) q v zs) = zs := by
 rcases h.datum (H := H) with ⟨h1, rfl⟩ | h1
 ·rw [h1]; rfl
 ·rw [h1]
  show (ChangeShapes.lits q zs).map _ = zs
  unfold ChangeShapes.lits
  rw [List.map_map]
  conv => rhs; rw [← List.map_id zs]
  exact List.map_congr_left fun a _ => rfl
open Classical in
def GrpR {H : Type} (D : DataW H) (kl : Int → Lit) (seen : List Int) : Prop := IsMap D ∧ ∀ x, itsOf (D.atKey (kl x) .nil) = seen.filter fun s => decide (kl s = kl x)
open Classical in
theorem GrpR.nil {H : Type} (kl : Int → Lit) : GrpR (.map [] : DataW H) kl [] := ⟨isMap_empty, fun _ => rfl⟩
open Classical in
theorem GrpR.put {H : Type} {D : DataW H} {kl : Int → Lit} {seen : List Int} (h : GrpR D kl seen) {s : Int} (hk : WideAt.IsKeyLit (kl s)) {w : World} {base : Nat} {e : TypeId} {q : IntKind} {v : Value} {zs : List Int}
  (ho : w.ownsInts base e q v zs) (hz : zs = (seen.filter fun t => decide (kl t = kl s)) ++ [s]) : GrpR (D.put (kl s) (rowDatum q v zs)) kl (seen ++ [s]) := by
 refine ⟨h.1.put _ _, fun x => ?_⟩
 rw [List.filter_append]
 by_cases hx : kl x = kl s
 ·rw [hx, atKey_put_same h.1 hk, itsOf_row ho, hz]
  simp
 ·rw [atKey_put_other hx, h.2 x]
  have : (List.filter (fun t => decide (kl t = kl x)) [s]) = [] := by simp [Ne.symm hx]
  rw [this, List.append_nil]
def leafSame (a b : GNode) : Bool := decide (a.kind = b.kind) && decide (a.text = b.text) && (a.ord == b.ord)
def dupF (nodes : List GNode) : List Int → List Int → Bool
 | _, [] => false
 | seen, k :: ks => seen.any (fun q => leafSame (ndAt nodes k.toNat) (ndAt nodes q.toNat)) || dupF nodes (seen ++ [k]) ks
def twiceV (nodes : List GNode) : Bool := nodes.any fun nd => dupF nodes [] nd.keys
open Classical in
theorem dup_group {nodes : List GNode} {kl : Int → Lit} {seen : List Int} {k : Int} (h : ∀ q ∈ seen, leafSame (ndAt nodes k.toNat) (ndAt nodes q.toNat) = true → kl q = kl k) :
  (seen.filter fun t => decide (kl t = kl k)).any (fun q => leafSame (ndAt nodes k.toNat) (ndAt nodes q.toNat)) = seen.any fun q => leafSame (ndAt nodes k.toNat) (ndAt nodes q.toNat) := by
 rw [Bool.eq_iff_iff, List.any_eq_true, List.any_eq_true]
 constructor
 ·rintro ⟨q, hq, hs⟩
  exact ⟨q, (List.mem_filter.1 hq).1, hs⟩
 ·rintro ⟨q, hq, hs⟩
  exact ⟨q, List.mem_filter.2 ⟨hq, by simpa using h q hq hs⟩, hs⟩
end Go.Proofs.YtbhigefbihpnlaaGreatDoor
namespace Go.Proofs.YtbhigefbihpnlaaGreatDoor
open Go.RowKit
def Leaf (nd : GNode) : Prop := nd.keys = [] ∧ nd.items = []
set_option maxRecDepth 20000 in
set_option maxHeartbeats 4000000 in
theorem same_leaf {B g o c : Nat} {nodes : List GNode} {root : Int} (x y : Nat) (hx : x < nodes.length) (hy : y < nodes.length) (hlx : Leaf (ndAt nodes x)) (hly : Leaf (ndAt nodes y)) (htx : By (ndAt nodes x).text) (hty : By (ndAt nodes y).text) (w : World) (hG : GRd w B g o nodes) :
  Calls Tryz.prog 47 #[.agg #[.slice (some ⟨g, o, none⟩) nodes.length c, .int .i64 root], .int .i64 (x : Int), .int .i64 (y : Int)] w fun e w' => e = .returned (.bool (leafSame (ndAt nodes x) (ndAt nodes y))) ∧ Below w.heap.size w w' := by
 have h1 : Hid (Arr (w.alloc (.cells #[.slice (some ⟨g, o, none⟩) nodes.length c, .int .i64 root] 26)) w.heap.size 26 [.slice (some ⟨g, o, none⟩) nodes.length c, .int .i64 root]) := Arr.new w 26 [.slice (some ⟨g, o, none⟩) nodes.length c, .int .i64 root]
 have hB1 : Hid (Below w.heap.size w (w.alloc (.cells #[.slice (some ⟨g, o, none⟩) nodes.length c, .int .i64 root] 26))) := (Below.refl _ _).alloc (Nat.le_refl _) _
 have HG := Lib.hid hG
 clear hG
 have ht := eq_mks htx hty
 have HT := Lib.hid ht
 clear ht
 obtain ⟨hkx, hix⟩ := hlx
 obtain ⟨hky, hiy⟩ := hly
 generalize hV : leafSame (ndAt nodes x) (ndAt nodes y) = V
 unfold leafSame at hV
 go_enter Tryz.func47, Tryz.ntmps47
 go_upto_region 1 with (fail)
 generalize w.alloc (.cells #[.slice (some ⟨g, o, none⟩) nodes.length c, .int .i64 root] 26) = W at *
 have hGW := HG.out.below hB1.out HG.out.2.1
 obtain ⟨K1, ck1, I1, ci1, a0, a1, a2, a3, a4, _⟩ := hGW.of_at hx
 obtain ⟨K2, ck2, I2, ci2, c0, c1, c2, c3, c4, _⟩ := hGW.of_at hy
 rw [hkx] at a3
 rw [hix] at a4
 rw [hky] at c3
 rw [hiy] at c4
 have HV := Lib.hid hV
 clear hV hkx hix hky hiy htx hty hGW
 generalize ndAt nodes x = A at *
 generalize ndAt nodes y = C at *
 obtain ⟨n, hn⟩ : ∃ n, nodes.length = n := ⟨_, rfl⟩
 obtain ⟨gb, hgb⟩ : ∃ b, w.heap.size = b := ⟨_, rfl⟩
 have hgbl := h1.out.lt
 rw [hgb] at h1 hgbl hB1 ⊢
 rw [hn] at h1 hx hy ⊢
 have HGB := Lib.hid hgb
 have g0 := h1.out.cell' (i := 0) rfl
 clear hn hgb
 have kx0 : (0 : Int) ≤ x := by omega
 have kx1 : (x : Int) < n := by omega
 have ky0 : (0 : Int) ≤ y := by omega
 have ky1 : (y : Int) < n := by omega
 have hgl : g < W.heap.size := by have := HG.out.1; have := HG.out.2.1; have := hB1.out.size; omega
 have hal : Below W.heap.size W (W.alloc (.cells #[.int .i64 0, .string ⟨#[]⟩, .bool false, .slice none 0 0, .slice none 0 0] 60)) := (Below.refl _ _).alloc (Nat.le_refl _) _
 have hal2 : Below W.heap.size W ((W.alloc (.cells #[.int .i64 0, .string ⟨#[]⟩, .bool false, .slice none 0 0, .slice none 0 0] 60)).alloc (.cells #[.int .i64 0, .string ⟨#[]⟩, .bool false, .slice none 0 0, .slice none 0 0] 60)) := hal.alloc (by simp) _
 have a01 := (hal.cell (by exact hgl)).trans a0
 have c01 := (hal.cell (by exact hgl)).trans c0
 have a02 := (hal2.cell (by exact hgl)).trans a0
 have c02 := (hal2.cell (by exact hgl)).trans c0
 have a11 := (hal.cell (by exact hgl)).trans a1
 have c11 := (hal.cell (by exact hgl)).trans c1
 have a12 := (hal2.cell (by exact hgl)).trans a1
 have c12 := (hal2.cell (by exact hgl)).trans c1
 have a21 := (hal.cell (by exact hgl)).trans a2
 have c21 := (hal.cell (by exact hgl)).trans c2
 have a22 := (hal2.cell (by exact hgl)).trans a2
 have c22 := (hal2.cell (by exact hgl)).trans c2
 have a31 := (hal.cell (by exact hgl)).trans a3
 have c31 := (hal.cell (by exact hgl)).trans c3
 have a32 := (hal2.cell (by exact hgl)).trans a3
 have c32 := (hal2.cell (by exact hgl)).trans c3
 have a41 := (hal.cell (by exact hgl)).trans a4
 have c41 := (hal.cell (by exact hgl)).trans c4
 have a42 := (hal2.cell (by exact hgl)).trans a4
 have c42 := (hal2.cell (by exact hgl)).trans c4
 have g01 := (hal.cell (by exact hgbl)).trans g0
 have g02 := (hal2.cell (by exact hgbl)).trans g0
 have n1 : g ≠ W.heap.size := by omega
 have n2 : g ≠ W.heap.size + 1 := by omega
 have n3 : gb ≠ W.heap.size := by omega
 have n4 : gb ≠ W.heap.size + 1 := by omega
 simp only [List.length_nil] at a3 a4 c3 c4 a31 a41 c31 c41 a32 a42 c32 c42
 go_cut [7, 8] (fun p q wx => ∃ b d : Nat, p = .pointer (some ⟨b, 0, none⟩) ∧ q = .pointer (some ⟨d, 0, none⟩) ∧ Hid (Arr wx b 60 [.int .i64 A.kind, .string (mks A.text), .bool A.ord, .slice K1 0 ck1, .slice I1 0 ci1]) ∧ Hid (Arr wx d 60 [.int .i64 C.kind, .string (mks C.text), .bool C.ord, .slice K2 0 ck2, .slice I2 0 ci2]) ∧ Below W.heap.size W wx)
 case first =>
  go_region
  ·obtain ⟨P, Q, R, _⟩ := box2 W 60 60 [.int .i64 A.kind, .string (mks A.text), .bool A.ord, .slice K1 0 ck1, .slice I1 0 ci1] [.int .i64 C.kind, .string (mks C.text), .bool C.ord, .slice K2 0 ck2, .slice I2 0 ci2]
   go_wp2_with (fail)
   go_meet
   exact ⟨_, _, rfl, rfl, P, Q, R.drew⟩
  ·obtain ⟨P, Q, R, _⟩ := box2 W 60 60 [.int .i64 C.kind, .string (mks C.text), .bool C.ord, .slice K2 0 ck2, .slice I2 0 ci2] [.int .i64 A.kind, .string (mks A.text), .bool A.ord, .slice K1 0 ck1, .slice I1 0 ci1]
   go_wp2_with (fail)
   go_meet
   exact ⟨_, _, rfl, rfl, Q, P, R.drew⟩
 case rest =>
  obtain ⟨b, d, rfl, rfl, hP, hQ, hR⟩ := hcut
  obtain ⟨W2, hW2⟩ : ∃ x, x = wc := ⟨_, rfl⟩
  subst hW2
  clear a0 a01 a02 a1 a11 a12 a2 a21 a22 a3 a31 a32 a4 a41 a42 c0 c01 c02 c1 c11 c12 c2 c21 c22 c3 c31 c32 c4 c41 c42 g0 g01 g02 n1 n2 n3 n4 hal hal2
  have hBf := Lib.hid (hB1.out.trans (hR.mono (by omega)))
  have s0 := hP.out.cell' (i := 0) rfl
  have r0 := hQ.out.cell' (i := 0) rfl
  have s1 := hP.out.cell' (i := 1) rfl
  have r1 := hQ.out.cell' (i := 1) rfl
  have s2 := hP.out.cell' (i := 2) rfl
  have r2 := hQ.out.cell' (i := 2) rfl
  have s3 := hP.out.cell' (i := 3) rfl
  have r3 := hQ.out.cell' (i := 3) rfl
  have s4 := hP.out.cell' (i := 4) rfl
  have r4 := hQ.out.cell' (i := 4) rfl
  have hVV := HV.out
  have hTT := HT.out
  clear HV HT
  by_cases ek : A.kind = C.kind
  ·rw [← ek] at r0 hVV
   by_cases et : A.text = C.text
   ·rw [← et] at r1 hVV
    clear ek et hTT
    cases eo : A.ord with
    | true =>
     cases eo' : C.ord with
     | true =>
      have hv : V = true := by rw [← hVV, eo, eo']; simp
      rw [eo] at s2
      rw [eo'] at r2
      subst hv
      clear hVV eo eo'
      generalize A.kind = kd at *
      by_cases e10 : kd = 10
      all_goals
       try subst e10
       go_wp2_with (fail)
       refine wp_loop_rounds 1 ?_
       rw [rounds_succ]
       go_wp2_with (fail)
       go_ret
       exact ⟨rfl, by rw [HGB.out]; exact hBf.out⟩
     | false =>
      have hv : V = false := by rw [← hVV, eo, eo']; simp
      rw [eo] at s2
      rw [eo'] at r2
      subst hv
      clear hVV eo eo'
      go_wp2_with (fail)
      go_ret
      exact ⟨rfl, by rw [HGB.out]; exact hBf.out⟩
    | false =>
     cases eo' : C.ord with
     | true =>
      have hv : V = false := by rw [← hVV, eo, eo']; simp
      rw [eo] at s2
      rw [eo'] at r2
      subst hv
      clear hVV eo eo'
      go_wp2_with (fail)
      go_ret
      exact ⟨rfl, by rw [HGB.out]; exact hBf.out⟩
     | false =>
      have hv : V = true := by rw [← hVV, eo, eo']; simp
      rw [eo] at s2
      rw [eo'] at r2
      subst hv
      clear hVV eo eo'
      generalize A.kind = kd at *
      by_cases e10 : kd = 10
      all_goals
       try subst e10
       go_wp2_with (fail)
       refine wp_loop_rounds 1 ?_
       rw [rounds_succ]
       go_wp2_with (fail)
       go_ret
       exact ⟨rfl, by rw [HGB.out]; exact hBf.out⟩
   ·have hv : V = false := by rw [← hVV]; simp [et]
    subst hv
    rw [decide_eq_false et] at hTT
    have k1 : ¬ (mks A.text).toList = (mks C.text).toList := by simpa using hTT
    clear hVV ek et
    go_wp2_with (fail)
    go_ret
    exact ⟨rfl, by rw [HGB.out]; exact hBf.out⟩
  ·have hv : V = false := by rw [← hVV]; simp [ek]
   subst hv
   clear hVV hTT
   go_wp2_with (fail)
   go_ret
   exact ⟨rfl, by rw [HGB.out]; exact hBf.out⟩
end Go.Proofs.YtbhigefbihpnlaaGreatDoor
namespace Go.Proofs.YtbhigefbihpnlaaGreatDoor
open Go.RowKit
open Go.WideMaps (KeyLaw)
def stepFields (P : Program) (t : TypeId) : Array Field := match P.underlying t with | some (.struct fs) => fs | _ => #[]
theorem under_step : Tryz.prog.underlying 120 = some (.struct (stepFields Tryz.prog 120)) := by kernel_rfl
theorem step_fields : (stepFields Tryz.prog 120).toList.map (fun f => (f.name != "_", f.type, f.offset)) = [(true, 3, 0), (true, 9, 1)] := by kernel_rfl
theorem step_law : KeyLaw Tryz.prog 120 :=
 deep_law_laid (m := 3) (by kernel_rfl) (by omega) (of_decide_eq_true (by kernel_rfl)) (by kernel_rfl) (by rw [under_step])
theorem keyOf_two {P : Program} {k i j : TypeId} {fs : Array Field} (hu : P.underlying k = some (.struct fs)) (h0 : fs.toList.map (fun f => (f.name != "_", f.type, f.offset)) = [(true, i, 0), (true, j, 1)])
  (hc : P.cellsOf k = 2) (hci : P.cellsOf i = 1) (hcj : P.cellsOf j = 1) (ui : P.underlying i = some (.int .i64)) (uj : P.underlying j = some .string) (hkt : P.keyType k = true) (hs1 : 1 ≤ P.types.size)
  (a : Int) (s : ByteArray) (ha : (Lit.int .i64 a).wf = true) (hs : s.size ≤ maxLen) : ∃ kl, keyOf P k (.agg #[.int .i64 a, .string s]) = some kl := by
 obtain ⟨m, hm⟩ : ∃ m, P.types.size + 1 = m + 2 := ⟨P.types.size - 1, by omega⟩
 obtain ⟨l⟩ := fs
 have hl2 : l.length = 2 := by have := congrArg List.length h0; simpa using this
 obtain ⟨f, g, rfl⟩ := (show ∃ f g, l = [f, g] from match l, hl2 with | [f, g], _ => ⟨f, g, rfl⟩)
 ·simp only [List.map_cons, List.map_nil, List.cons.injEq, Prod.mk.injEq, and_true] at h0
  obtain ⟨⟨f1, f2, f3⟩, g1, g2, g3⟩ := h0
  unfold keyOf
  rw [hu, hkt, hm]
  simp only [Value.formed, hu, Value.cells]
  simp [Program.keyLits, hu, hc, f1, f2, f3, g1, g2, g3, hci, hcj, ui, uj, ha, hs]
theorem step_key (a : Int) (s : ByteArray) (ha : (Lit.int .i64 a).wf = true) (hs : s.size ≤ maxLen) : ∃ kl, keyOf Tryz.prog 120 (.agg #[.int .i64 a, .string s]) = some kl :=
 keyOf_two under_step step_fields (by kernel_rfl) (by kernel_rfl) (by kernel_rfl) (by kernel_rfl) (by kernel_rfl) (by kernel_rfl) (of_decide_eq_true (by kernel_rfl)) a s ha hs
theorem groups_lt {H : Type} {P : Program} {w : World} {k : TypeId} {base : Nat} {e : TypeId} {q : IntKind} {b n : Nat} {D : DataW H} (h : w.ownsGroups P k base e q b n D) : b < w.heap.size := by
 obtain ⟨es, clock, hb, _⟩ := h
 exact (Array.getElem?_eq_some_iff.1 hb).1
theorem zero_ints (u : World) : (zeroValue 44).run Tryz.prog u = .ok (.slice none 0 0) u := by kernel_rfl
end Go.Proofs.YtbhigefbihpnlaaGreatDoor
