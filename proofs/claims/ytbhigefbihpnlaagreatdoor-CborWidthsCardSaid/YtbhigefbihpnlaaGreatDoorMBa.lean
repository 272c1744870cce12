/- The walk of graph's same at nodes that refer to nothing. -/
import Derived.Test.YtbhigefbihpnlaaGreatDoorMAz
import Derived.Test.YtbhigefbihpnlaaGreatDoorMAg
import Derived.Deep.DeepCutAuto
import Derived.Test.YtbhigefbihpnlaaGreatDoorMAl
import Derived.DeepKeys4
import Derived.Maps.OwnOps
import Derived.Maps.AppendAt
import Derived.Maps.GroupsBeside
set_option linter.unusedVariables false
set_option linter.unusedSimpArgs false
set_option linter.defProp false
set_option linter.constructorNameAsVariable false
namespace Go.Proofs.YtbhigefbihpnlaaGreatDoor
open Go.RowKit
def Leaf (nd : GNode) : Prop := nd.keys = [] ∧ nd.items = []
set_option maxRecDepth 20000 in
set_option maxHeartbeats 4000000 in
theorem same_leaf {B g o c : Nat} {nodes : List GNode} {root : Int} (x y : Nat) (hx : x < nodes.length) (hy : y < nodes.length) (hlx : Leaf (ndAt nodes x)) (hly : Leaf (ndAt nodes y)) (htx : By (ndAt nodes x).text) (hty : By (ndAt nodes y).text) (w : World) (hG : GRd w B g o nodes) :
  Calls Tryz.prog 47 #[.agg #[.slice (some ⟨g, o, none⟩) nodes.length c, .int .i64 root], .int .i64 (x : Int), .int .i64 (y : Int)] w fun e w' => e = .returned (.bool (leafSame (ndAt nodes x) (ndAt nodes y))) ∧ Below w.heap.size w w' := by
 have h1 : Hid (Arr (w.alloc (.cells #[.slice (some ⟨g, o, none⟩) nodes.length c, .int .i64 root] 26)) w.heap.size 26 [.slice (some ⟨g, o, none⟩) nodes.length c, .int .i64 root]) := Arr.new w 26 [.slice (some ⟨g, o, none⟩) nodes.length c, .int .i64 root]
 have hB1 : Hid (Below w.heap.size w (w.alloc (.cells #[.slice (some ⟨g, o, none⟩) nodes.length c, .int .i64 root] 26))) := (Below.refl _ _).alloc (Nat.le_refl _) _
 have HG := Lib.hid hG
 clear hG
 have ht := eq_mks htx hty
 have HT := Lib.hid ht
 clear ht
 obtain ⟨hkx, hix⟩ := hlx
 obtain ⟨hky, hiy⟩ := hly
 generalize hV : leafSame (ndAt nodes x) (ndAt nodes y) = V
 unfold leafSame at hV
 go_enter Tryz.func47, Tryz.ntmps47
 go_upto_region 1 with (fail)
 generalize w.alloc (.cells #[.slice (some ⟨g, o, none⟩) nodes.length c, .int .i64 root] 26) = W at *
 have hGW := HG.out.below hB1.out HG.out.2.1
 obtain ⟨K1, ck1, I1, ci1, a0, a1, a2, a3, a4, _⟩ := hGW.of_at hx
 obtain ⟨K2, ck2, I2, ci2, c0, c1, c2, c3, c4, _⟩ := hGW.of_at hy
 rw [hkx] at a3
 rw [hix] at a4
 rw [hky] at c3
 rw [hiy] at c4
 have HV := Lib.hid hV
 clear hV hkx hix hky hiy htx hty hGW
 generalize ndAt nodes x = A at *
 generalize ndAt nodes y = C at *
 obtain ⟨n, hn⟩ : ∃ n, nodes.length = n := ⟨_, rfl⟩
 obtain ⟨gb, hgb⟩ : ∃ b, w.heap.size = b := ⟨_, rfl⟩
 have hgbl := h1.out.lt
 rw [hgb] at h1 hgbl hB1 ⊢
 rw [hn] at h1 hx hy ⊢
 have HGB := Lib.hid hgb
 have g0 := h1.out.cell' (i := 0) rfl
 clear hn hgb
 have kx0 : (0 : Int) ≤ x := by omega
 have kx1 : (x : Int) < n := by omega
 have ky0 : (0 : Int) ≤ y := by omega
 have ky1 : (y : Int) < n := by omega
 have hgl : g < W.heap.size := by have := HG.out.1; have := HG.out.2.1; have := hB1.out.size; omega
 have hal : Below W.heap.size W (W.alloc (.cells #[.int .i64 0, .string ⟨#[]⟩, .bool false, .slice none 0 0, .slice none 0 0] 60)) := (Below.refl _ _).alloc (Nat.le_refl _) _
 have hal2 : Below W.heap.size W ((W.alloc (.cells #[.int .i64 0, .string ⟨#[]⟩, .bool false, .slice none 0 0, .slice none 0 0] 60)).alloc (.cells #[.int .i64 0, .string ⟨#[]⟩, .bool false, .slice none 0 0, .slice none 0 0] 60)) := hal.alloc (by simp) _
 have a01 := (hal.cell (by exact hgl)).trans a0
 have c01 := (hal.cell (by exact hgl)).trans c0
 have a02 := (hal2.cell (by exact hgl)).trans a0
 have c02 := (hal2.cell (by exact hgl)).trans c0
 have a11 := (hal.cell (by exact hgl)).trans a1
 have c11 := (hal.cell (by exact hgl)).trans c1
 have a12 := (hal2.cell (by exact hgl)).trans a1
 have c12 := (hal2.cell (by exact hgl)).trans c1
 have a21 := (hal.cell (by exact hgl)).trans a2
 have c21 := (hal.cell (by exact hgl)).trans c2
 have a22 := (hal2.cell (by exact hgl)).trans a2
 have c22 := (hal2.cell (by exact hgl)).trans c2
 have a31 := (hal.cell (by exact hgl)).trans a3
 have c31 := (hal.cell (by exact hgl)).trans c3
 have a32 := (hal2.cell (by exact hgl)).trans a3
 have c32 := (hal2.cell (by exact hgl)).trans c3
 have a41 := (hal.cell (by exact hgl)).trans a4
 have c41 := (hal.cell (by exact hgl)).trans c4
 have a42 := (hal2.cell (by exact hgl)).trans a4
 have c42 := (hal2.cell (by exact hgl)).trans c4
 have g01 := (hal.cell (by exact hgbl)).trans g0
 have g02 := (hal2.cell (by exact hgbl)).trans g0
 have n1 : g ≠ W.heap.size := by omega
 have n2 : g ≠ W.heap.size + 1 := by omega
 have n3 : gb ≠ W.heap.size := by omega
 have n4 : gb ≠ W.heap.size + 1 := by omega
 simp only [List.length_nil] at a3 a4 c3 c4 a31 a41 c31 c41 a32 a42 c32 c42
 go_cut [7, 8] (fun p q wx => ∃ b d : Nat, p = .pointer (some ⟨b, 0, none⟩) ∧ q = .pointer (some ⟨d, 0, none⟩) ∧ Hid (Arr wx b 60 [.int .i64 A.kind, .string (mks A.text), .bool A.ord, .slice K1 0 ck1, .slice I1 0 ci1]) ∧ Hid (Arr wx d 60 [.int .i64 C.kind, .string (mks C.text), .bool C.ord, .slice K2 0 ck2, .slice I2 0 ci2]) ∧ Below W.heap.size W wx)
 case first =>
  go_region
  ·obtain ⟨P, Q, R, _⟩ := box2 W 60 60 [.int .i64 A.kind, .string (mks A.text), .bool A.ord, .slice K1 0 ck1, .slice I1 0 ci1] [.int .i64 C.kind, .string (mks C.text), .bool C.ord, .slice K2 0 ck2, .slice I2 0 ci2]
   go_wp2_with (fail)
   go_meet
   exact ⟨_, _, rfl, rfl, P, Q, R.drew⟩
  ·obtain ⟨P, Q, R, _⟩ := box2 W 60 60 [.int .i64 C.kind, .string (mks C.text), .bool C.ord, .slice K2 0 ck2, .slice I2 0 ci2] [.int .i64 A.kind, .string (mks A.text), .bool A.ord, .slice K1 0 ck1, .slice I1 0 ci1]
   go_wp2_with (fail)
   go_meet
   exact ⟨_, _, rfl, rfl, Q, P, R.drew⟩
 case rest =>
  obtain ⟨b, d, rfl, rfl, hP, hQ, hR⟩ := hcut
  obtain ⟨W2, hW2⟩ : ∃ x, x = wc := ⟨_, rfl⟩
  subst hW2
  clear a0 a01 a02 a1 a11 a12 a2 a21 a22 a3 a31 a32 a4 a41 a42 c0 c01 c02 c1 c11 c12 c2 c21 c22 c3 c31 c32 c4 c41 c42 g0 g01 g02 n1 n2 n3 n4 hal hal2
  have hBf := Lib.hid (hB1.out.trans (hR.mono (by omega)))
  have s0 := hP.out.cell' (i := 0) rfl
  have r0 := hQ.out.cell' (i := 0) rfl
  have s1 := hP.out.cell' (i := 1) rfl
  have r1 := hQ.out.cell' (i := 1) rfl
  have s2 := hP.out.cell' (i := 2) rfl
  have r2 := hQ.out.cell' (i := 2) rfl
  have s3 := hP.out.cell' (i := 3) rfl
  have r3 := hQ.out.cell' (i := 3) rfl
  have s4 := hP.out.cell' (i := 4) rfl
  have r4 := hQ.out.cell' (i := 4) rfl
  have hVV := HV.out
  have hTT := HT.out
  clear HV HT
  by_cases ek : A.kind = C.kind
  ·rw [← ek] at r0 hVV
   by_cases et : A.text = C.text
   ·rw [← et] at r1 hVV
    clear ek et hTT
    cases eo : A.ord with
    | true =>
     cases eo' : C.ord with
     | true =>
      have hv : V = true := by rw [← hVV, eo, eo']; simp
      rw [eo] at s2
      rw [eo'] at r2
      subst hv
      clear hVV eo eo'
      generalize A.kind = kd at *
      by_cases e10 : kd = 10
      all_goals
       try subst e10
       go_wp2_with (fail)
       refine wp_loop_rounds 1 ?_
       rw [rounds_succ]
       go_wp2_with (fail)
       go_ret
       exact ⟨rfl, by rw [HGB.out]; exact hBf.out⟩
     | false =>
      have hv : V = false := by rw [← hVV, eo, eo']; simp
      rw [eo] at s2
      rw [eo'] at r2
      subst hv
      clear hVV eo eo'
      go_wp2_with (fail)
      go_ret
      exact ⟨rfl, by rw [HGB.out]; exact hBf.out⟩
    | false =>
     cases eo' : C.ord with
     | true =>
      have hv : V = false := by rw [← hVV, eo, eo']; simp
      rw [eo] at s2
      rw [eo'] at r2
      subst hv
      clear hVV eo eo'
      go_wp2_with (fail)
      go_ret
      exact ⟨rfl, by rw [HGB.out]; exact hBf.out⟩
     | false =>
      have hv : V = true := by rw [← hVV, eo, eo']; simp
      rw [eo] at s2
      rw [eo'] at r2
      subst hv
      clear hVV eo eo'
      generalize A.kind = kd at *
      by_cases e10 : kd = 10
      all_goals
       try subst e10
       go_wp2_with (fail)
       refine wp_loop_rounds 1 ?_
       rw [rounds_succ]
       go_wp2_with (fail)
       go_ret
       exact ⟨rfl, by rw [HGB.out]; exact hBf.out⟩
   ·have hv : V = false := by rw [← hVV]; simp [et]
    subst hv
    rw [decide_eq_false et] at hTT
    have k1 : ¬ (mks A.text).toList = (mks C.text).toList := by simpa using hTT
    clear hVV ek et
    go_wp2_with (fail)
    go_ret
    exact ⟨rfl, by rw [HGB.out]; exact hBf.out⟩
  ·have hv : V = false := by rw [← hVV]; simp [ek]
   subst hv
   clear hVV hTT
   go_wp2_with (fail)
   go_ret
   exact ⟨rfl, by rw [HGB.out]; exact hBf.out⟩
end Go.Proofs.YtbhigefbihpnlaaGreatDoor
namespace Go.Proofs.YtbhigefbihpnlaaGreatDoor
open Go.RowKit
open Go.WideMaps (KeyLaw)
def stepFields (P : Program) (t : TypeId) : Array Field := match P.underlying t with | some (.struct fs) => fs | _ => #[]
theorem under_step : Tryz.prog.underlying 120 = some (.struct (stepFields Tryz.prog 120)) := by kernel_rfl
theorem step_fields : (stepFields Tryz.prog 120).toList.map (fun f => (f.name != "_", f.type, f.offset)) = [(true, 3, 0), (true, 9, 1)] := by kernel_rfl
theorem step_law : KeyLaw Tryz.prog 120 :=
 deep_law_laid (m := 3) (by kernel_rfl) (by omega) (of_decide_eq_true (by kernel_rfl)) (by kernel_rfl) (by rw [under_step])
theorem keyOf_two {P : Program} {k i j : TypeId} {fs : Array Field} (hu : P.underlying k = some (.struct fs)) (h0 : fs.toList.map (fun f => (f.name != "_", f.type, f.offset)) = [(true, i, 0), (true, j, 1)])
  (hc : P.cellsOf k = 2) (hci : P.cellsOf i = 1) (hcj : P.cellsOf j = 1) (ui : P.underlying i = some (.int .i64)) (uj : P.underlying j = some .string) (hkt : P.keyType k = true) (hs1 : 1 ≤ P.types.size)
  (a : Int) (s : ByteArray) (ha : (Lit.int .i64 a).wf = true) (hs : s.size ≤ maxLen) : ∃ kl, keyOf P k (.agg #[.int .i64 a, .string s]) = some kl := by
 obtain ⟨m, hm⟩ : ∃ m, P.types.size + 1 = m + 2 := ⟨P.types.size - 1, by omega⟩
 obtain ⟨l⟩ := fs
 have hl2 : l.length = 2 := by have := congrArg List.length h0; simpa using this
 obtain ⟨f, g, rfl⟩ := (show ∃ f g, l = [f, g] from match l, hl2 with | [f, g], _ => ⟨f, g, rfl⟩)
 ·simp only [List.map_cons, List.map_nil, List.cons.injEq, Prod.mk.injEq, and_true] at h0
  obtain ⟨⟨f1, f2, f3⟩, g1, g2, g3⟩ := h0
  unfold keyOf
  rw [hu, hkt, hm]
  simp only [Value.formed, hu, Value.cells]
  simp [Program.keyLits, hu, hc, f1, f2, f3, g1, g2, g3, hci, hcj, ui, uj, ha, hs]
theorem step_key (a : Int) (s : ByteArray) (ha : (Lit.int .i64 a).wf = true) (hs : s.size ≤ maxLen) : ∃ kl, keyOf Tryz.prog 120 (.agg #[.int .i64 a, .string s]) = some kl :=
 keyOf_two under_step step_fields (by kernel_rfl) (by kernel_rfl) (by kernel_rfl) (by kernel_rfl) (by kernel_rfl) (by kernel_rfl) (of_decide_eq_true (by kernel_rfl)) a s ha hs
theorem groups_lt {H : Type} {P : Program} {w : World} {k : TypeId} {base : Nat} {e : TypeId} {q : IntKind} {b n : Nat} {D : DataW H} (h : w.ownsGroups P k base e q b n D) : b < w.heap.size := by
 obtain ⟨es, clock, hb, _⟩ := h
 exact (Array.getElem?_eq_some_iff.1 hb).1
theorem zero_ints (u : World) : (zeroValue 44).run Tryz.prog u = .ok (.slice none 0 0) u := by kernel_rfl
end Go.Proofs.YtbhigefbihpnlaaGreatDoor
namespace Go.Proofs.YtbhigefbihpnlaaGreatDoor
open Go.RowKit Go.Maps
theorem twice_drop {nodes : List GNode} {i : Nat} (h : i < nodes.length) : (nodes.drop i).any (fun nd => dupF nodes [] nd.keys) = (dupF nodes [] (ndAt nodes i).keys || (nodes.drop (i + 1)).any fun nd => dupF nodes [] nd.keys) := by
 rw [List.drop_eq_getElem_cons h, List.any_cons]
 have e : nodes[i] = ndAt nodes i := by have := ndAt_get h; rw [List.getElem?_eq_getElem h] at this; exact Option.some.inj this
 rw [e]
def stepV (nd : GNode) : Value := .agg #[.int .i64 nd.kind, .string (mks nd.text)]
structure TwOK (nodes : List GNode) : Prop where
 leaf : ∀ i, i < nodes.length → ∀ x ∈ (ndAt nodes i).keys, Leaf (ndAt nodes x.toNat)
 by_ : ∀ i, i < nodes.length → By (ndAt nodes i).text
 wf : ∀ i, i < nodes.length → (Lit.int .i64 (ndAt nodes i).kind).wf = true
 len : ∀ i, i < nodes.length → (mks (ndAt nodes i).text).size ≤ maxLen
noncomputable def klOf (nodes : List GNode) (x : Int) : Lit := (keyOf Tryz.prog 120 (stepV (ndAt nodes x.toNat))).getD (.bool false)
theorem klOf_eq {nodes : List GNode} (h : TwOK nodes) {x : Int} (hx : x.toNat < nodes.length) : keyOf Tryz.prog 120 (stepV (ndAt nodes x.toNat)) = some (klOf nodes x) := by
 obtain ⟨kl, hk⟩ := step_key _ (mks (ndAt nodes x.toNat).text) (h.wf _ hx) (h.len _ hx)
 unfold klOf stepV
 rw [hk]; rfl
theorem klOf_same {nodes : List GNode} {x y : Int} (hs : leafSame (ndAt nodes x.toNat) (ndAt nodes y.toNat) = true) : klOf nodes y = klOf nodes x := by
 unfold leafSame at hs
 simp only [Bool.and_eq_true, decide_eq_true_eq] at hs
 unfold klOf stepV
 rw [hs.1.1, hs.1.2]
theorem dupF_at {nodes : List GNode} {ks : List Int} {j : Nat} {x : Int} (h : ks[j]? = some x) : dupF nodes (ks.take j) (ks.drop j) = ((ks.take j).any (fun q => leafSame (ndAt nodes x.toNat) (ndAt nodes q.toNat)) || dupF nodes (ks.take (j + 1)) (ks.drop (j + 1))) := by
 rw [drop_cons_at h, dupF, List.take_add_one, h]
 rfl
theorem under_groups : Tryz.prog.underlying 118 = some (.map 120 44) := by kernel_rfl
set_option maxRecDepth 20000 in
set_option maxHeartbeats 8000000 in
theorem twice_any {B g o c : Nat} {nodes : List GNode} {root : Int} (hI : Idx nodes) (hL : NL 65536 nodes) (hN : nodes.length ≤ 65536) (hT : TwOK nodes) (w : World) (hG : GRd w B g o nodes) :
  Calls Tryz.prog 30 #[.agg #[.slice (some ⟨g, o, none⟩) nodes.length c, .int .i64 root]] w fun e w' => e = .returned (.bool (twiceV nodes)) ∧ Below w.heap.size w w' := by
 have h1 : Hid (Arr (w.alloc (.cells #[.slice (some ⟨g, o, none⟩) nodes.length c, .int .i64 root] 26)) w.heap.size 26 [.slice (some ⟨g, o, none⟩) nodes.length c, .int .i64 root]) := Arr.new w 26 [.slice (some ⟨g, o, none⟩) nodes.length c, .int .i64 root]
 have hB1 : Hid (Below w.heap.size w (w.alloc (.cells #[.slice (some ⟨g, o, none⟩) nodes.length c, .int .i64 root] 26))) := (Below.refl _ _).alloc (Nat.le_refl _) _
 have HG := Lib.hid hG
 have hI' := Lib.hid hI
 have hT' := Lib.hid hT
 have hmm := @run_makeMap Tryz.prog
 clear hG hT
 go_enter Tryz.func30, Tryz.ntmps30
 go_upto_region 1 with (fail)
 generalize w.alloc (.cells #[.slice (some ⟨g, o, none⟩) nodes.length c, .int .i64 root] 26) = W at *
 obtain ⟨n, hn⟩ : ∃ n, nodes.length = n := ⟨_, rfl⟩
 obtain ⟨gb, hgb⟩ : ∃ b, w.heap.size = b := ⟨_, rfl⟩
 have hgbl := h1.out.lt
 rw [hgb] at h1 hgbl hB1 ⊢
 rw [hn] at h1 hN ⊢
 have x0 := h1.out.cell' (i := 0) rfl
 have HN := Lib.hid hn
 have HGB := Lib.hid hgb
 obtain ⟨V, hVe⟩ : ∃ V, twiceV nodes = V := ⟨_, rfl⟩
 have hV0 : Hid ((nodes.drop 0).any (fun nd => dupF nodes [] nd.keys) = V) := hVe
 have HVE := Lib.hid hVe
 clear hn hgb hVe
 go_upto_region 2 with (fail)
 clear x0
 go_loopw [14] (fun v wr => ∃ i : Nat, i ≤ n ∧ v = .int .i64 (i : Int) ∧ Hid ((nodes.drop i).any (fun nd => dupF nodes [] nd.keys) = V) ∧ Hid (Below gb w wr) ∧ Below W.heap.size W wr) (fun v _ => n - (intOf v).toNat)
 case atStart => exact ⟨0, Nat.zero_le _, rfl, hV0, hB1, Below.refl _ _⟩
 case round =>
  obtain ⟨i, hi, rfl, hv, hBr, hgr⟩ := hrel
  by_cases hin : i = n
  ·have hin' : ¬ (i : Int) < n := by omega
   have he : V = false := by
    have := hv.out
    rw [List.drop_of_length_le (by have := HN.out; omega)] at this
    exact this.symm
   subst he
   go_wp2_with (fail)
   go_ret
   exact ⟨by rw [HVE.out]; rfl, by rw [HGB.out]; exact hBr.out⟩
  ·have hin' : (i : Int) < n := by omega
   have hi2 : i < nodes.length := by have := HN.out; omega
   have hGr := (HG.out.below hBr.out (by have := HG.out.2.1; have := HGB.out; omega)).of_at hi2
   obtain ⟨K, ck, I, ci, c0, c1, c2, c3, c4, ⟨hK, hKb⟩, _⟩ := hGr
   have k0 : (0 : Int) ≤ i := by omega
   have hND : Hid (Arr (wr.alloc (.cells #[.int .i64 (ndAt nodes i).kind, .string (mks (ndAt nodes i).text), .bool (ndAt nodes i).ord, .slice K (ndAt nodes i).keys.length ck, .slice I (ndAt nodes i).items.length ci] 60)) wr.heap.size 60 [.int .i64 (ndAt nodes i).kind, .string (mks (ndAt nodes i).text), .bool (ndAt nodes i).ord, .slice K (ndAt nodes i).keys.length ck, .slice I (ndAt nodes i).items.length ci]) := Arr.new wr _ _
   have hbn : Hid (Below wr.heap.size wr (wr.alloc (.cells #[.int .i64 (ndAt nodes i).kind, .string (mks (ndAt nodes i).text), .bool (ndAt nodes i).ord, .slice K (ndAt nodes i).keys.length ck, .slice I (ndAt nodes i).items.length ci] 60))) := (Below.refl _ _).alloc (Nat.le_refl _) _
   have HK := Lib.hid hK
   have HKB := Lib.hid hKb
   clear hK hKb
   go_upto_region 4 with (fail)
   clear c0 c1 c2 c3 c4
   generalize (wr.alloc (.cells #[.int .i64 (ndAt nodes i).kind, .string (mks (ndAt nodes i).text), .bool (ndAt nodes i).ord, .slice K (ndAt nodes i).keys.length ck, .slice I (ndAt nodes i).items.length ci] 60)) = w5 at *
   have hB5 : Hid (Below gb w w5) := hBr.out.trans (hbn.out.mono (by have := hBr.out.size; have := HGB.out; omega))
   have hW5 : Hid (Below W.heap.size W w5) := hgr.trans (hbn.out.mono hgr.size)
   have hK5 := Lib.hid (HK.out.keep hbn.out)
   obtain ⟨nb, hnb⟩ : ∃ b, wr.heap.size = b := ⟨_, rfl⟩
   rw [hnb] at hND ⊢
   obtain ⟨hLk, _⟩ := hL i hi2
   have hrf := Lib.hid (hI'.out i hi2)
   have hlf := Lib.hid (hT'.out.leaf i hi2)
   rw [twice_drop hi2] at hv
   generalize ndAt nodes i = nd at *
   have n3 := hND.out.cell' (i := 3) rfl
   go_upto_region 5 with (fail)
   clear n3
   obtain ⟨mb, hmb⟩ : ∃ b, w5.heap.size = b := ⟨_, rfl⟩
   have hM0 : Hid (∃ D : DataW Unit, (w5.alloc (.map #[] 0)).ownsGroups Tryz.prog 120 (mb + 1) 3 .i64 mb 0 D ∧ GrpR D (klOf nodes) (nd.keys.take 0)) := by
    rw [← hmb]
    exact ⟨_, World.ownsGroups_made _ _ _ _ _, GrpR.nil _⟩
   have hb6 : Hid (Below w5.heap.size w5 (w5.alloc (.map #[] 0))) := (Below.refl _ _).alloc (Nat.le_refl _) _
   have hv0 : Hid ((dupF nodes (nd.keys.take 0) (nd.keys.drop 0) || (nodes.drop (i + 1)).any fun nd => dupF nodes [] nd.keys) = V) := hv
   obtain ⟨R, hR⟩ : ∃ R, (nodes.drop (i + 1)).any (fun nd => dupF nodes [] nd.keys) = R := ⟨_, rfl⟩
   rw [hR] at hv0
   have HR := Lib.hid hR
   clear hR
   generalize w5.alloc (.map #[] 0) = w6 at *
   have n3 := (hND.out.keep hb6.out).cell' (i := 3) rfl
   rw [hmb] at hb6 ⊢
   have HMB := Lib.hid hmb
   clear hmb hv hbn hBr hgr HK
   go_upto_region 6 with (fail)
   clear n3
   go_loopw [22] (fun v ws => ∃ j : Nat, j ≤ nd.keys.length ∧ v = .int .i64 (j : Int) ∧ Hid (∃ D : DataW Unit, ws.ownsGroups Tryz.prog 120 (mb + 1) 3 .i64 mb j D ∧ GrpR D (klOf nodes) (nd.keys.take j)) ∧ Hid ((dupF nodes (nd.keys.take j) (nd.keys.drop j) || R) = V) ∧ Below mb w5 ws) (fun v _ => nd.keys.length - (intOf v).toNat)
   case atStart => exact ⟨0, Nat.zero_le _, rfl, hM0, hv0, hb6.out⟩
   case round =>
    obtain ⟨j, hj, rfl, hM, hv1, hg6⟩ := hrel
    have hBw := Lib.hid (hB5.out.trans (hg6.mono (by have := hB5.out.size; have := HGB.out; have := HMB.out; omega)))
    have hWw := Lib.hid (hW5.out.trans (hg6.mono (by have := hW5.out.size; have := HMB.out; omega)))
    by_cases hjn : j = nd.keys.length
    ·have hj' : ¬ (j : Int) < nd.keys.length := by omega
     have hv2 : Hid ((nodes.drop (i + 1)).any (fun nd => dupF nodes [] nd.keys) = V) := by
      have := hv1.out
      rw [← HR.out] at this
      rw [List.drop_of_length_le (by omega)] at this
      exact this
     go_wp2_with (fail)
     go_roundw
     case rel => exact ⟨i + 1, by omega, i64e (by omega), hv2, hBw, hWw.out⟩
     case measure => simp [intOf]; omega
    ·have hj' : (j : Int) < nd.keys.length := by omega
     have hj0 : (0 : Int) ≤ j := by omega
     obtain ⟨x, hx⟩ : ∃ x, nd.keys[j]? = some x := ⟨_, List.getElem?_eq_getElem (by omega)⟩
     obtain ⟨ad, rfl, hc⟩ := (hK5.out.keep (by rw [HMB.out]; exact hg6)).at_ (I64_get hx)
     have hxm := List.mem_of_getElem? hx
     have hxr := hrf.out x (by unfold refs; exact List.mem_append.2 (.inl hxm))
     obtain ⟨kx, rfl⟩ : ∃ kx : Nat, x = (kx : Int) := ⟨x.toNat, by omega⟩
     have hkx : kx < nodes.length := by omega
     have q0 : (0 : Int) ≤ kx := by omega
     have q1 : (kx : Int) < n := by have := HN.out; omega
     have hGs := Lib.hid (HG.out.below hBw.out (by have := HG.out.2.1; have := HGB.out; omega))
     obtain ⟨Kk, ckk, Ik, cik, d0, d1, _⟩ := hGs.out.of_at hkx
     have g0 := (h1.out.keep hWw.out).cell' (i := 0) rfl
     have hal : Below wr.heap.size wr (wr.alloc (.cells #[.int .i64 0, .string ⟨#[]⟩] 120)) := (Below.refl _ _).alloc (Nat.le_refl _) _
     have g01 := (hal.cell (block_lt_of_cell g0)).trans g0
     have d01 := (hal.cell (block_lt_of_cell d0)).trans d0
     have d11 := (hal.cell (block_lt_of_cell d1)).trans d1
     have n1 : g ≠ wr.heap.size := by have := block_lt_of_cell d0; simp only at this; omega
     have n2 : gb ≠ wr.heap.size := by have := block_lt_of_cell g0; simp only at this; omega
     go_upto_region 8 with (fail)
     clear hc
     go_region
     have hS : Hid (Arr (wr.alloc (.cells #[.int .i64 (ndAt nodes kx).kind, .string (mks (ndAt nodes kx).text)] 120)).drew wr.heap.size 120 [.int .i64 (ndAt nodes kx).kind, .string (mks (ndAt nodes kx).text)]) := Arr.new wr _ _
     have hb7 : Hid (Below wr.heap.size wr (wr.alloc (.cells #[.int .i64 (ndAt nodes kx).kind, .string (mks (ndAt nodes kx).text)] 120)).drew) := ((Below.refl _ _).alloc (Nat.le_refl _) _).drew
     clear g0 g01 d0 d01 d1 d11 n1 n2 hal
     generalize (wr.alloc (.cells #[.int .i64 (ndAt nodes kx).kind, .string (mks (ndAt nodes kx).text)] 120)).drew = w7 at *
     obtain ⟨D, hown, hgrp⟩ := hM.out
     have hown7 := hown.kept (row := none) ⟨hb7.out.os, hb7.out.tape, hb7.out.output, hb7.out.size, fun j hj _ => hb7.out.block j hj⟩ (by simp) (fun es clock _ x _ => by cases x.val.ownBlock <;> simp)
     have hkey := klOf_eq (nodes := nodes) hT'.out (x := (kx : Int)) hkx
     obtain ⟨sb, hsb⟩ : ∃ b, wr.heap.size = b := ⟨_, rfl⟩
     rw [hsb] at hS ⊢
     have s0 := hS.out.cell' (i := 0) rfl
     have s1 := hS.out.cell' (i := 1) rfl
     have hjm : j < maxLen := by unfold maxLen; omega
     go_upto_region 10 with (at_lookup; go_loud (refine wpList_lookup_groups _ rfl _ _ 118 rfl 120 44 3 .i64 (Keyed.of_law step_law) under_groups (zero_ints _) (mb + 1) mb j _ rfl hown7 hjm _ _ rfl hkey ?_; intro v zs hat hoi hzl hback; obtain ⟨A, cv, rfl, hAr, hAb⟩ := ints_shape hoi))
     have hzs : Hid (∀ q ∈ zs, q ∈ nd.keys.take j ∧ klOf nodes q = klOf nodes kx) := by
      have h2 := hgrp.2 (kx : Int)
      rw [hat, itsOf_row hoi] at h2
      intro q hq
      rw [h2] at hq
      have := List.mem_filter.1 hq
      exact ⟨this.1, by simpa using this.2⟩
     have hany : Hid (zs.any (fun q => leafSame (ndAt nodes kx) (ndAt nodes q.toNat)) = (nd.keys.take j).any fun q => leafSame (ndAt nodes kx) (ndAt nodes q.toNat)) := by
      have h2 := hgrp.2 (kx : Int)
      rw [hat, itsOf_row hoi] at h2
      show _ = _
      rw [h2]
      exact dup_group (k := (kx : Int)) fun q _ hs => klOf_same (x := (kx : Int)) hs
     have hv3 : Hid (((zs.drop 0).any (fun q => leafSame (ndAt nodes kx) (ndAt nodes q.toNat)) || (dupF nodes (nd.keys.take (j + 1)) (nd.keys.drop (j + 1)) || R)) = V) := by
      have := hv1.out
      rw [dupF_at hx, Bool.or_assoc] at this
      show _ = _
      rw [List.drop_zero, hany.out]
      exact this
     clear s0 s1 hjm
     go_loopw [43] (fun v ws => ∃ t : Nat, t ≤ zs.length ∧ v = .int .i64 (t : Int) ∧ Hid (((zs.drop t).any (fun q => leafSame (ndAt nodes kx) (ndAt nodes q.toNat)) || (dupF nodes (nd.keys.take (j + 1)) (nd.keys.drop (j + 1)) || R)) = V) ∧ Below w7.heap.size w7 ws) (fun v _ => zs.length - (intOf v).toNat)
     case atStart => exact ⟨0, Nat.zero_le _, rfl, hv3, Below.refl _ _⟩
     case round =>
      obtain ⟨t, ht, rfl, hv4, hg8⟩ := hrel
      have hB8 := Lib.hid (hBw.out.trans ((hb7.out.trans (hg8.mono hb7.out.size)).mono (by have := hBw.out.size; have := HGB.out; omega)))
      by_cases htn : t = zs.length
      ·have ht' : ¬ (t : Int) < zs.length := by omega
       have hT2 : Hid ((dupF nodes (nd.keys.take (j + 1)) (nd.keys.drop (j + 1)) || R) = V) := by
        have := hv4.out
        rw [htn, List.drop_of_length_le (Nat.le_refl _)] at this
        exact this
       have hmb6 : mb ≤ w6.heap.size := by have := hb6.out.size; have := HMB.out; omega
       have HB6 := Lib.hid (hg6.trans ((hb7.out.trans (hg8.mono hb7.out.size)).mono (by have := hg6.size; have := HMB.out; omega)))
       have hS8 := hS.out.keep hg8
       have hsbl := hS8.lt
       have hmbs : mb < wr.heap.size := by have := groups_lt hown7; have := hg8.size; omega
       have s0 := hS8.cell' (i := 0) rfl
       have s1 := hS8.cell' (i := 1) rfl
       have hjm : j < maxLen := by unfold maxLen; omega
       have hgr0 : wr.grownBy (wr.alloc (.cells #[.int .i64 (kx : Int)] 3)) none := World.grownBy_alloc _ _ _
       have hownA := ((hown7.kept (row := none) ⟨hg8.os, hg8.tape, hg8.output, hg8.size, fun j hj _ => hg8.block j hj⟩ (by simp) (fun es clock _ x _ => by cases x.val.ownBlock <;> simp)).kept (row := none) hgr0 (by simp) (fun es clock _ x _ => by cases x.val.ownBlock <;> simp))
       have hcA := cell_one_new wr (.int .i64 (kx : Int)) 3
       have hsA : (wr.alloc (.cells #[.int .i64 (kx : Int)] 3)).heap.size = wr.heap.size + 1 := by simp
       have HSA := Lib.hid hsA
       obtain ⟨i0, hi0, hz0, hz1, hz2⟩ := info_parts Tryz.info3
       clear hsA hM0 hM hown hown7
       go_upto_region 16 with (first
        | ((with_reducible show wpList _ _ _ (Oper.mk _ (Op.mapEntry _ _ _) _ _ _ _ :: _) _ _); go_loud (refine wpList_mapEntry_groups _ rfl _ _ 118 rfl 120 44 3 .i64 step_law under_groups zero_ints (mb + 1) mb j D rfl hownA hjm _ _ rfl hkey ?_; intro ve ze stamp wA hatE hoiE hzlE hgrE hszE hbackE))
        | (at_builtin; go_loud (refine wpList_append_own_at _ rfl _ _ 44 rfl (mb + 1) 3 i0 (.int .i64 0) 1 8 Tryz.underlying44 hi0 hz0 hz1 hz2 rfl (by decide) _ _ _ rfl hoiE.1 ⟨wr.heap.size, 0, none⟩ 1 1 [.int .i64 (kx : Int)] rfl rfl (fun jj u hu => hgrE.cell (hcA jj u hu) (fun e => absurd (Option.some.inj e) (by rw [blk_add]; show wr.heap.size ≠ mb; omega))) (ints_oneCell .i64 [(kx : Int)]) (by unfold maxLen; omega) (by omega) (by have := HSA.out; omega) ?_; intro v' w1 hown' hgrow hnil hloc))
        | ((with_reducible show wpList _ _ _ (Oper.mk none (Op.entryStore _ _ _ _) _ _ _ _ :: _) _ _); go_loud (refine wpList_entryStore_back _ rfl _ _ _ 118 rfl hbackE rfl rfl rfl hgrow (hoiE.appended hown' (WalkArith.wf_i64 (by omega))) (by simp; omega) (hloc.imp id (fun h => ⟨_, h, by omega⟩)) ?_; intro w2 hown2 hgrow2)))
       have hb16 : Below mb w5 w2 := below_row (((HB6.out.alloc (Nat.le_of_lt hmbs) _).trans ⟨hgrE.os, hgrE.tape, hgrE.output, hgrE.size, fun j hj => hgrE.block j (by have := HSA.out; omega) (by intro e; have := Option.some.inj e; omega)⟩).grown hgrow (by have := HSA.out; omega) (fun k e => by have := (hoiE.1.lt k e).1; omega)) hgrow2 (by have := hgrow.size; have := HSA.out; omega) (Nat.le_refl _)
       have hM2 : Hid (∃ D : DataW Unit, w2.ownsGroups Tryz.prog 120 (mb + 1) 3 .i64 mb (j + 1) D ∧ GrpR D (klOf nodes) (nd.keys.take (j + 1))) := by
        refine ⟨_, hown2, ?_⟩
        rw [List.take_add_one, hx]
        exact hgrp.put ((Keyed.of_law step_law).key hkey) (hoiE.appended hown' (WalkArith.wf_i64 (by omega))) (by have h2 := hgrp.2 (kx : Int); rw [hatE, itsOf_row hoiE] at h2; rw [h2])
       go_wp2_with (fail)
       go_roundw
       case rel => exact ⟨j + 1, by omega, i64e (by omega), hM2, hT2, hb16⟩
       case measure => simp [intOf]; omega
      ·have ht' : (t : Int) < zs.length := by omega
       have ht0 : (0 : Int) ≤ t := by omega
       obtain ⟨q, hq⟩ : ∃ q, zs[t]? = some q := ⟨_, List.getElem?_eq_getElem (by omega)⟩
       obtain ⟨a2, rfl, hc2⟩ := (Rd.keep hAr hg8).at_ (u := .int .i64 q) (k := t) (by rw [List.getElem?_map, hq]; rfl)
       obtain ⟨hqj, _⟩ := hzs.out q (List.mem_of_getElem? hq)
       have hqm := List.mem_of_mem_take hqj
       have hqr := hrf.out q (by unfold refs; exact List.mem_append.2 (.inl hqm))
       obtain ⟨qx, rfl⟩ : ∃ qx : Nat, q = (qx : Int) := ⟨q.toNat, by omega⟩
       have hG8 := HG.out.below hB8.out (by have := HG.out.2.1; have := HGB.out; omega)
       have D := same_leaf (c := c) (root := root) kx qx hkx (by omega) (hlf.out _ hxm) (hlf.out _ hqm) (hT'.out.by_ _ hkx) (hT'.out.by_ _ (by omega)) wr hG8
       rw [HN.out] at D
       have D' := Lib.hid D
       have hX8 := (h1.out.keep hWw.out).below (hb7.out.trans (hg8.mono hb7.out.size)) (by have := (h1.out.keep hWw.out).lt; exact this)
       have y0 := hX8.cell' (i := 0) rfl
       have y1 := hX8.cell' (i := 1) rfl
       have hv5 : Hid ((leafSame (ndAt nodes kx) (ndAt nodes qx) || ((zs.drop (t + 1)).any (fun q => leafSame (ndAt nodes kx) (ndAt nodes q.toNat)) || (dupF nodes (nd.keys.take (j + 1)) (nd.keys.drop (j + 1)) || R))) = V) := by
        have h := hv4.out
        have hz : zs[t]'(by omega) = (qx : Int) := by have := hq; rw [List.getElem?_eq_getElem (by omega)] at this; exact Option.some.inj this
        rw [List.drop_eq_getElem_cons (by omega), List.any_cons, hz, Int.toNat_natCast, Bool.or_assoc] at h
        exact h
       clear D hG8 hv4 hq
       generalize leafSame (ndAt nodes kx) (ndAt nodes qx) = ls at *
       cases ls with
       | true =>
        have hV : V = true := by have := hv5.out; simpa using this.symm
        subst hV
        go_wp2_with (go_at_call 47; ((with_reducible refine D'.out.mono ?_)); rintro e w9 ⟨rfl, hb9⟩)
        go_ret
        exact ⟨by rw [HVE.out]; rfl, by rw [HGB.out]; exact hB8.out.trans (hb9.mono (by have := hB8.out.size; have := HGB.out; have := hg8.size; omega))⟩
       | false =>
        have hv6 : Hid (((zs.drop (t + 1)).any (fun q => leafSame (ndAt nodes kx) (ndAt nodes q.toNat)) || (dupF nodes (nd.keys.take (j + 1)) (nd.keys.drop (j + 1)) || R)) = V) := hv5.out
        go_wp2_with (go_at_call 47; ((with_reducible refine D'.out.mono ?_)); rintro e w9 ⟨rfl, hb9⟩)
        go_roundw
        case rel => exact ⟨t + 1, by omega, i64e (by omega), hv6, hg8.trans (hb9.mono hg8.size)⟩
        case measure => simp [intOf]; omega
end Go.Proofs.YtbhigefbihpnlaaGreatDoor
