/- canon.of and canon.normal, for any graph; the block of zero nodes. -/
import Derived.Test.YtbhigefbihpnlaaGreatDoorMBr
import Derived.Test.YtbhigefbihpnlaaGreatDoorMBo
import Derived.Test.YtbhigefbihpnlaaGreatDoorMBj
import Derived.Laws.ResultCell
import Derived.Laws.Rows
import Derived.Test.YtbhigefbihpnlaaGreatDoorMAs
import Derived.Test.YtbhigefbihpnlaaGreatDoorMBn
import Derived.Test.YtbhigefbihpnlaaGreatDoorMBk
set_option linter.unusedVariables false
set_option linter.unusedSimpArgs false
set_option linter.defProp false
set_option linter.constructorNameAsVariable false
namespace Go.Proofs.YtbhigefbihpnlaaGreatDoor
open Go.RowKit
theorem infoSlI : (Tryz.prog.info? 44).map (fun i => (i.zero, i.size, i.bytes)) = some (some (.slice none 0 0), 1, 24) := by kernel_rfl
section
variable {P : Program} {w : World} {ops : Array Oper} {rest : List Oper} {o : Oper} {a : Act} {Q : Exit → Act → World → Prop}
theorem wpList_mkZ (hg : o.guard = none) (l c : Operand) (t : TypeId) (hop : o.op = .makeSlice t l c) (e : TypeId) (z : Value) (k bytes : Nat) (h1 : P.underlying t = some (.slice e))
  (h2 : (P.info? e).map (fun i => (i.zero, i.size, i.bytes)) = some (some z, k, bytes)) (kl kc : IntKind) (L C : Int) (hl : a.eval l = .int kl L) (hc : a.eval c = .int kc C)
  (n m : Nat) (hL : L = n) (hC : C = m) (hnm : n ≤ m) (hb : bytes * m ≤ 281474976710656) (hm : m ≤ maxLen)
  (hK : ∀ g w', Hid (g = w.heap.size) → Hid (Arr w' g e (madeCells z.cells (m * k)).toList) → Below w.heap.size w w' → Hid (w'.heap.size = g + 1) →
   wpList P ops Q rest (a.put o.dst (.slice (some ⟨g, 0, none⟩) n m)) w') : wpList P ops Q (o :: rest) a w := by
 obtain ⟨i, hi, hz1, hz2, hz3⟩ := info_parts h2
 refine wpList_plain hg fun K hK' => ?_
 subst hL; subst hC
 have hb' : (i.bytes : Int) * (m : Int) ≤ 281474976710656 := by
  have h : ((i.bytes * m : Nat) : Int) ≤ 281474976710656 := by subst hz3; omega
  rwa [Int.natCast_mul] at h
 have hm' : (m : Int) ≤ 9223372036854775807 := by simp [maxLen] at hm; omega
 have hrun := run_make (P := P) w t e i z h1 hi hz1 kl kc n m (by omega) (by omega) hb' hm'
 simp only [Int.toNat_natCast, hz2] at hrun
 unfold Oper.wp
 simp [execOp, hop, hl, hc, hrun, Result.andThen]
 have hA : Hid (Arr (w.alloc (.cells (madeCells z.cells (m * k)) e)) w.heap.size e (madeCells z.cells (m * k)).toList) := heap_alloc_new w _
 refine hK' _ _ (hK w.heap.size _ rfl hA ((Below.refl _ _).alloc (Nat.le_refl _) _) ?_)
 show _ = _
 simp
end
theorem take_five {l : List Value} {p : Nat} {a b c d e : Value} (h0 : l[p]? = some a) (h1 : l[p + 1]? = some b) (h2 : l[p + 2]? = some c) (h3 : l[p + 3]? = some d) (h4 : l[p + 4]? = some e) : (l.drop p).take 5 = [a, b, c, d, e] := by
 apply List.ext_getElem?
 intro i
 rw [List.getElem?_take]
 split
 ·rw [List.getElem?_drop]
  match i with
  | 0 => simpa using h0
  | 1 => simpa using h1
  | 2 => simpa using h2
  | 3 => simpa using h3
  | 4 => simpa using h4
 ·rw [List.getElem?_eq_none (by simp; omega)]
def zNd : Value := .agg #[.int .i64 0, .string ⟨#[]⟩, .bool false, .slice none 0 0, .slice none 0 0]
theorem made_get {n i j : Nat} (hi : i < n) (hj : j < 5) : (madeCells zNd.cells (n * 5)).toList[i * 5 + j]? = some (zNd.cells[j]!) := by
 have hs : zNd.cells.size = 5 := by kernel_rfl
 unfold madeCells
 rw [hs]
 simp [List.getElem?_eq_getElem, show i * 5 + j < n * 5 by omega, show (i * 5 + j) % 5 = j by omega]
theorem NodesRd.zero (w : World) (F : Nat → Prop) (n : Nat) : NodesRd w F (madeCells zNd.cells (n * 5)).toList (List.replicate n nd0) := by
 refine ⟨by simp [madeCells], fun i nd hi => ?_⟩
 have hin : i < n := by have := (List.getElem?_eq_some_iff.1 hi).1; simpa using this
 have hnd : nd = nd0 := by
  obtain ⟨h, e⟩ := List.getElem?_eq_some_iff.1 hi
  rw [← e]; simp
 subst hnd
 have hc := take_five (l := (madeCells zNd.cells (n * 5)).toList) (p := i * 5) (made_get (j := 0) hin (by omega)) (made_get (j := 1) hin (by omega)) (made_get (j := 2) hin (by omega)) (made_get (j := 3) hin (by omega)) (made_get (j := 4) hin (by omega))
 rw [hc]
 refine ⟨none, 0, 0, none, 0, 0, rfl, ⟨rfl, fun j u hj => by simp [I64, nd0] at hj, fun ad e => nomatch e⟩, ⟨rfl, fun j u hj => by simp [I64, nd0] at hj, fun ad e => nomatch e⟩⟩
theorem grd_arr {w : World} {g : Nat} {F : Nat → Prop} {nodes : List GNode} {ncs : List Value} (hN : Arr w g 60 ncs) (hNr : NodesRd w F ncs nodes) : GRd w w.heap.size g 0 nodes := by
 refine ⟨hN.lt, Nat.le_refl _, fun i nd hi => ?_⟩
 obtain ⟨K, nk, ck, I, ni, ci, hcs, ⟨hk1, hk2, hk3⟩, ⟨hi1, hi2, hi3⟩⟩ := hNr.2 i nd hi
 subst hk1
 subst hi1
 obtain ⟨e0, e1, e2, e3, e4⟩ := node_cells hcs
 have hb : ∀ {A : Option Addr}, (∀ ad, A = some ad → F ad.block ∧ ∃ C fz, w.heap[ad.block]? = some (.cells C 3 fz)) → ∀ ad, A = some ad → ad.block < w.heap.size := fun h ad e => by
  obtain ⟨_, C, fz, hc⟩ := h ad e
  exact (Array.getElem?_eq_some_iff.1 hc).1
 rw [Nat.zero_add]
 exact ⟨K, ck, I, ci, hN.cell' e0, hN.cell' e1, hN.cell' e2, hN.cell' e3, hN.cell' e4, ⟨hk2, hb hk3⟩, hi2, hb hi3⟩
set_option maxRecDepth 20000 in
set_option maxHeartbeats 4000000 in
theorem of_any {g o c n : Nat} {root : Int} (hn : n ≤ 4096) (w : World) :
  Calls Tryz.prog 32 #[.agg #[.slice (some ⟨g, o, none⟩) n c, .int .i64 root]] w fun e w' => ∃ tb sb, e = .returned (.pointer (some ⟨tb, 0, none⟩)) ∧ w.heap.size ≤ tb ∧ w.heap.size ≤ sb ∧ Below w.heap.size w w' ∧ TabN w' tb sb g o c n root (List.replicate n (.slice none 0 0)) := by
 have h1 : Hid (Arr (w.alloc (.cells #[.slice (some ⟨g, o, none⟩) n c, .int .i64 root] 26)) w.heap.size 26 [.slice (some ⟨g, o, none⟩) n c, .int .i64 root]) := Arr.new w _ _
 have hB1 : Hid (Below w.heap.size w (w.alloc (.cells #[.slice (some ⟨g, o, none⟩) n c, .int .i64 root] 26))) := (Below.refl _ _).alloc (Nat.le_refl _) _
 have mk_n : Hid (∀ (w : World), (Instr.makeSlice 115 (.int .i64 (n : Int)) (.int .i64 (n : Int))).run Tryz.prog w = .ok (.slice (some ⟨w.heap.size, 0, none⟩) n n) (w.alloc (.cells (List.replicate n (Value.slice none 0 0)).toArray 44))) := fun w => by
  obtain ⟨i, hi, hz1, hz2, hz3⟩ := info_parts infoSlI
  have h := run_make (P := Tryz.prog) w 115 44 i (.slice none 0 0) Tryz.underlying115 hi hz1 .i64 .i64 n n (by omega) (by omega) (by rw [hz3]; omega) (by omega)
  rw [h]
  simp only [Int.toNat_natCast, hz2, Nat.mul_one, madeCells_one (.slice none 0 0) rfl]
 obtain ⟨zs, hzs⟩ : ∃ zs, List.replicate n (Value.slice none 0 0) = zs := ⟨_, rfl⟩
 rw [hzs] at mk_n ⊢
 clear hzs
 go_enter Tryz.func32, Tryz.ntmps32
 go_upto_region 1 with (fail)
 generalize w.alloc (.cells #[.slice (some ⟨g, o, none⟩) n c, .int .i64 root] 26) = W at *
 have x0 : W.drew.cell? ⟨w.heap.size, 0, none⟩ = some (.slice (some ⟨g, o, none⟩) n c) := h1.out.cell' (i := 0) rfl
 have x1 : W.drew.cell? ⟨w.heap.size, 1, none⟩ = some (.int .i64 root) := h1.out.cell' (i := 1) rfl
 have hmk := mk_n.out W.drew
 have h1a : Hid (Arr (W.alloc (.cells zs.toArray 44)) w.heap.size 26 [.slice (some ⟨g, o, none⟩) n c, .int .i64 root]) := h1.out.alloc _
 have y0 := h1.out.cell' (i := 0) rfl
 have y1 := h1.out.cell' (i := 1) rfl
 have z0 := h1a.out.cell' (i := 0) rfl
 have z1 := h1a.out.cell' (i := 1) rfl
 go_region
 obtain ⟨hS2, hT2, hb2, hz2⟩ := box2 W 44 125 zs [.slice (some ⟨g, o, none⟩) n c, .int .i64 root, .slice (some ⟨W.heap.size, 0, none⟩) n n]
 have hs := hB1.out.size
 go_wp2_with (fail)
 go_ret
 exact ⟨W.heap.size + 1, W.heap.size, rfl, by omega, hs, (hB1.out.trans (hb2.mono hs)).drew, ⟨hT2.out, hS2.out⟩⟩
end Go.Proofs.YtbhigefbihpnlaaGreatDoor
namespace Go.Proofs.YtbhigefbihpnlaaGreatDoor
open Go.RowKit
theorem rep_set (n i : Nat) (h : i < n) : (I64 (List.replicate i (-1) ++ List.replicate (n - i) 0)).set i (.int .i64 (-1)) = I64 (List.replicate (i + 1) (-1) ++ List.replicate (n - (i + 1)) 0) := by
 rw [I64_set, List.set_append_right _ _ (by simp), List.length_replicate, Nat.sub_self, show n - i = (n - (i + 1)) + 1 by omega, List.replicate_succ, List.set_cons_zero, List.replicate_succ', List.append_assoc]
 rfl
theorem negs_rep (n : Nat) : negs (List.replicate n (-1)) = n := by
 unfold negs
 rw [List.countP_replicate]
 simp
set_option maxRecDepth 20000 in
set_option maxHeartbeats 16000000 in
theorem normal_any {B g o c r n : Nat} {nodes : List GNode} (hn : nodes.length = n) (hI : Idx nodes) (hL : NL 65536 nodes) (hN : nodes.length ≤ 4096) (hE : ∀ k, k < nodes.length → (ndAt nodes k).kind = 10 → (ndAt nodes k).ord = false → EntOK nodes (ndAt nodes k)) (hM : ∀ k, k < nodes.length → (ndAt nodes k).kind = 10 → (ndAt nodes k).keys.length = (ndAt nodes k).items.length)
  (hr : r < nodes.length) {v : Int} {s' : NSt} (hv : visitN nodes (entV nodes) (nodes.length + 1) (r : Int) ⟨List.replicate nodes.length (-1), 0, List.replicate nodes.length nd0⟩ = some (v, s')) (w : World) (hG : GRd w B g o nodes) :
  Calls Tryz.prog 13 #[.agg #[.slice (some ⟨g, o, none⟩) n c, .int .i64 (r : Int)]] w fun e w' => ∃ om, e = .returned (.agg #[.slice (some ⟨om, 0, none⟩) n n, .int .i64 0]) ∧ Below w.heap.size w w' ∧ w.heap.size + 1 < om ∧ (∃ ncs, Arr w' om 60 ncs ∧ NodesRd w' (fun _ => True) ncs s'.out) ∧ s'.out.length = n := by
 have DV := Lib.hid (fun e => visitN_any (w0 := w) (B := w.heap.size) (g := g) (o := o) (c := c) (nodes := nodes) (root := (r : Int)) (e := e) hI hL hN hE hM (nodes.length + 1))
 have HV := Lib.hid hv
 have HN := Lib.hid hn
 have HG := Lib.hid (hG.up hG.2.1 (Nat.le_refl _))
 have hnl : n ≤ 4096 := by omega
 have hrn : r < n := by omega
 have hr0 : (0 : Int) ≤ r := by omega
 have hr1 : (r : Int) < n := by omega
 have DO := Lib.hid (fun w' => of_any (g := g) (o := o) (c := c) (root := (r : Int)) hnl w')
 obtain ⟨h1, h2, hb1, hz1⟩ := box2 w 26 26 [.slice (some ⟨g, o, none⟩) n c, .int .i64 (r : Int)] [.slice none 0 0, .int .i64 0]
 clear hv hn hG hI hL hN hE hM hr
 go_enter Tryz.func13, Tryz.ntmps13
 go_upto_region 1 with (fail)
 obtain ⟨gb, hgb⟩ : ∃ x, w.heap.size = x := ⟨_, rfl⟩
 have HGB := Lib.hid hgb
 have HB := Lib.hid hb1
 generalize ((w.alloc (.cells #[.slice (some ⟨g, o, none⟩) n c, .int .i64 (r : Int)] 26)).alloc (.cells #[.slice none 0 0, .int .i64 0] 26)) = W at *
 rw [hgb] at h1 h2 hz1 HB ⊢
 clear hgb hb1
 have hWs := hz1.out
 have HWS := Lib.hid hWs
 clear hWs
 have x0 := h1.out.cell' (i := 0) rfl
 have x1 := h1.out.cell' (i := 1) rfl
 go_upto_region 2 with (go_at_call 32; ((with_reducible refine (DO.out _).mono ?_)); rintro e w1 ⟨tb, sb, rfl, ht1, ht2, hb2, hT⟩; have hT1 := Lib.hid (Arr.new w1 92 [.pointer (some ⟨tb, 0, none⟩)]); have hT2 : Below w1.heap.size w1 (w1.alloc (.cells #[.pointer (some ⟨tb, 0, none⟩)] 92)) := (Below.refl _ _).alloc (Nat.le_refl _) _)
 clear x0 x1 DO
 have l0 : gb + 1 < tb := by have := HWS.out; omega
 have l1 : gb + 1 < sb := by have := HWS.out; omega
 have l2 : tb < w1.heap.size := hT.tab.lt
 have l3 : sb < w1.heap.size := hT.srt.lt
 have HB2 := Lib.hid ((HB.out.trans (hb2.mono (by have := HWS.out; omega))).trans (hT2.mono (by omega)))
 have h1b := Lib.hid ((h1.out.keep hb2).keep hT2)
 have h2b := Lib.hid ((h2.out.keep hb2).keep hT2)
 have hTb := Lib.hid (hT.keep hT2)
 clear hb2 ht1 ht2 hT h1 h2 hT2 HB hz1 HWS
 generalize (w1.alloc (.cells #[.pointer (some ⟨tb, 0, none⟩)] 92)) = w2 at *
 obtain ⟨tp, htp⟩ : ∃ x, w1.heap.size = x := ⟨_, rfl⟩
 rw [htp] at hT1 l2 l3 ⊢
 clear htp
 have l4 : tp < w2.heap.size := hT1.out.lt
 have x0 := h1b.out.cell' (i := 0) rfl
 go_upto_region 3 with (at_make; go_loud (refine wpList_mk rfl _ _ 44 rfl 3 _ _ Tryz.underlying44 infoInt rfl _ _ _ _ rfl rfl n n (by omega) (by omega) (by omega) (by omega) (by unfold maxLen; omega) ?_; intro am w3 ham hAM hb3 hz3))
 clear x0
 have l5 : tp < am := by have := ham.out; omega
 have hBt : Hid (Arr (w3.alloc (.cells #[.slice (some ⟨am, 0, none⟩) n n] 44)) w3.heap.size 44 [.slice (some ⟨am, 0, none⟩) n n]) := Arr.new w3 _ _
 have hb4 : Below w3.heap.size w3 (w3.alloc (.cells #[.slice (some ⟨am, 0, none⟩) n n] 44)) := (Below.refl _ _).alloc (Nat.le_refl _) _
 have l6 : am < w3.heap.size := hAM.out.lt
 have HB4 := Lib.hid ((HB2.out.trans (hb3.mono (by omega))).trans (hb4.mono (by omega)))
 have h1c := Lib.hid ((h1b.out.keep hb3).keep hb4)
 have h2c := Lib.hid ((h2b.out.keep hb3).keep hb4)
 have hTc := Lib.hid ((hTb.out.keep hb3).keep hb4)
 have hTpc := Lib.hid ((hT1.out.keep hb3).keep hb4)
 have hAM4 : Hid (Arr (w3.alloc (.cells #[.slice (some ⟨am, 0, none⟩) n n] 44)) am 3 (I64 (List.replicate 0 (-1) ++ List.replicate (n - 0) 0))) := by
  rw [Nat.sub_zero]; show Hid (Arr _ am 3 (I64 (List.replicate n 0))); rw [← I64_rep]; exact hAM.out.keep hb4
 clear hAM hb3 hz3 ham hb4 h1b h2b hTb hT1 HB2
 generalize (w3.alloc (.cells #[.slice (some ⟨am, 0, none⟩) n n] 44)) = w4 at *
 obtain ⟨bat, hbat⟩ : ∃ x, w3.heap.size = x := ⟨_, rfl⟩
 rw [hbat] at hBt l6 ⊢
 clear hbat
 have l7 : bat < w4.heap.size := hBt.out.lt
 have b0 := hBt.out.cell' (i := 0) rfl
 go_upto_region 4 with (fail)
 clear b0
 go_loopw [5, 17] (fun _ v wr => ∃ (i : Nat), i ≤ n ∧ v = .int .i64 (i : Int) ∧ Hid (Arr wr am 3 (I64 (List.replicate i (-1) ++ List.replicate (n - i) 0))) ∧ Hid (w4.grownBy wr (some am))) (fun _ v _ => n - (intOf v).toNat)
 case atStart => exact ⟨0, Nat.zero_le _, rfl, hAM4, World.grownBy.refl _ _⟩
 case round =>
  clear hAM4
  obtain ⟨i, hi, rfl, hLr, hgr⟩ := hrel
  have hBr := Lib.hid (hBt.out.grown hgr.out (some_ne (by omega)))
  have b0 := hBr.out.cell' (i := 0) rfl
  by_cases him : i = n
  ·have hi' : ¬ (i : Int) < n := by omega
   obtain ⟨w5, hw5⟩ : ∃ x : World, x = wr := ⟨_, rfl⟩
   subst hw5
   have hAM5 : Hid (Arr w5 am 3 (I64 (List.replicate n (-1)))) := by
    have := hLr.out
    rw [him, Nat.sub_self, List.replicate_zero, List.append_nil] at this
    exact this
   have h1d := Lib.hid (h1c.out.grown hgr.out (some_ne (by omega)))
   have h2d := Lib.hid (h2c.out.grown hgr.out (some_ne (by omega)))
   have hTd : Hid (TabN w5 tb sb g o c n (r : Int) (List.replicate n (.slice none 0 0))) := ⟨hTc.out.tab.grown hgr.out (some_ne (by omega)), hTc.out.srt.grown hgr.out (some_ne (by omega))⟩
   have hTpd := Lib.hid (hTpc.out.grown hgr.out (some_ne (by omega)))
   have HB5 := Lib.hid (HB4.out.grown hgr.out (by have := HB4.out.size; omega) (fun k e => by have := Option.some.inj e; omega))
   have l8 : bat < w5.heap.size := hBr.out.lt
   clear hLr hgr hBt h1c h2c hTc hTpc HB4 b0
   clear him
   have x0 := h1d.out.cell' (i := 0) rfl
   go_upto_region 9 with (at_make; go_loud (refine wpList_mkZ rfl _ _ 24 rfl 60 zNd 5 _ Tryz.underlying24 infoNd _ _ _ _ rfl rfl n n (by omega) (by omega) (by omega) (by omega) (by unfold maxLen; omega) ?_; intro om w6 hom hOM hb6 hz6; have hOu : Hid (Arr (w6.alloc (.cells #[.slice (some ⟨om, 0, none⟩) n n, .int .i64 0] 26)) w6.heap.size 26 [.slice (some ⟨om, 0, none⟩) n n, .int .i64 0]) := Arr.new w6 _ _; have hb7 : Below w6.heap.size w6 (w6.alloc (.cells #[.slice (some ⟨om, 0, none⟩) n n, .int .i64 0] 26)) := (Below.refl _ _).alloc (Nat.le_refl _) _))
   clear x0
   have l9 : bat < om := by have := hom.out; omega
   have l10 : om < w6.heap.size := hOM.out.lt
   have HB7 := Lib.hid ((HB5.out.trans (hb6.mono (by omega))).trans (hb7.mono (by omega)))
   have h1e := Lib.hid ((h1d.out.keep hb6).keep hb7)
   have h2e := Lib.hid ((h2d.out.keep hb6).keep hb7)
   have hTe := Lib.hid ((hTd.out.keep hb6).keep hb7)
   have hTpe := Lib.hid ((hTpd.out.keep hb6).keep hb7)
   have hAMe := Lib.hid ((hAM5.out.keep hb6).keep hb7)
   have hBte := Lib.hid ((hBr.out.keep hb6).keep hb7)
   have hOMe := Lib.hid (hOM.out.keep hb7)
   clear h1d h2d hTd hTpd hAM5 hBr hOM HB5 hb6 hb7 hz6 hom
   generalize (w6.alloc (.cells #[.slice (some ⟨om, 0, none⟩) n n, .int .i64 0] 26)) = w7 at *
   obtain ⟨ou, hou⟩ : ∃ x, w6.heap.size = x := ⟨_, rfl⟩
   rw [hou] at hOu l10 ⊢
   clear hou
   have l11 : ou < w7.heap.size := hOu.out.lt
   obtain ⟨hCn, hVi, hb8, hz8⟩ := box2 w7 3 94 [.int .i64 0] [.nilFunc]
   have HB8 := Lib.hid (HB7.out.trans (hb8.mono (by omega)))
   have h1f := Lib.hid (h1e.out.keep hb8)
   have h2f := Lib.hid (h2e.out.keep hb8)
   have hTf := Lib.hid (hTe.out.keep hb8)
   have hTpf := Lib.hid (hTpe.out.keep hb8)
   have hAMf := Lib.hid (hAMe.out.keep hb8)
   have hBtf := Lib.hid (hBte.out.keep hb8)
   have hOMf := Lib.hid (hOMe.out.keep hb8)
   have hOuf := Lib.hid (hOu.out.keep hb8)
   go_upto_region 11 with (fail)
   clear h1e h2e hTe hTpe hAMe hBte hOMe hOu HB7 hb8
   generalize ((w7.alloc (.cells #[.int .i64 0] 3)).alloc (.cells #[.nilFunc] 94)) = w8 at *
   obtain ⟨cn, hcn⟩ : ∃ x, w7.heap.size = x := ⟨_, rfl⟩
   rw [hcn] at hCn hVi l11 hz8 ⊢
   clear hcn
   have z0 := hVi.out.cell' (i := 0) rfl
   have zf := hVi.out.frozen 0
   obtain ⟨fv, hfv⟩ : ∃ fv, fv = Value.func (.func 33) #[] #[.pointer (some ⟨bat, 0, none⟩), .pointer (some ⟨cn, 0, none⟩), .pointer (some ⟨gb, 0, none⟩), .pointer (some ⟨tp, 0, none⟩), .pointer (some ⟨cn + 1, 0, none⟩), .pointer (some ⟨ou, 0, none⟩)] := ⟨_, rfl⟩
   have HFN : Hid (normFn ⟨bat, cn, gb, tp, cn + 1, ou, am, om, tb, sb⟩ = fv) := by show _ = _; rw [hfv]; rfl
   have hB9 : Hid (Below gb w (w8.setCell ⟨cn + 1, 0, none⟩ fv)) := HB8.out.setCell (p := ⟨cn + 1, 0, none⟩) (show gb ≤ cn + 1 by omega) fv
   have hYE : Hid (NmE w (w8.setCell ⟨cn + 1, 0, none⟩ fv) w.heap.size g o c nodes (r : Int) ⟨bat, cn, gb, tp, cn + 1, ou, am, om, tb, sb⟩ (fun _ => False) ⟨List.replicate n (-1), 0, List.replicate n nd0⟩ (madeCells zNd.cells (n * 5)).toList (List.replicate n (.slice none 0 0))) := {
    be := by rw [HGB.out]; exact hB9.out
    gd := HG.out.below (by rw [HGB.out]; exact hB9.out) (Nat.le_refl _)
    bat := by rw [HN.out]; exact hBtf.out.far (p := ⟨cn + 1, 0, none⟩) (show bat ≠ cn + 1 by omega) fv
    cn := hCn.out.far (p := ⟨cn + 1, 0, none⟩) (show cn ≠ cn + 1 by omega) fv
    gr := by rw [HN.out]; exact h1f.out.far (p := ⟨cn + 1, 0, none⟩) (show gb ≠ cn + 1 by omega) fv
    tp := hTpf.out.far (p := ⟨cn + 1, 0, none⟩) (show tp ≠ cn + 1 by omega) fv
    vi := by rw [HFN.out]; exact hVi.out.store 0 fv
    ou := by rw [HN.out]; exact hOuf.out.far (p := ⟨cn + 1, 0, none⟩) (show ou ≠ cn + 1 by omega) fv
    am := hAMf.out.far (p := ⟨cn + 1, 0, none⟩) (show am ≠ cn + 1 by omega) fv
    om := hOMf.out.far (p := ⟨cn + 1, 0, none⟩) (show om ≠ cn + 1 by omega) fv
    rd := NodesRd.zero _ _ n
    rl := fun b h => h.elim
    tab := by rw [HN.out]; exact ⟨hTf.out.tab.far (p := ⟨cn + 1, 0, none⟩) (show tb ≠ cn + 1 by omega) fv, hTf.out.srt.far (p := ⟨cn + 1, 0, none⟩) (show sb ≠ cn + 1 by omega) fv⟩
    lo := fun b hb => by have := HGB.out; rcases hb with h | h | h | h <;> (simp only at h; omega)
    d1 := by show am ≠ cn; omega
    d2 := by show gb ≠ ou; omega
    d3 := by show bat ≠ sb; omega }
   have hRB := Lib.hid (h2f.out.far (p := ⟨cn + 1, 0, none⟩) (show gb + 1 ≠ cn + 1 by omega) fv)
   subst hfv
   go_upto_region 12 with (fail)
   clear z0 zf hVi h1f h2f hTf hTpf hAMf hBtf hOMf hOuf HB8 hB9 HFN
   generalize (w8.setCell ⟨cn + 1, 0, none⟩ (.func (.func 33) #[] #[.pointer (some ⟨bat, 0, none⟩), .pointer (some ⟨cn, 0, none⟩), .pointer (some ⟨gb, 0, none⟩), .pointer (some ⟨tp, 0, none⟩), .pointer (some ⟨cn + 1, 0, none⟩), .pointer (some ⟨ou, 0, none⟩)])) = w9 at *
   have v0 := hYE.out.vi.cell' (i := 0) rfl
   unfold normFn at v0
   have g1 := hYE.out.gr.cell' (i := 1) rfl
   have D0 := DV.out ⟨bat, cn, gb, tp, cn + 1, ou, am, om, tb, sb⟩ r w9 (fun _ => False) ⟨List.replicate n (-1), 0, List.replicate n nd0⟩ s' v (madeCells zNd.cells (n * 5)).toList (List.replicate n (.slice none 0 0)) (by rw [HN.out]; exact hrn) ⟨by rw [HN.out]; simp, by rw [HN.out]; simp, by rw [HN.out]; simp, fun k hk _ => by rw [List.getElem?_replicate, if_pos (by have := HN.out; omega)], by rw [HN.out]; show 0 + negs (List.replicate n (-1)) ≤ n; rw [negs_rep]; omega⟩ hYE.out (by have h := HV.out; rw [HN.out] at h; rw [HN.out]; exact h)
   unfold VNC at D0
   have D := Lib.hid D0
   clear D0 DV
   go_upto_region 13 with (go_at_call 33; ((with_reducible refine D.out.mono ?_)); rintro e w10 ⟨rfl, ncs', es', hE', hS', hP'⟩)
   clear v0 g1 D
   have hrs : gb + 1 < w9.heap.size := hRB.out.lt
   have hR10 : Hid (Arr w10 (gb + 1) 26 [.slice none 0 0, .int .i64 0]) := (hP'.keep (gb + 1) hrs (fun h => by rcases h with h | h | h | h <;> (simp only at h; omega))).trans hRB.out
   have u0 := hE'.out.ou.cell' (i := 0) rfl
   have u1 := hE'.out.ou.cell' (i := 1) rfl
   rw [HN.out] at u0
   have r0 := hR10.out.cell' (i := 0) rfl
   have r1 := hR10.out.cell' (i := 1) rfl
   have f0 := hR10.out.frozen 0
   have f1 := hR10.out.frozen 1
   clear hYE hRB
   have hFin : Hid (∀ w11, w11 = w10.setCells (gb + 1) 0 [.slice (some ⟨om, 0, none⟩) n n, .int .i64 0] → Below w.heap.size w w11 ∧ (∃ ncs, Arr w11 om 60 ncs ∧ NodesRd w11 (fun _ => True) ncs s'.out) ∧ s'.out.length = n) := by
    rintro w11 rfl
    obtain ⟨q1, q2, q3⟩ := same_setCells (gb + 1) [.slice (some ⟨om, 0, none⟩) n n, .int .i64 0] 0 w10
    have hk : ∀ b, b ≠ gb + 1 → (w10.setCells (gb + 1) 0 [.slice (some ⟨om, 0, none⟩) n n, .int .i64 0]).heap[b]? = w10.heap[b]? := fun b hb => heap_setCells (gb + 1) _ _ w10 hb
    have hgw : w10.grownBy (w10.setCells (gb + 1) 0 [.slice (some ⟨om, 0, none⟩) n n, .int .i64 0]) (some (gb + 1)) := ⟨q1, q2, q3, by rw [size_setCells]; exact Nat.le_refl _, fun j _ hj => hk j (fun e => hj (by rw [e]))⟩
    refine ⟨hE'.out.be.grown hgw (by have := hE'.out.be.size; exact this) (fun k e => by have := Option.some.inj e; have := HGB.out; omega), ?_, hS'.out.ol.trans HN.out⟩
    have hom : Arr (w10.setCells (gb + 1) 0 [.slice (some ⟨om, 0, none⟩) n n, .int .i64 0]) om 60 ncs' := hE'.out.om.grown hgw (some_ne (show om ≠ gb + 1 by omega))
    have hrd := hE'.out.rd.over (w' := w10.setCells (gb + 1) 0 [.slice (some ⟨om, 0, none⟩) n n, .int .i64 0]) (F' := fun _ => True) (fun b hb _ hc => ⟨hk b (fun e => by
     obtain ⟨C, fz, hc⟩ := hc
     subst e; exact absurd (cells_kind hR10.out hc) (by decide)), trivial⟩)
    exact ⟨_, hom, hrd⟩
   have h6 := (hR10.out.store 0 (.slice (some ⟨om, 0, none⟩) n n)).store 1 (.int .i64 0)
   have hF2 := hFin.out ((w10.setCell ⟨gb + 1, 0, none⟩ (.slice (some ⟨om, 0, none⟩) n n)).setCell ⟨gb + 1, 1, none⟩ (.int .i64 0)) rfl
   have h6' := Lib.hid h6
   have hF2' := Lib.hid hF2
   clear h6 hF2 hFin
   go_wp2_with (fail)
   clear u0 u1 r0 r1 f0 f1
   have h6 : Arr ((w10.setCell ⟨gb + 1, 0, none⟩ (.slice (some ⟨om, 0, none⟩) n n)).setCell ⟨gb + 1, 1, none⟩ (.int .i64 0)) (gb + 1) 26 [.slice (some ⟨om, 0, none⟩) n n, .int .i64 0] := h6'.out
   have hsz : (Tryz.prog.info? 26).map (·.size) = some 2 := by kernel_rfl
   generalize (w10.setCell ⟨gb + 1, 0, none⟩ (.slice (some ⟨om, 0, none⟩) n n)).setCell ⟨gb + 1, 1, none⟩ (.int .i64 0) = w11 at *
   obtain ⟨q1, q2, q3⟩ := hF2'.out
   exact bodyPost_ret (v := .agg #[.slice (some ⟨om, 0, none⟩) n n, .int .i64 0]) (results_cell_row Tryz.results13 _ _ _ _ #[.slice (some ⟨om, 0, none⟩) n n, .int .i64 0] (0, 0) _ rfl h6 Tryz.underlying26 rfl hsz) rfl ⟨om, rfl, q1, by have := HGB.out; omega, q2, q3⟩
  ·have hi' : (i : Int) < n := by omega
   have hi0 : (0 : Int) ≤ i := by omega
   have a0 := hLr.out.cell' (i := i) (I64_getD (by simp; omega))
   have af := hLr.out.frozen i
   have hL2 : Hid (Arr (wr.setCell ⟨am, i, none⟩ (.int .i64 (-1))) am 3 (I64 (List.replicate (i + 1) (-1) ++ List.replicate (n - (i + 1)) 0))) := by rw [← rep_set n i (by omega)]; exact hLr.out.store i _
   have hg2 := Lib.hid (grown_trans hgr.out (grown_set wr ⟨am, i, none⟩ (.int .i64 (-1))))
   clear hLr hgr hBr
   go_wp2_with (fail)
   go_roundw
   case rel => exact ⟨i + 1, by omega, i64e (by omega), hL2, hg2⟩
   case measure => simp [intOf]; omega
end Go.Proofs.YtbhigefbihpnlaaGreatDoor
namespace Go.Proofs.YtbhigefbihpnlaaGreatDoor
open Go.RowKit
structure NormOK (nodes : List GNode) : Prop where
 idx : Idx nodes
 nl : NL 65536 nodes
 len : nodes.length ≤ 4096
 ent : ∀ k, k < nodes.length → (ndAt nodes k).kind = 10 → (ndAt nodes k).ord = false → EntOK nodes (ndAt nodes k)
 key : ∀ k, k < nodes.length → (ndAt nodes k).kind = 10 → (ndAt nodes k).keys.length = (ndAt nodes k).items.length
end Go.Proofs.YtbhigefbihpnlaaGreatDoor
namespace Go.Proofs.YtbhigefbihpnlaaGreatDoor
open Go.RowKit
/-! ### A list of nulls -/
/-! ### The list of the widths -/
theorem small_dg {m : Nat} (h : m ≤ 18446744073709551616) : (dg m).length ≤ 400 := by
 have : (dg m).length ≤ 20 := by rw [dg_len_le]; omega
 omega
theorem intW_by (b : Bool) (m : Nat) : By (intW b m).text := tS_by _
theorem intW_ok (b : Bool) {m : Nat} (h : m ≤ 18446744073709551616) : scV (intW b m) = true := by
 unfold scV intW tS sigN
 have := small_dg h
 show (parseC (if (dg m).length ≤ 400 then ntx (b && decide (0 < m)) m else [])).isSome = true
 rw [if_pos this, parseC_ntx _ _ this]
 rfl
theorem intW_len (b : Bool) {m : Nat} (h : m ≤ 18446744073709551616) : (intW b m).text.length ≤ 100000 := by
 unfold intW tS sigN
 show (if (dg m).length ≤ 400 then ntx (b && decide (0 < m)) m else []).length ≤ 100000
 have h2 := small_dg h
 rw [if_pos h2]
 unfold ntx
 split
 ·decide
 ·have h3 : (asc (dg m)).length = (dg m).length := by unfold asc; simp
  rw [List.length_append, List.length_reverse, h3]
  split <;> simp <;> omega
section
variable {m : Nat} {t : List Nat}
theorem nodesW_cases {i : Nat} (hi : i < (nodesW m t).length) {P : GNode → Nat → Prop} (h0 : P ⟨9, [], false, [], [1, 2, 3, 4]⟩ 0) (h1 : P (intW false m) 1) (h2 : P (intW true (m + 1)) 2) (h3 : P ⟨6, t, false, [], []⟩ 3) (h4 : P ⟨10, [], false, [5], [6]⟩ 4) (h5 : P (intW false m) 5) (h6 : P nullN 6) : P (ndAt (nodesW m t) i) i := by
 have h7 : i < 7 := hi
 match i, h7 with
 | 0, _ => exact h0
 | 1, _ => exact h1
 | 2, _ => exact h2
 | 3, _ => exact h3
 | 4, _ => exact h4
 | 5, _ => exact h5
 | 6, _ => exact h6
theorem nodesW_ck (hm : m < 18446744073709551616) (hb : By t) (hl : t.length ≤ 1000) : ChkOK (nodesW m t) 0 where
 n0 := by show 0 < 7; decide
 n1 := by show 7 ≤ 4096; decide
 nl := fun i hi => nodesW_cases (P := fun nd _ => nd.keys.length ≤ 65536 ∧ nd.items.length ≤ 65536) hi (by decide) ⟨Nat.zero_le _, Nat.zero_le _⟩ ⟨Nat.zero_le _, Nat.zero_le _⟩ ⟨Nat.zero_le _, Nat.zero_le _⟩ (by decide) ⟨Nat.zero_le _, Nat.zero_le _⟩ (by decide)
 tw := {
  leaf := fun i hi => nodesW_cases (P := fun nd _ => ∀ x ∈ nd.keys, Leaf (ndAt (nodesW m t) x.toNat)) hi (fun x hx => by cases hx) (fun x hx => by cases hx) (fun x hx => by cases hx) (fun x hx => by cases hx) (fun x hx => by
   have : x = 5 := by simpa using hx
   subst this
   exact ⟨rfl, rfl⟩) (fun x hx => by cases hx) (fun x hx => by cases hx)
  by_ := fun i hi => nodesW_cases (P := fun nd _ => By nd.text) hi By.nil (intW_by _ _) (intW_by _ _) hb By.nil (intW_by _ _) By.nil
  wf := fun i hi => nodesW_cases (P := fun nd _ => (Lit.int .i64 nd.kind).wf = true) hi (by decide) (by show (Lit.int .i64 2).wf = true; decide) (by show (Lit.int .i64 2).wf = true; decide) (by show (Lit.int .i64 6).wf = true; decide) (by decide) (by show (Lit.int .i64 2).wf = true; decide) (by decide)
  len := fun i hi => by
   rw [size_mks]
   refine nodesW_cases (P := fun nd _ => nd.text.length ≤ maxLen) hi (by unfold maxLen; simp) ?_ ?_ (by unfold maxLen; simp; omega) (by unfold maxLen; simp) ?_ (by unfold maxLen nullN; simp)
   ·have := intW_len false (m := m) (by omega); unfold maxLen; omega
   ·have := intW_len true (m := m + 1) (by omega); unfold maxLen; omega
   ·have := intW_len false (m := m) (by omega); unfold maxLen; omega }
 sc := fun i hi => nodesW_cases (P := fun nd _ => nd.kind ≠ 11 ∧ (nd.kind ≠ 9 → nd.kind ≠ 10 → ScalC nd.kind nd.text (scV nd))) hi ⟨by decide, fun h => absurd rfl h⟩
  ⟨by show (2 : Int) ≠ 11; decide, fun _ _ => scal_int _ (intW_by _ _)⟩ ⟨by show (2 : Int) ≠ 11; decide, fun _ _ => scal_int _ (intW_by _ _)⟩ ⟨by show (6 : Int) ≠ 11; decide, fun _ _ => scal_bytes _⟩ ⟨by decide, fun _ h => absurd rfl h⟩ ⟨by show (2 : Int) ≠ 11; decide, fun _ _ => scal_int _ (intW_by _ _)⟩ ⟨by decide, fun _ _ => scal_null _⟩
 dp := fun _ _ => endB_ok (show endB (nodesW m t) = true by kernel_rfl)
theorem nodesW_chk (hm : m < 18446744073709551616) : chkV (nodesW m t) 0 = 0 := by
 have e1 : indicesV (nodesW m t) 0 = true := by kernel_rfl
 have e3 : (List.range (nodesW m t).length).all (okK (nodesW m t) 0) = true := by kernel_rfl
 have e4 : twiceV (nodesW m t) = false := by kernel_rfl
 have e5 : depD (nodesW m t) 0 = 2 := by kernel_rfl
 have r : ∀ i, i < 7 → (reachedV (nodesW m t) 0 (noMarks (nodesW m t).length)).getD i false = true := by
  intro i hi
  have : (List.range 7).all (fun i => (reachedV (nodesW m t) 0 (noMarks (nodesW m t).length)).getD i false) = true := by kernel_rfl
  exact List.all_eq_true.1 this i (List.mem_range.2 hi)
 have e2 : (List.range (nodesW m t).length).all (okN (nodesW m t) 0) = true := all_yes fun j hj => by
  unfold okN
  rw [r j hj, Bool.true_and]
  refine nodesW_cases (P := fun nd _ => formV nd (scV nd) = true) hj (by rfl) ?_ ?_ (by rfl) (by rfl) ?_ (by rfl)
  ·rw [intW_ok _ (by omega)]; rfl
  ·rw [intW_ok _ (by omega)]; rfl
  ·rw [intW_ok _ (by omega)]; rfl
 unfold chkV
 rw [if_neg (by rw [e1]; decide), if_neg (by rw [e2]; decide), if_neg (by rw [e3]; decide), if_neg (by rw [e4]; decide), if_neg (by rw [e5]; decide)]
theorem nodesW_norm : NormOK (nodesW m t) where
 idx := fun i hi => nodesW_cases (P := fun nd _ => ∀ x ∈ refs nd, 0 ≤ x ∧ x < (7 : Int)) hi (by decide) (fun x hx => by cases hx) (fun x hx => by cases hx) (fun x hx => by cases hx) (by decide) (fun x hx => by cases hx) (fun x hx => by cases hx)
 nl := fun i hi => nodesW_cases (P := fun nd _ => nd.keys.length ≤ 65536 ∧ nd.items.length ≤ 65536) hi (by decide) ⟨Nat.zero_le _, Nat.zero_le _⟩ ⟨Nat.zero_le _, Nat.zero_le _⟩ ⟨Nat.zero_le _, Nat.zero_le _⟩ (by decide) ⟨Nat.zero_le _, Nat.zero_le _⟩ (by decide)
 len := by show 7 ≤ 4096; decide
 ent := fun i hi => nodesW_cases (P := fun nd _ => nd.kind = 10 → nd.ord = false → EntOK (nodesW m t) nd) hi (fun h => by cases h) (fun h => by cases h) (fun h => by cases h) (fun h => by cases h) (fun _ _ => {
  len := rfl
  few := by decide
  key := fun h => absurd h (by decide)
  ne := fun a b ha hb hab => by
   have ha : a < 1 := ha
   have hb : b < 1 := hb
   omega }) (fun h => by cases h) (fun h => by cases h)
 key := fun i hi => nodesW_cases (P := fun nd _ => nd.kind = 10 → nd.keys.length = nd.items.length) hi (fun h => by cases h) (fun h => by cases h) (fun h => by cases h) (fun h => by cases h) (fun _ => rfl) (fun h => by cases h) (fun h => by cases h)
end
end Go.Proofs.YtbhigefbihpnlaaGreatDoor
