/- The walk of change.built, for a Set two steps deep in lists. -/
import Derived.Test.YtoppncpmfajbcaaGreatDoorMBp
import Derived.Test.YtoppncpmfajbcaaGreatDoorMBq
import Derived.Test.YtoppncpmfajbcaaGreatDoorMBj
set_option linter.unusedVariables false
set_option linter.unusedSimpArgs false
set_option linter.defProp false
set_option linter.constructorNameAsVariable false
namespace Go.Proofs.YtoppncpmfajbcaaGreatDoor
open Go.RowKit
def tabC (N M : List GNode) (rM x0 x1 i0 i1 : Nat) : List GNode :=
 N ++ [{ ndAt N x0 with items := (ndAt N x0).items.set i0 ((N.length + 1 : Nat) : Int) }] ++ [{ ndAt N x1 with items := (ndAt N x1).items.set i1 ((rM : Int) + ((N.length + 2 : Nat) : Int)) }] ++ M.map (shiftN (N.length + 2))
structure BuiltC (N M : List GNode) (r rM x0 x1 i0 i1 : Nat) (l : List Int) (N3 : List GNode) : Prop where
 idx : Idx N
 nl : NL 65536 N
 len : N.length ≤ 4096
 rt : r < N.length
 midx : Idx M
 mnl : NL 65536 M
 mlen : M.length ≤ 4096
 mrt : rM < M.length
 hx0 : x0 < N.length
 hx1 : x1 < N.length
 k9 : (ndAt N x0).kind = 9
 e0 : (ndAt N x0).keys = []
 e1 : (ndAt N x1).keys = []
 hi0 : i0 < (ndAt N x0).items.length
 hi1 : i1 < (ndAt N x1).items.length
 nc : NormalC (tabC N M rM x0 x1 i0 i1) N.length l N3
set_option maxRecDepth 20000 in
set_option maxHeartbeats 16000000 in
theorem built_any {B g o c r n gv ov cv rM m x0 x1 i0 i1 cl cp : Nat} {N M N3 : List GNode} {l : List Int} {A L : Option Addr} (hC : BuiltC N M r rM x0 x1 i0 i1 l N3) (hn : N.length = n) (hm : M.length = m) (w : World) (hw : LibE w) (hG : GRd w B g o N) (hV : GRd w B gv ov M) (hA : PRd w A (ixP [i0, i1])) (hL : Rd w L (I64 [(x0 : Int), (x1 : Int)])) :
  Calls Tryz.prog 34 #[.agg #[.slice (some ⟨g, o, none⟩) n c, .int .i64 (r : Int)], .agg #[.int .i64 1, .slice A 2 cp, .slice (some ⟨gv, ov, none⟩) m cv, .int .i64 (rM : Int)], .slice L 2 cl, .int .i64 (i1 : Int)] w (NormalE w l.length N3) := by
 have HC := Lib.hid hC
 have HN := Lib.hid hn
 have HM := Lib.hid hm
 have HW := Lib.hid hw
 have HG := Lib.hid (hG.up hG.2.1 (Nat.le_refl _))
 have HV := Lib.hid (hV.up hV.2.1 (Nat.le_refl _))
 have HA := Lib.hid hA
 have HL := Lib.hid hL
 have hn4 : n ≤ 4096 := by have := hC.len; omega
 have hm4 : m ≤ 4096 := by have := hC.mlen; omega
 have hmf : ∀ (fn : Fn) (first cap : Array Value) (w : World), (Instr.makeFunc fn first cap).run Tryz.prog w = .ok (.func fn first cap) w := fun _ _ _ _ => rfl
 clear hC hn hm hw hG hV hA hL
 obtain ⟨h4, h5, hb1, hz1⟩ := box2 w 26 28 [.slice (some ⟨g, o, none⟩) n c, .int .i64 (r : Int)] [.int .i64 1, .slice A 2 cp, .slice (some ⟨gv, ov, none⟩) m cv, .int .i64 (rM : Int)]
 obtain ⟨h7, h8, hb2, hz2⟩ := box2 ((w.alloc (.cells #[.slice (some ⟨g, o, none⟩) n c, .int .i64 (r : Int)] 26)).alloc (.cells #[.int .i64 1, .slice A 2 cp, .slice (some ⟨gv, ov, none⟩) m cv, .int .i64 (rM : Int)] 28)) 3 26 [.int .i64 (i1 : Int)] [.slice none 0 0, .int .i64 0]
 go_enter Tryz.func34, Tryz.ntmps34
 go_upto_region 1 with (fail)
 have h4' := Lib.hid (h4.out.keep hb2)
 have h5' := Lib.hid (h5.out.keep hb2)
 have hbb := Lib.hid (hb1.trans (hb2.mono (by have := hz1.out; omega)))
 rw [hz1.out] at h7 h8 hz2
 generalize ((((w.alloc (.cells #[.slice (some ⟨g, o, none⟩) n c, .int .i64 (r : Int)] 26)).alloc (.cells #[.int .i64 1, .slice A 2 cp, .slice (some ⟨gv, ov, none⟩) m cv, .int .i64 (rM : Int)] 28)).alloc (.cells #[.int .i64 (i1 : Int)] 3)).alloc (.cells #[.slice none 0 0, .int .i64 0] 26)) = W at *
 have h7' : Hid (Arr W (w.heap.size + 1 + 1) 3 [.int .i64 (i1 : Int)]) := h7
 have h8' : Hid (Arr W (w.heap.size + 1 + 1 + 1) 26 [.slice none 0 0, .int .i64 0]) := h8
 obtain ⟨b8, hb8⟩ : ∃ x, w.heap.size + 1 + 1 + 1 = x := ⟨_, rfl⟩
 obtain ⟨b7, hb7⟩ : ∃ x, w.heap.size + 1 + 1 = x := ⟨_, rfl⟩
 obtain ⟨b5, hb5⟩ : ∃ x, w.heap.size + 1 = x := ⟨_, rfl⟩
 obtain ⟨gb, hgb⟩ : ∃ x, w.heap.size = x := ⟨_, rfl⟩
 have HGB := Lib.hid hgb
 have hord : gb < b5 ∧ b5 < b7 ∧ b7 < b8 ∧ b8 < W.heap.size := by have := hz2.out; omega
 rw [hb8] at h8' ⊢
 rw [hb7] at h7' ⊢
 rw [hb5] at h5' ⊢
 rw [hgb] at h4' hbb ⊢
 clear hb8 hb7 hb5 hgb h4 h5 h7 h8 hb1 hz1 hb2 hz2
 obtain ⟨o1, o2, o3, o4⟩ := hord
 have HGW := Lib.hid ((HG.out.up (Nat.le_of_eq HGB.out) (Nat.le_of_eq HGB.out.symm)).below hbb.out (Nat.le_refl _))
 have HVW := Lib.hid ((HV.out.up (Nat.le_of_eq HGB.out) (Nat.le_of_eq HGB.out.symm)).below hbb.out (Nat.le_refl _))
 have HAW := Lib.hid (HA.out.below HGB.out hbb.out)
 have HLB : Hid (∀ ad, L = some ad → ad.block < gb) := fun ad e => by
  obtain ⟨ad', e', hc⟩ := HL.out 0 _ rfl
  have := block_lt_of_cell hc
  rw [e] at e'
  obtain rfl := Option.some.inj e'
  rw [blk_add] at this
  have := HGB.out
  omega
 have HLW := Lib.hid (HL.out.below hbb.out HLB.out)
 clear HG HV HL
 have x51 := h5'.out.cell' (i := 1) rfl
 obtain ⟨_, adp, hadp, p0, p1⟩ := HAW.out 1 _ (ixP_get (idxs := [i0, i1]) (i := 1) (by simp))
 subst hadp
 have p0a : W.cell? ⟨adp.block, adp.off + 2, none⟩ = some (.int .i64 (i1 : Int)) := p0
 have p1a : W.cell? ⟨adp.block, adp.off + 2 + 1, none⟩ = some (.string (mks [])) := p1
 clear p0 p1
 have hbS : Below W.heap.size W (W.alloc (.cells #[.int .i64 (i1 : Int), .string (mks [])] 36)) := (Below.refl _ _).alloc (Nat.le_refl _) _
 have hS := Lib.hid (Arr.new W 36 [.int .i64 (i1 : Int), .string (mks [])])
 go_upto_region 3 with (fail)
 clear p0a p1a x51
 have h4s := Lib.hid (h4'.out.keep hbS)
 have h5s := Lib.hid (h5'.out.keep hbS)
 have h7s := Lib.hid (h7'.out.keep hbS)
 have h8s := Lib.hid (h8'.out.keep hbS)
 have HGs := Lib.hid (HGW.out.below hbS (by omega))
 have HVs := Lib.hid (HVW.out.below hbS (by omega))
 have HBs := Lib.hid (hbb.out.trans (hbS.mono (by omega)))
 have HAs := Lib.hid (HAW.out.keep hbS)
 have HLs := Lib.hid (HLW.out.keep hbS)
 obtain ⟨b11, hb11⟩ : ∃ x, W.heap.size = x := ⟨_, rfl⟩
 generalize (W.alloc (.cells #[.int .i64 (i1 : Int), .string (mks [])] 36)) = W1 at *
 rw [hb11] at hS o4 ⊢
 clear hb11 hbS h4' h5' h7' h8' HGW HVW hbb HAW HLW
 have o5 : b11 < W1.heap.size := hS.out.lt
 have c40 := h4s.out.cell' (i := 0) rfl
 have c41 := h4s.out.cell' (i := 1) rfl
 have DA := Lib.hid (cappended_any (c := c) HC.out.nl HC.out.len (show 0 ≤ 65536 by omega) HC.out.idx HC.out.rt W1 HGs.out (own_nil0 W1 gb 34 5))
 rw [HN.out] at DA
 have hn0 : 0 < n := by have := HC.out.rt; have := HN.out; omega
 go_upto_region 4 with (go_at_call 51; ((with_reducible refine DA.out.mono ?_)); rintro e w2 ⟨v2, ncs0, rfl, hrow2, hnd2, hgr2, hat2⟩; rw [HN.out, Nat.zero_add, List.nil_append] at hrow2; obtain ⟨rb, cb, hv2, _, _⟩ := own_some hrow2 hn0; subst hv2)
 have hb2 : Below W1.heap.size W1 w2 := below_of_grown hgr2 (Nat.le_refl _) (fun b e => by simp [Value.ownBlock] at e)
 have hsh : N.map (shiftN 0) = N := by
  have : (shiftN 0) = id := by funext nd; unfold shiftN; simp
  rw [this, List.map_id]
 rw [hsh] at hnd2
 have hbT : Below w2.heap.size w2 (w2.alloc (.cells #[.slice (some ⟨rb, 0, none⟩) n cb] 24)) := (Below.refl _ _).alloc (Nat.le_refl _) _
 have hb3 := hb2.trans (hbT.mono hb2.size)
 have h4t := Lib.hid (h4s.out.keep hb3)
 have h5t := Lib.hid (h5s.out.keep hb3)
 have h7t := Lib.hid (h7s.out.keep hb3)
 have h8t := Lib.hid (h8s.out.keep hb3)
 have hSt := Lib.hid (hS.out.keep hb3)
 have HGt := Lib.hid (HGs.out.below hb3 (by omega))
 have HVt := Lib.hid (HVs.out.below hb3 (by omega))
 have HBt := Lib.hid (HBs.out.trans (hb3.mono (by omega)))
 have HAt := Lib.hid (HAs.out.keep hb3)
 have HLt := Lib.hid (HLs.out.keep hb3)
 have hRt := Lib.hid (own_below hrow2 hbT)
 have hT := Lib.hid (Arr.new w2 24 [.slice (some ⟨rb, 0, none⟩) n cb])
 obtain ⟨tb, htb⟩ : ∃ x, w2.heap.size = x := ⟨_, rfl⟩
 have o6 : b11 < tb := by have := hb2.size; omega
 have hNt : Hid (NodesRd (w2.alloc (.cells #[.slice (some ⟨rb, 0, none⟩) n cb] 24)) (fun b => gb ≤ b ∧ b < tb) ncs0 N) := hnd2.over fun b hb hF _ => ⟨hbT.block b hb, by omega, by omega⟩
 have hrbt : rb < tb := by rw [← htb]; exact (hrow2.lt rb rfl).2
 have orb : b11 < rb := by
  rcases hat2 with e1 | ⟨b, e1, e2⟩
  ·cases e1
  ·have := Option.some.inj e1
   have : rb = b := this
   omega
 generalize (w2.alloc (.cells #[.slice (some ⟨rb, 0, none⟩) n cb] 24)) = w3 at *
 rw [htb] at hT ⊢
 clear c40 c41 DA hrow2 hnd2 hgr2 hat2 hb2 hsh hbT hb3 h4s h5s h7s h8s hS HGs HVs HBs HAs HLs htb
 have o7 : tb < w3.heap.size := hT.out.lt
 have hb15 : Below w3.heap.size w3 (w3.alloc (.cells #[.func (.func 54) #[] #[.pointer (some ⟨tb, 0, none⟩)]] 97)) := (Below.refl _ _).alloc (Nat.le_refl _) _
 have h15 := Lib.hid (Arr.new w3 97 [.func (.func 54) #[] #[.pointer (some ⟨tb, 0, none⟩)]])
 go_upto_region 7 with (at_make; go_loud (refine wpList_mk rfl _ _ 32 rfl 3 _ _ Tryz.underlying32 infoInt rfl _ _ _ _ rfl rfl 2 2 rfl rfl (by omega) (by omega) (by unfold maxLen; omega) ?_; intro tw w4 htw hTW hb4 hz4))
 have hb5 := hb15.trans (hb4.mono hb15.size)
 have h15w := Lib.hid (h15.out.keep hb4)
 have o8 : tb < w3.heap.size ∧ w3.heap.size < tw := ⟨o7, by have := htw.out; simp at this; omega⟩
 have h4w := Lib.hid (h4t.out.keep hb5)
 have h5w := Lib.hid (h5t.out.keep hb5)
 have h7w := Lib.hid (h7t.out.keep hb5)
 have h8w := Lib.hid (h8t.out.keep hb5)
 have hSw := Lib.hid (hSt.out.keep hb5)
 have HGw := Lib.hid (HGt.out.below hb5 (by omega))
 have HVw := Lib.hid (HVt.out.below hb5 (by omega))
 have HBw := Lib.hid (HBt.out.trans (hb5.mono (by omega)))
 have HAw := Lib.hid (HAt.out.keep hb5)
 have HLw := Lib.hid (HLt.out.keep hb5)
 have hTw := Lib.hid (hT.out.keep hb5)
 have hRw := own_below hRt.out hb5
 have hNw : NodesRd w4 (fun b => gb ≤ b ∧ b < tb) ncs0 N := hNt.out.over fun b hb hF _ => ⟨hb5.block b hb, hF⟩
 have hS0 : Hid (TwS w4 gb tb tw n ncs0 N (ndAt N x0) (ndAt N x1) (.slice (some ⟨rb, 0, none⟩) n cb) 0) := ⟨hRw, hNw, hTW.out⟩
 obtain ⟨b15, hb15e⟩ : ∃ x, w3.heap.size = x := ⟨_, rfl⟩
 have l15 : tw < w4.heap.size := hTW.out.lt
 rw [hb15e] at h15w o8 ⊢
 obtain ⟨o8, o9⟩ := o8
 clear hb15 hb4 hb5 h15 htw hz4 h4t h5t h7t h8t hSt HGt HVt HBt HAt HLt hT hRt hNt hRw hNw hTW hb15e o7
 obtain ⟨adL, hadL, _⟩ := HLw.out 0 _ rfl
 subst hadL
 have oL : adL.block < gb := HLB.out _ rfl
 go_upto_region 8 with (fail)
 go_loopw [44] (fun u wr => ∃ (i : Nat) (v : Value), i ≤ 2 ∧ u = .int .i64 (i : Int) ∧ Hid (Fr w4 wr tb tw (.slice (some ⟨rb, 0, none⟩) n cb) v) ∧ Hid (Arr wr tb 24 [v]) ∧ Hid (TwS wr gb tb tw n ncs0 N (ndAt N x0) (ndAt N x1) v i)) (fun u _ => 2 - (intOf u).toNat)
 case atStart => exact ⟨0, _, by omega, rfl, Fr.refl _ _ _ _, hTw, hS0⟩
 case round =>
  obtain ⟨i, v, hi, rfl, hF, hT, hS⟩ := hrel
  clear hS0 hTw
  by_cases hi2 : i < 2
  ·have hi2' : (i : Int) < 2 := by omega
   have hi0 : (0 : Int) ≤ i := by omega
   obtain ⟨xi, hxi, hcall⟩ := twin_step (bg := gb) HC.out.nl HN.out hn4 (by have := HC.out.hx0; have := HN.out; omega) (by have := HC.out.hx1; have := HN.out; omega) HC.out.e0 HC.out.e1 wr hi2 (by omega) (by omega) hT.out hS.out
   have D := Lib.hid hcall
   have hBl : Below gb w4 wr := hF.out.below (by omega) (by omega) (fun b e => by
    have := Option.some.inj e
    subst this
    show gb ≤ rb
    omega) (by omega)
   obtain ⟨ad', e', hc⟩ := (HLw.out.below hBl (fun ad e => by have := Option.some.inj e; subst this; exact oL)) i _ hxi
   obtain rfl := Option.some.inj e'
   clear hcall hxi hBl e'
   go_wp2_with (go_at_call 52; ((with_reducible refine D.out.mono ?_)); rintro e w6 ⟨v', rfl, hT6, hF6, ⟨u6, hc6⟩, hf6, hS6⟩)
   have hF7 := Lib.hid (hF.out.trans ((hF6.wide (.inl rfl) (.inl rfl)).trans (Fr.set w6 tb tw i (.int .i64 ((n + i : Nat) : Int)) v')))
   have hT7 := Lib.hid (hT6.far (p := ⟨tw, i, none⟩) (show tb ≠ tw by omega) (.int .i64 ((n + i : Nat) : Int)))
   have hS7 := Lib.hid hS6
   clear hc6 hf6 hF6 hT6 hS6 hF hT hS hc D
   go_roundw
   case rel => exact ⟨i + 1, v', by omega, i64e (by omega), hF7, hT7, hS7⟩
   case measure => simp [intOf]; omega
  ·obtain rfl : i = 2 := by omega
   obtain ⟨ok0, oi0, ok1, oi1, hrow, hnd, hTW, hK0, hI0, hK1, hI1, k1, k2, k3, k4, k5, k6, k7, k8, k9, k10⟩ := hS.out
   have hrow' := Lib.hid hrow
   have hnd' := Lib.hid hnd
   have hTW' := Lib.hid hTW
   have hK0' := Lib.hid hK0
   have hI0' := Lib.hid hI0
   have hK1' := Lib.hid hK1
   have hI1' := Lib.hid hI1
   clear hrow hnd hTW hK0 hI0 hK1 hI1 hS
   have hv0 : ∀ b, b < rb → (Value.slice (some ⟨rb, 0, none⟩) n cb).ownBlock ≠ some b := fun b hb e => by
    have := Option.some.inj e
    have : rb = b := this
    omega
   have h4r := Lib.hid (hF.out.arr h4w.out (by omega) (by omega) (hv0 gb (by omega)))
   have h5r := Lib.hid (hF.out.arr h5w.out (by omega) (by omega) (hv0 b5 (by omega)))
   have h7r := Lib.hid (hF.out.arr h7w.out (by omega) (by omega) (hv0 b7 (by omega)))
   have h8r := Lib.hid (hF.out.arr h8w.out (by omega) (by omega) (hv0 b8 (by omega)))
   have hSr := Lib.hid (hF.out.arr hSw.out (by omega) (by omega) (hv0 b11 (by omega)))
   have h15r := Lib.hid (hF.out.arr h15w.out (by omega) (by omega) (fun e => by have := Option.some.inj e; have : rb = b15 := this; omega))
   have hBl : Below gb w4 wr := hF.out.below (by omega) (by omega) (fun b e => by have := Option.some.inj e; have : rb = b := this; omega) (by omega)
   have HGr := Lib.hid (HGw.out.below hBl (Nat.le_refl _))
   have HVr := Lib.hid (HVw.out.below hBl (Nat.le_refl _))
   have HLr := Lib.hid (HLw.out.below hBl (fun ad e => by have := Option.some.inj e; subst this; exact oL))
   have HBr := Lib.hid (HBw.out.trans hBl)
   have HAr := Lib.hid (HA.out.below HGB.out HBr.out)
   obtain ⟨rt, ct, hvt, _, _⟩ := own_some hrow'.out (by omega)
   subst hvt
   have hlen0 : Hid (ncs0.length = n * 5) := by have := hnd'.out.1; rw [HN.out] at this; exact this
   have hz1 : tw < wr.heap.size := hTW'.out.lt
   clear h4w h5w h7w h8w hSw h15w HGw HVw HAw HLw HBw hBl hv0
   obtain ⟨nd0, hnd0⟩ : ∃ x, ndAt N x0 = x := ⟨_, rfl⟩
   obtain ⟨nd1, hnd1⟩ : ∃ x, ndAt N x1 = x := ⟨_, rfl⟩
   have HD0 := Lib.hid hnd0
   have HD1 := Lib.hid hnd1
   have hi0l := HC.out.hi0
   have hi1l := HC.out.hi1
   have hl0 := (HC.out.nl x0 HC.out.hx0).2
   have hl1 := (HC.out.nl x1 HC.out.hx1).2
   rw [hnd0] at hrow' hK0' hI0' hi0l hl0
   rw [hnd1] at hrow' hK1' hI1' hi1l hl1
   clear hnd0 hnd1
   obtain ⟨wq, hwq⟩ : ∃ x, x = wr := ⟨_, rfl⟩
   subst hwq
   go_upto_region 13 with (fail)
   have hst0 : Hid (wq.grownBy wq (some oi0)) := World.grownBy.refl _ _
   have hits0 : Hid (ItS 0 nd0.items nd0.items (nd0.items.set i0 ((n + 1 : Nat) : Int))) := ⟨fun _ => rfl, fun h => by omega⟩
   go_loopw [57] (fun u wx => ∃ (j : Nat) (its : List Int), j ≤ 1 ∧ u = .int .i64 (j : Int) ∧ Hid (wq.grownBy wx (some oi0)) ∧ Hid (Arr wx oi0 3 (I64 its)) ∧ Hid (ItS j its nd0.items (nd0.items.set i0 ((n + 1 : Nat) : Int)))) (fun u _ => 1 - (intOf u).toNat)
   case atStart => exact ⟨0, _, by omega, rfl, hst0, hI0', hits0⟩
   case round =>
    obtain ⟨j, its, hj, rfl, hG, hIt, hits⟩ := hrel
    clear hst0 hits0
    have hTx := Lib.hid (hT.out.grown hG.out (some_ne (show tb ≠ oi0 by omega)))
    have h4x := Lib.hid (h4r.out.grown hG.out (some_ne (show gb ≠ oi0 by omega)))
    have h5x := Lib.hid (h5r.out.grown hG.out (some_ne (show b5 ≠ oi0 by omega)))
    have h7x := Lib.hid (h7r.out.grown hG.out (some_ne (show b7 ≠ oi0 by omega)))
    have h8x := Lib.hid (h8r.out.grown hG.out (some_ne (show b8 ≠ oi0 by omega)))
    have hSx := Lib.hid (hSr.out.grown hG.out (some_ne (show b11 ≠ oi0 by omega)))
    have h15x := Lib.hid (h15r.out.grown hG.out (some_ne (show b15 ≠ oi0 by omega)))
    have hTWx := Lib.hid (hTW'.out.grown hG.out (some_ne (show tw ≠ oi0 by omega)))
    have hK0x := Lib.hid (hK0'.out.grown hG.out (some_ne (show ok0 ≠ oi0 by omega)))
    have hK1x := Lib.hid (hK1'.out.grown hG.out (some_ne (show ok1 ≠ oi0 by omega)))
    have hI1x := Lib.hid (hI1'.out.grown hG.out (some_ne (show oi1 ≠ oi0 by omega)))
    have hBg : Below gb wq wr := below_of_grown hG.out (by omega) (fun k e => by have := Option.some.inj e; omega)
    have hRx : Hid (wr.ownsRow gb 34 5 (.slice (some ⟨rt, 0, none⟩) (n + 2) ct) (n + 2) (ncs0 ++ nodeC nd0 ok0 oi0 ++ nodeC nd1 ok1 oi1)) := own_same hrow'.out fun b hb => hG.out.block b (hrow'.out.lt b hb).2 (fun e => by
     have e := Option.some.inj e
     subst e
     obtain ⟨C, fz, hk⟩ := own_kind hrow'.out hb
     exact absurd (cells_kind hI0'.out hk) (by decide))
    have hNx : Hid (NodesRd wr (fun b => gb ≤ b ∧ b < tb) ncs0 N) := hnd'.out.over fun b hb hF' _ => ⟨hG.out.block b hb (some_ne (show b ≠ oi0 by omega)), hF'⟩
    have HGx := Lib.hid (HGr.out.below hBg (Nat.le_refl _))
    have HVx := Lib.hid (HVr.out.below hBg (Nat.le_refl _))
    have HBx := Lib.hid (HBr.out.trans hBg)
    have HAx := Lib.hid (HA.out.below HGB.out HBx.out)
    have HLx := Lib.hid (HLr.out.below hBg (fun ad e => by have := Option.some.inj e; subst this; exact oL))
    have hzx : wq.heap.size ≤ wr.heap.size := hG.out.size
    clear hBg
    by_cases hj1 : j < 1
    ·obtain rfl : j = 0 := by omega
     have hie : its = nd0.items := hits.out.1 rfl
     subst hie
     have hcell : ∀ q u, (nodeC nd0 ok0 oi0 ++ nodeC nd1 ok1 oi1)[q]? = some u → wr.cell? ⟨rt, n * 5 + q, none⟩ = some u := fun q u h => (own_cell1 hRx.out (i := n * 5 + q) (by rw [List.append_assoc, List.getElem?_append_right (by rw [hlen0.out]; omega), hlen0.out, Nat.add_sub_cancel_left]; exact h)).1
     have d0 : wr.cell? ⟨rt, n * 5, none⟩ = some (.int .i64 nd0.kind) := hcell 0 _ rfl
     have d1 := hcell 1 _ rfl
     have d2 := hcell 2 _ rfl
     have d3 := hcell 3 _ rfl
     have d4 := hcell 4 _ rfl
     have t0 := hTx.out.cell' (i := 0) rfl
     have w0 := hTWx.out.cell' (i := 0) rfl
     have hn2 : (n : Int) < (n : Int) + 2 := by omega
     have hn00 : (0 : Int) ≤ n := by omega
     clear hcell
     have hbn : Below wr.heap.size wr (wr.alloc (.cells #[.int .i64 nd0.kind, .string (mks nd0.text), .bool nd0.ord, .slice (some ⟨ok0, 0, none⟩) nd0.keys.length nd0.keys.length, .slice (some ⟨oi0, 0, none⟩) nd0.items.length nd0.items.length] 34)).drew := ((Below.refl _ _).alloc (Nat.le_refl _) _).drew
     have hNB : Hid (Arr (wr.alloc (.cells #[.int .i64 nd0.kind, .string (mks nd0.text), .bool nd0.ord, .slice (some ⟨ok0, 0, none⟩) nd0.keys.length nd0.keys.length, .slice (some ⟨oi0, 0, none⟩) nd0.items.length nd0.items.length] 34)).drew wr.heap.size 34 [.int .i64 nd0.kind, .string (mks nd0.text), .bool nd0.ord, .slice (some ⟨ok0, 0, none⟩) nd0.keys.length nd0.keys.length, .slice (some ⟨oi0, 0, none⟩) nd0.items.length nd0.items.length]) := Arr.new wr _ _
     have e1 := World.new_ne wr _ d0
     have e2 := World.new_ne wr _ t0
     have e3 := World.new_ne wr _ w0
     go_upto_region 15 with (fail)
     go_region_held3 (fun w' => w'.cell? ⟨tb, 0, none⟩ = some (.slice (some ⟨rt, 0, none⟩) (n + 2) ct) ∧ w'.cell? ⟨tw, 0, none⟩ = some (.int .i64 (n : Int)) ∧ w'.cell? ⟨rt, n * 5, none⟩ = some (.int .i64 nd0.kind) ∧ w'.cell? ⟨rt, n * 5 + 1, none⟩ = some (.string (mks nd0.text)) ∧ w'.cell? ⟨rt, n * 5 + 2, none⟩ = some (.bool nd0.ord) ∧ w'.cell? ⟨rt, n * 5 + 3, none⟩ = some (.slice (some ⟨ok0, 0, none⟩) nd0.keys.length nd0.keys.length) ∧ w'.cell? ⟨rt, n * 5 + 4, none⟩ = some (.slice (some ⟨oi0, 0, none⟩) nd0.items.length nd0.items.length))
      (first | exact ⟨t0, w0, d0, d1, d2, d3, d4⟩ | go_keep) (fail)
     clear d0 d1 d2 d3 d4 t0 w0 e1 e2 e3
     have hTy := Lib.hid (hTx.out.keep hbn)
     have h4y := Lib.hid (h4x.out.keep hbn)
     have h5y := Lib.hid (h5x.out.keep hbn)
     have hTWy := Lib.hid (hTWx.out.keep hbn)
     have hIty := Lib.hid (hIt.out.keep hbn)
     have HGy := Lib.hid (HGx.out.below hbn HGx.out.2.1)
     have HAy := Lib.hid (HAx.out.keep hbn)
     have HLy := Lib.hid (HLx.out.keep hbn)
     have hzy : wr.heap.size ≤ ((wr.alloc (.cells #[.int .i64 nd0.kind, .string (mks nd0.text), .bool nd0.ord, .slice (some ⟨ok0, 0, none⟩) nd0.keys.length nd0.keys.length, .slice (some ⟨oi0, 0, none⟩) nd0.items.length nd0.items.length] 34)).drew).heap.size := hbn.size
     obtain ⟨nb, hnb⟩ : ∃ x, wr.heap.size = x := ⟨_, rfl⟩
     have HNB := Lib.hid hnb
     have HBN := Lib.hid hbn
     generalize ((wr.alloc (.cells #[.int .i64 nd0.kind, .string (mks nd0.text), .bool nd0.ord, .slice (some ⟨ok0, 0, none⟩) nd0.keys.length nd0.keys.length, .slice (some ⟨oi0, 0, none⟩) nd0.items.length nd0.items.length] 34)).drew) = w7 at *
     rw [hnb] at hNB ⊢
     clear hnb hbn
     obtain ⟨z, hz⟩ : ∃ x, w7.heap.size = x := ⟨_, rfl⟩
     have HZ := Lib.hid hz
     have hnz : nb < z := by have := hNB.out.lt; omega
     have hoz : oi0 < nb := by have := hIt.out.lt; have := HNB.out; omega
     have hS0 : Kx z oi0 w7 w7.drew := (Kx.refl oi0 (Nat.le_of_eq hz.symm)).drew
     have DP := Lib.hid (fun (w' : World) (h : Kx z oi0 w7 w') => place_any (c := c) (root := (r : Int)) (idx := i0) HC.out.nl HC.out.len HC.out.hx0 HC.out.k9 (by omega) w' (h.grd HGy.out (by omega) (by omega)))
     have hif : i0 < (ndAt N x0).items.length := HC.out.hi0
     rw [if_pos hif, HN.out] at DP
     obtain ⟨_, adq, hadq, p0, p1⟩ := HAy.out 0 _ (ixP_get (idxs := [i0, i1]) (i := 0) (by simp))
     obtain rfl := Option.some.inj hadq
     obtain ⟨adl, hadl, l0⟩ := HLy.out 0 _ rfl
     obtain rfl := Option.some.inj hadl
     have oA : adp.block < gb := by have h := HA.out 0 _ (ixP_get (idxs := [i0, i1]) (i := 0) (by simp)); obtain ⟨_, ad, e, q0, _⟩ := h; obtain rfl := Option.some.inj e; have := block_lt_of_cell q0; rw [blk_add] at this; have := HGB.out; omega
     have r1 : ∀ w', Kx z oi0 w7 w' → w'.cell? ⟨nb, 4, none⟩ = some (.slice (some ⟨oi0, 0, none⟩) nd0.items.length nd0.items.length) := fun w' h => h.cell (hNB.out.cell' (i := 4) rfl) hnz (by show nb ≠ oi0; omega)
     have r2 : ∀ w', Kx z oi0 w7 w' → w'.cell? ⟨gb, 0, none⟩ = some (.slice (some ⟨g, o, none⟩) n c) := fun w' h => h.cell (h4y.out.cell' (i := 0) rfl) (by show gb < z; omega) (by show gb ≠ oi0; omega)
     have r3 : ∀ w', Kx z oi0 w7 w' → w'.cell? ⟨gb, 1, none⟩ = some (.int .i64 (r : Int)) := fun w' h => h.cell (h4y.out.cell' (i := 1) rfl) (by show gb < z; omega) (by show gb ≠ oi0; omega)
     have r4 : ∀ w', Kx z oi0 w7 w' → w'.cell? adL = some (.int .i64 (x0 : Int)) := fun w' h => h.cell l0 (by omega) (by omega)
     have r5 : ∀ w', Kx z oi0 w7 w' → w'.cell? ⟨b5, 1, none⟩ = some (.slice (some adp) 2 cp) := fun w' h => h.cell (h5y.out.cell' (i := 1) rfl) (by show b5 < z; omega) (by show b5 ≠ oi0; omega)
     have r6 : ∀ w', Kx z oi0 w7 w' → w'.cell? adp = some (.int .i64 (i0 : Int)) := fun w' h => h.cell p0 (by omega) (by omega)
     have r7 : ∀ w', Kx z oi0 w7 w' → w'.cell? ⟨adp.block, adp.off + 1, none⟩ = some (.string (mks [])) := fun w' h => h.cell p1 (by show adp.block < z; omega) (by show adp.block ≠ oi0; omega)
     have r8 : ∀ w', Kx z oi0 w7 w' → w'.cell? ⟨tw, 1, none⟩ = some (.int .i64 ((n + 1 : Nat) : Int)) := fun w' h => h.cell (hTWy.out.cell' (i := 1) rfl) (by show tw < z; omega) (by show tw ≠ oi0; omega)
     obtain ⟨y, hy⟩ : ∃ y, nd0.items[i0]? = some y := ⟨_, List.getElem?_eq_getElem hi0l⟩
     have cy := hIty.out.cell' (I64_get hy)
     have fy := hIty.out.frozen i0
     have hi0' : (i0 : Int) < nd0.items.length := by omega
     have hi00 : (0 : Int) ≤ i0 := by omega
     clear p0 p1 l0 hadq hadl hz hif
     have hw1 : IntKind.i64.wrap 1 = 1 := rfl
     go_upto_region 16 with (fail)
     go_region_held3 (fun w' => Kx z oi0 w7 w') (first | assumption | exact Kx.set (by assumption) _)
      (first | (go_at_call 28; ((with_reducible refine (DP.out _ (by first | assumption)).mono ?_)); rintro e w9 ⟨rfl, hb9⟩; have hS9 : Kx z oi0 w7 w9 := Kx.below (by first | assumption) hb9 (by first | exact Nat.le_of_eq HZ.out.symm | assumption); have hq9 := (hb9.cell (block_lt_of_cell cy)).trans cy; have hf9 := (hb9.frozen (p := ⟨oi0, i0, none⟩) (block_lt_of_cell cy)).trans fy))
     clear r1 r2 r3 r4 r5 r6 r7 r8 hw1
     have hb7 : Below w7.heap.size w7 w9 := (Below.refl _ _).drew.trans hb9
     have hIt9 : Hid (Arr (w9.setCell ⟨oi0, i0, none⟩ (.int .i64 ((n + 1 : Nat) : Int))) oi0 3 (I64 (nd0.items.set i0 ((n + 1 : Nat) : Int)))) := by
      have h := (hIty.out.keep hb7).store i0 (.int .i64 ((n + 1 : Nat) : Int))
      rw [I64_set] at h
      exact h
     have hG9 : Hid (wq.grownBy (w9.setCell ⟨oi0, i0, none⟩ (.int .i64 ((n + 1 : Nat) : Int))) (some oi0)) := by
      have h1 : wr.grownBy w7 (some oi0) := ⟨HBN.out.os, HBN.out.tape, HBN.out.output, HBN.out.size, fun b hb _ => HBN.out.block b (by have := HNB.out; omega)⟩
      have h2 : w7.grownBy w9 (some oi0) := ⟨hb7.os, hb7.tape, hb7.output, hb7.size, fun b hb _ => hb7.block b hb⟩
      exact grown_trans hG.out (grown_trans h1 (grown_trans h2 (grown_set w9 ⟨oi0, i0, none⟩ _)))
     have hits9 : Hid (ItS 1 (nd0.items.set i0 ((n + 1 : Nat) : Int)) nd0.items (nd0.items.set i0 ((n + 1 : Nat) : Int))) := ⟨fun h => absurd h (by decide), fun _ => rfl⟩
     clear hIty hb7 hb9 hS9 hq9 hf9 HBN hG hIt hits cy fy hy DP
     go_wp2_with (fail)
     go_roundw
     case rel =>
      (repeat apply Exists.intro)
      exact ⟨⟨1, _, by omega, rfl, hG9, hIt9, hits9⟩, rfl⟩
     case measure => simp [intOf]
    ·obtain rfl : j = 1 := by omega
     have hie : its = nd0.items.set i0 ((n + 1 : Nat) : Int) := hits.out.2 rfl
     subst hie
     have hbE : Below wr.heap.size wr (wr.alloc (.cells #[.int .i64 ((n + 1 : Nat) : Int)] 3)) := (Below.refl _ _).alloc (Nat.le_refl _) _
     have h21 := Lib.hid (Arr.new wr 3 [.int .i64 ((n + 1 : Nat) : Int)])
     have w0 := hTWx.out.cell' (i := 0) rfl
     have w1 := hTWx.out.cell' (i := 1) rfl
     clear hits hG
     go_upto_region 19 with (fail)
     clear w0 w1
     obtain ⟨wa, hwa⟩ : ∃ x, x = wr.alloc (.cells #[.int .i64 ((n : Int) + 1)] 3) := ⟨_, rfl⟩
     have hwa' : wa = wr.alloc (.cells #[.int .i64 ((n + 1 : Nat) : Int)] 3) := hwa
     rw [← hwa]
     rw [← hwa'] at hbE h21
     have hs21 : wa.heap.size = wr.heap.size + 1 := by rw [hwa]; simp
     obtain ⟨b21, hb21⟩ : ∃ x, wr.heap.size = x := ⟨_, rfl⟩
     have HB21 := Lib.hid hb21
     obtain ⟨wb, wc, wd, we, hm0, hm1, hm2, hm3, hmb, hms, hml⟩ := map_three (P := Tryz.prog) wa 100 3 1 Tryz.underlying100 Tryz.underlying3 (.func (.func 55) #[] #[.pointer (some ⟨b15, 0, none⟩), .pointer (some ⟨b5, 0, none⟩), .pointer (some ⟨tb, 0, none⟩), .pointer (some ⟨b21, 0, none⟩), .pointer (some ⟨b7, 0, none⟩)])
      (.func (.func 56) #[] #[.pointer (some ⟨b11, 0, none⟩), .pointer (some ⟨tb, 0, none⟩), .pointer (some ⟨b21, 0, none⟩), .pointer (some ⟨b15, 0, none⟩), .pointer (some ⟨b5, 0, none⟩)]) (.func (.func 58) #[] #[.pointer (some ⟨b11, 0, none⟩), .pointer (some ⟨tb, 0, none⟩), .pointer (some ⟨b21, 0, none⟩), .pointer (some ⟨b7, 0, none⟩)])
     have hbD := hbE.trans (hmb.mono hbE.size)
     have hTe := Lib.hid (hTx.out.keep hbD)
     have h5e := Lib.hid (h5x.out.keep hbD)
     have h7e := Lib.hid (h7x.out.keep hbD)
     have h8e := Lib.hid (h8x.out.keep hbD)
     have h15e := Lib.hid (h15x.out.keep hbD)
     have hTWe := Lib.hid (hTWx.out.keep hbD)
     have hK0e := Lib.hid (hK0x.out.keep hbD)
     have hK1e := Lib.hid (hK1x.out.keep hbD)
     have hI1e := Lib.hid (hI1x.out.keep hbD)
     have hIte := Lib.hid (hIt.out.keep hbD)
     have h21e := Lib.hid (h21.out.keep hmb)
     have hRe := Lib.hid (own_below hRx.out hbD)
     have hgx := h4x.out.lt
     have hoi1l := hI1x.out.lt
     have hb7l := h7x.out.lt
     have hNe : Hid (NodesRd we (fun b => gb ≤ b ∧ b < tb) ncs0 N) := hNx.out.over fun b hb hF' _ => ⟨hbD.block b hb, hF'⟩
     have HVe := Lib.hid (HVx.out.below hbD (Nat.le_of_lt hgx))
     have HBe := Lib.hid (HBx.out.trans (hbD.mono (Nat.le_of_lt hgx)))
     obtain ⟨mp, hmp⟩ : ∃ x, wa.heap.size = x := ⟨_, rfl⟩
     rw [hmp] at hm0 hm1 hm2 hm3 hml hms
     rw [hb21] at h21e ⊢
     clear hTx h4x h5x h7x h8x hSx h15x hTWx hK0x hIt hK1x hI1x hRx hNx HGx HVx HBx HAx HLx hwa hwa' hs21 h21 hbE hmb hbD hmp hb21
     go_upto_region 20 with (fail)
     have hzw : gb ≤ we.heap.size := by have := h8e.out.lt; omega
     have hcl : (ncs0 ++ nodeC nd0 ok0 oi0 ++ nodeC nd1 ok1 oi1)[(n + 1) * 5 + 4]? = some (.slice (some ⟨oi1, 0, none⟩) nd1.items.length nd1.items.length) := by
      rw [List.append_assoc, List.getElem?_append_right (by rw [hlen0.out]; omega), hlen0.out, show (n + 1) * 5 + 4 - n * 5 = 9 by omega]
      rfl
     have DS := Lib.hid (setop_any (c := cv) (op := 1) (P := .slice (some adp) 2 cp) HC.out.mnl HC.out.mlen (show n + 2 ≤ 65536 by omega) HC.out.midx HC.out.mrt we hTe.out (show gb ≤ tb by omega) hRe.out HVe.out h15e.out (by rw [HM.out]; exact h5e.out) h21e.out h7e.out (show n + 1 < n + 2 by omega) hcl hi1l hl1 hI1e.out rfl (by omega) (by omega) (by have := HB21.out; omega) (by omega))
     have c50 := h5e.out.cell' (i := 0) rfl
     go_upto_region 21 with (go_at_call 55; ((with_reducible refine DS.out.mono ?_)); rintro e w6 ⟨rfl, v6, ncs6, hT6, hrow6, hnd6, hI6, hF6⟩; rw [HM.out] at hrow6; obtain ⟨rt6, ct6, hv6, _, _⟩ := own_some hrow6 (by omega); subst hv6)
     clear c50 DS hcl hm0 hm1 hm2 hm3 hml
     have hrk : ∀ {b : Nat} {t : TypeId} {xs : List Value}, Arr we b t xs → t ≠ 34 → (Value.slice (some ⟨rt, 0, none⟩) (n + 2) ct).ownBlock ≠ some b := fun ha ht e => by
      obtain ⟨C, fz, hk⟩ := own_kind hRe.out e
      exact ht (cells_kind ha hk)
     have hTW6 := Lib.hid (hF6.arr hTWe.out (show tw ≠ tb by omega) (show tw ≠ oi1 by omega) (hrk hTWe.out (by decide)))
     have h86 := Lib.hid (hF6.arr h8e.out (show b8 ≠ tb by omega) (show b8 ≠ oi1 by omega) (hrk h8e.out (by decide)))
     have hK06 := Lib.hid (hF6.arr hK0e.out (show ok0 ≠ tb by omega) (show ok0 ≠ oi1 by omega) (hrk hK0e.out (by decide)))
     have hI06 := Lib.hid (hF6.arr hIte.out (show oi0 ≠ tb by omega) (show oi0 ≠ oi1 by omega) (hrk hIte.out (by decide)))
     have hK16 := Lib.hid (hF6.arr hK1e.out (show ok1 ≠ tb by omega) k6 (hrk hK1e.out (by decide)))
     have hB6 : Hid (Below gb w w6) := HBe.out.trans (hF6.below (by omega) (by omega) (fun b e => (hRe.out.lt b e).1) hzw)
     have hN6 : NodesRd w6 (fun _ => True) ncs0 N := hNe.out.over fun b hb hF' hk => ⟨hF6.block b hb (by omega) (by omega) (fun e => by
      obtain ⟨C, fz, hk'⟩ := hk
      obtain ⟨C2, fz2, hk2⟩ := own_kind hRe.out e
      rw [hk'] at hk2
      have := Option.some.inj hk2
      injection this with _ ht
      exact absurd ht (by decide)), trivial⟩
     have hE0 : nodeC { nd0 with items := nd0.items.set i0 ((n + 1 : Nat) : Int) } ok0 oi0 = nodeC nd0 ok0 oi0 := by simp [nodeC]
     have hE1 : nodeC { nd1 with items := nd1.items.set i1 ((rM : Int) + ((n + 2 : Nat) : Int)) } ok1 oi1 = nodeC nd1 ok1 oi1 := by simp [nodeC]
     have hND : NodesRd w6 (fun _ => True) (ncs0 ++ nodeC nd0 ok0 oi0 ++ nodeC nd1 ok1 oi1 ++ ncs6) (tabC N M rM x0 x1 i0 i1) := by
      rw [← hE0, ← hE1]
      unfold tabC
      rw [HD0.out, HD1.out, HN.out]
      exact ((hN6.app (nodeC_rd (nd := { nd0 with items := nd0.items.set i0 ((n + 1 : Nat) : Int) }) hK06.out hI06.out trivial trivial)).app (nodeC_rd (nd := { nd1 with items := nd1.items.set i1 ((rM : Int) + ((n + 2 : Nat) : Int)) }) hK16.out hI6 trivial trivial)).app (hnd6.over fun _ _ _ _ => ⟨rfl, trivial⟩)
     have hTL : (tabC N M rM x0 x1 i0 i1).length = n + 2 + m := by
      unfold tabC
      simp only [List.length_append, List.length_map, List.length_cons, List.length_nil]
      rw [HN.out, HM.out]
     have hGT : Hid (GRd w6 w6.heap.size rt6 0 (tabC N M rM x0 x1 i0 i1)) := grd_own (B := gb) (c := ct6) (by rw [hTL]; exact hrow6) hND
     have hW6 := Lib.hid (HW.out.keep (by rw [HGB.out]; exact hB6.out))
     have D3 := Lib.hid (fun (w' : World) (h : LibE w') (h' : GRd w' w6.heap.size rt6 0 (tabC N M rM x0 x1 i0 i1)) => cnormal_any (c := ct6) HC.out.nc w' h h')
     rw [hTL, HN.out] at D3
     have t6 := hT6.cell' (i := 0) rfl
     have w60 := hTW6.out.cell' (i := 0) rfl
     have hg6 : gb ≤ w6.heap.size := by have := h86.out.lt; omega
     clear hrk hN6 hE0 hE1 hND hTL hF6 hnd6 hrow6 hT6 hI6 hTe h5e h7e h8e h15e hTWe hK0e hK1e hI1e hIte h21e hRe hNe HVe HBe hTW6 hK06 hI06 hK16
     go_upto_region 23 with (fail)
     clear w60
     go_upto_region 24 with (go_at_call 60; ((with_reducible refine (D3.out _ hW6.out hGT.out).mono ?_)); rintro e w9 ⟨om, ncs9, rfl, hb9, hom9, hA9, hN9, hl9⟩; have hR9 := Lib.hid (h86.out.keep hb9); have c0 := hR9.out.cell' (i := 0) rfl; have c1 := hR9.out.cell' (i := 1) rfl; have f0 := hR9.out.frozen 0; have f1 := hR9.out.frozen 1)
     obtain ⟨q, hq⟩ : ∃ q, l.length = q := ⟨_, rfl⟩
     have HQ := Lib.hid hq
     rw [hq] at hl9 ⊢
     clear hq
     have hRF := Lib.hid ((hR9.out.store 0 (.slice (some ⟨om, 0, none⟩) q q)).store 1 (.int .i64 0))
     have hB9 := Lib.hid (hB6.out.trans (hb9.mono hg6))
     have hBF := Lib.hid ((hB9.out.setCell (p := ⟨b8, 0, none⟩) (by show gb ≤ b8; omega) (.slice (some ⟨om, 0, none⟩) q q)).setCell (p := ⟨b8, 1, none⟩) (by show gb ≤ b8; omega) (.int .i64 0))
     have hgw : w9.grownBy ((w9.setCell ⟨b8, 0, none⟩ (.slice (some ⟨om, 0, none⟩) q q)).setCell ⟨b8, 1, none⟩ (.int .i64 0)) (some b8) := grown_trans (grown_set w9 ⟨b8, 0, none⟩ _) (grown_set _ ⟨b8, 1, none⟩ _)
     generalize (w9.setCell ⟨b8, 0, none⟩ (.slice (some ⟨om, 0, none⟩) q q)).setCell ⟨b8, 1, none⟩ (.int .i64 0) = wf at *
     have hb8l : b8 < w6.heap.size := h86.out.lt
     have hA10 : Arr wf om 34 ncs9 := Arr.grown hA9 hgw (some_ne (by omega))
     have hN10 := hN9.over (w' := wf) (F' := fun _ => True) (fun b hb _ hc => ⟨hgw.block b hb (fun e => by
      obtain ⟨C, fz, hc⟩ := hc
      have e := Option.some.inj e
      subst e
      exact absurd (cells_kind hR9.out hc) (by decide)), trivial⟩)
     have hsz : (Tryz.prog.info? 26).map (·.size) = some 2 := by kernel_rfl
     exact bodyPost_ret (results_row_tmp Tryz.results34 _ _ _ _ #[.slice (some ⟨om, 0, none⟩) q q, .int .i64 0] (0, 0) _ _ rfl rfl hRF.out Tryz.underlying26 rfl hsz) rfl ⟨om, ncs9, rfl, by rw [HGB.out]; exact hBF.out, by have := HGB.out; omega, hA10, hN10, hl9⟩
end Go.Proofs.YtoppncpmfajbcaaGreatDoor
