/- The walk of the closure 'visit' in graph's components: the search at a node. -/
import Derived.Test.YtnnnagnjikdnnaaGreatDoorMAo
import Derived.Test.YtnnnagnjikdnnaaGreatDoorMAf
import Derived.Deep.RegionHeld3
import Derived.Test.YtnnnagnjikdnnaaGreatDoorMAg
import Derived.Orders
set_option linter.unusedVariables false
set_option linter.unusedSimpArgs false
set_option linter.defProp false
set_option linter.constructorNameAsVariable false
namespace Go.Proofs.YtnnnagnjikdnnaaGreatDoor
open Go.RowKit
section
variable {w w':World} {B g o c:Nat} {nodes:List GNode} {root:Int} {F:Nat→Prop} {e:TB} {vs vz:Value} {s:TS}
theorem TE.two (h:TE w B g o c nodes root F e vs vz s) (k:Nat) (v:Int) :
  Hid (TE ((w.setCell ⟨e.im,k,none⟩ (.int .i64 v)).setCell ⟨e.lm,k,none⟩ (.int .i64 v)).drew B g o c nodes root F e vs vz { s with index:=sI s.index (k:Int) v,low:=sI s.low (k:Int) v }∧PStep w ((w.setCell ⟨e.im,k,none⟩ (.int .i64 v)).setCell ⟨e.lm,k,none⟩ (.int .i64 v)).drew F F) ∧
  Hid (TE ((w.setCell ⟨e.lm,k,none⟩ (.int .i64 v)).setCell ⟨e.im,k,none⟩ (.int .i64 v)).drew B g o c nodes root F e vs vz { s with index:=sI s.index (k:Int) v,low:=sI s.low (k:Int) v }∧PStep w ((w.setCell ⟨e.lm,k,none⟩ (.int .i64 v)).setCell ⟨e.im,k,none⟩ (.int .i64 v)).drew F F):=by
 have st:∀(W:World) (b:Nat) (l:List Int),Arr W b 3 (I64 l)→Arr (W.setCell ⟨b,k,none⟩ (.int .i64 v)) b 3 (I64 (sI l (k:Int) v)):=fun W b l hA=>by
  have:=hA.store k (.int .i64 v)
  rw [I64_set] at this
  rw [sI_nat]
  exact this
 have hd:∀W:World,Below W.heap.size W W.drew:=fun W=>(Below.refl _ _).drew
 constructor
 ·have g1:=grown_set w ⟨e.im,k,none⟩ (.int .i64 v)
  have h1:=h.set_im (sI s.index (k:Int) v) g1 (st _ _ _ h.im)
  have g2:=grown_set (w.setCell ⟨e.im,k,none⟩ (.int .i64 v)) ⟨e.lm,k,none⟩ (.int .i64 v)
  have h2:=h1.set_lm (sI s.low (k:Int) v) g2 (st _ _ _ h1.lm)
  exact⟨h2.kept (hd _),((pstep_grown g1 h.fw.2.1).trans (pstep_grown g2 h.fw.2.2.1)).trans (PStep.of_below (hd _))⟩
 ·have g1:=grown_set w ⟨e.lm,k,none⟩ (.int .i64 v)
  have h1:=h.set_lm (sI s.low (k:Int) v) g1 (st _ _ _ h.lm)
  have g2:=grown_set (w.setCell ⟨e.lm,k,none⟩ (.int .i64 v)) ⟨e.im,k,none⟩ (.int .i64 v)
  have h2:=h1.set_im (sI s.index (k:Int) v) g2 (st _ _ _ h1.im)
  exact⟨h2.kept (hd _),((pstep_grown g1 h.fw.2.2.1).trans (pstep_grown g2 h.fw.2.1)).trans (PStep.of_below (hd _))⟩
end
theorem PStep.cell {w w':World} {F F':Nat→Prop} (h:PStep w w' F F') {a:Addr} {u:Value} (hc:w.cell? a=some u) (ha:¬F a.block):w'.cell? a=some u:=by
 rw [←hc]
 exact World.cell?_of_block (h.keep a.block (block_lt_of_cell hc) ha)
theorem PStep.rd {w w':World} {F F':Nat→Prop} (h:PStep w w' F F') {A:Option Addr} {xs:List Value} (hr:Rd w A xs) (hA:∀ad,A=some ad→¬F ad.block):Rd w' A xs:=fun j u hj=>by
 obtain⟨ad,e,hc⟩:=hr j u hj
 exact⟨ad,e,h.cell hc (by rw [blk_add];exact hA ad e)⟩
set_option maxRecDepth 100000 in
set_option maxHeartbeats 8000000 in
theorem visitT_any {B g o c:Nat} {nodes:List GNode} {root:Int} {e:TB} (hI:Idx nodes) (hL:NL 65536 nodes) (hN:nodes.length≤65536) (f:Nat):VisT B g o c nodes root e f:=by
 induction f with
 | zero=>intro k w F vs vz s s' h;cases h
 | succ f ih=>
  intro k w F vs vz s s' h hk h0 hT hE
  rw [visitT,Int.toNat_natCast] at h
  obtain⟨hT0,hnx⟩:=hT.push ⟨by omega,by omega⟩ h0
  have hk0:(0:Int)≤k:=by omega
  have hk1:(k:Int)<nodes.length:=by omega
  have hA0:Hid (Arr (w.alloc (.cells #[.int .i64 (k:Int)] 3)) w.heap.size 3 [.int .i64 (k:Int)]):=Arr.new w _ _
  have hb0:Hid (Below w.heap.size w (w.alloc (.cells #[.int .i64 (k:Int)] 3))):=(Below.refl _ _).alloc (Nat.le_refl _) _
  have hE0:=Lib.hid (hE.kept hb0.out)
  have hP0:=Lib.hid (PStep.of_below (F:=F) hb0.out)
  have hab:¬F w.heap.size:=fun hF=>by have:=hE.hi _ hF;omega
  have hmf:∀(fn:Fn) (first cap:Array Value) (w:World),(Instr.makeFunc fn first cap).run Tryz.prog w=.ok (.func fn first cap) w:=fun _ _ _ _=>rfl
  have HH:=Lib.hid h
  clear h hE
  go_enter Tryz.func116,Tryz.ntmps116
  go_upto_region 1 with(fail)
  generalize (w.alloc (.cells #[.int .i64 (k:Int)] 3))=w0 at *
  obtain⟨ab,hab0⟩:∃b,w.heap.size=b:=⟨_,rfl⟩
  rw [hab0] at hA0 hab hb0 ⊢
  clear hab0 hb0
  have x0:=hE0.out.nx.cell' (i:=0) rfl
  have xf:=hE0.out.nx.frozen 0
  have hE1:Hid (TE (w0.setCell ⟨e.nx,0,none⟩ (.int .i64 ((s.nx:Int)+1))) B g o c nodes root F e vs vz { s with nx:=s.nx+1 }):=
   hE0.out.set_nx (s.nx+1) (grown_set w0 ⟨e.nx,0,none⟩ _) (hE0.out.nx.store 0 _)
  have hP1:=Lib.hid (hP0.out.trans (pstep_grown (grown_set w0 ⟨e.nx,0,none⟩ (.int .i64 ((s.nx:Int)+1))) hE0.out.fw.1))
  have hA1:=Lib.hid (hA0.out.far (p:=⟨e.nx,0,none⟩) (show ab≠e.nx from fun k=>hab (k▸hE0.out.fw.1)) (.int .i64 ((s.nx:Int)+1)))
  have hnx':(s.nx:Int)≤65536:=by omega
  go_upto_region 2 with(fail)
  clear x0 xf hE0 hP0 hA0
  generalize w0.setCell ⟨e.nx,0,none⟩ (.int .i64 ((s.nx:Int)+1))=w1 at *
  obtain⟨m,hm⟩:∃m,s.nx+1=m:=⟨_,rfl⟩
  rw [hm] at hE1
  have HM:=Lib.hid hm
  have H0:=Lib.hid h0
  have HNX:=Lib.hid hnx
  clear hm h0 hnx hnx'
  have a0:=hE1.out.ix.cell' (i:=0) rfl
  have a1:=hE1.out.lw.cell' (i:=0) rfl
  have a2:=hA1.out.cell' (i:=0) rfl
  have a3:w1.cell? ⟨e.nx,0,none⟩=some (.int .i64 (m:Int)):=hE1.out.nx.cell' (i:=0) rfl
  have f1:=hE1.out.im.frozen k
  have f2:=hE1.out.lm.frozen k
  obtain⟨n1,n2,_⟩:=hE1.out.neF hE1.out.fw.2.1
  obtain⟨n3,n4,_⟩:=hE1.out.neF hE1.out.fw.2.2.1
  have n5:ab≠e.im:=fun q=>hab (q▸hE1.out.fw.2.1)
  have n6:ab≠e.lm:=fun q=>hab (q▸hE1.out.fw.2.2.1)
  have n7:=hE1.out.d1.1
  have n8:=hE1.out.d1.2.1
  have n9:=hE1.out.d1.2.2.2.1
  have b1:=hE1.out.cell_im (k:=k) (by have:=hT.li;exact this▸hk)
  have b2:=hE1.out.cell_lm (k:=k) (by have:=hT.ll;exact this▸hk)
  have hEa:Hid (TE ((w1.setCell ⟨e.im,k,none⟩ (.int .i64 (m:Int))).setCell ⟨e.lm,k,none⟩ (.int .i64 (m:Int))).drew B g o c nodes root F e vs vz ⟨m,sI s.index (k:Int) (m:Int),sI s.low (k:Int) (m:Int),s.inn,s.sizes,s.stack,s.on⟩∧PStep w1 ((w1.setCell ⟨e.im,k,none⟩ (.int .i64 (m:Int))).setCell ⟨e.lm,k,none⟩ (.int .i64 (m:Int))).drew F F):=(hE1.out.two k (m:Int)).1
  go_region_held3 (fun w'=>w'.cell? ⟨e.ix,0,none⟩=some (.slice (some ⟨e.im,0,none⟩) nodes.length nodes.length)∧w'.cell? ⟨e.lw,0,none⟩=some (.slice (some ⟨e.lm,0,none⟩) nodes.length nodes.length)∧w'.cell? ⟨ab,0,none⟩=some (.int .i64 (k:Int))∧w'.cell? ⟨e.nx,0,none⟩=some (.int .i64 (m:Int))) (first | exact⟨a0,a1,a2,a3⟩ | exact⟨(World.cell?_setCell_far _ _ _ _ (Ne.symm n1)).trans (a0),(World.cell?_setCell_far _ _ _ _ (Ne.symm n2)).trans (a1),(World.cell?_setCell_far _ _ _ _ (Ne.symm n5)).trans (a2),(World.cell?_setCell_far _ _ _ _ (Ne.symm n7)).trans (a3)⟩ | exact⟨(World.cell?_setCell_far _ _ _ _ (Ne.symm n3)).trans (a0),(World.cell?_setCell_far _ _ _ _ (Ne.symm n4)).trans (a1),(World.cell?_setCell_far _ _ _ _ (Ne.symm n6)).trans (a2),(World.cell?_setCell_far _ _ _ _ (Ne.symm n8)).trans (a3)⟩ | exact⟨(World.cell?_setCell_far _ _ _ _ (Ne.symm n3)).trans ((World.cell?_setCell_far _ _ _ _ (Ne.symm n1)).trans (a0)),(World.cell?_setCell_far _ _ _ _ (Ne.symm n4)).trans ((World.cell?_setCell_far _ _ _ _ (Ne.symm n2)).trans (a1)),(World.cell?_setCell_far _ _ _ _ (Ne.symm n6)).trans ((World.cell?_setCell_far _ _ _ _ (Ne.symm n5)).trans (a2)),(World.cell?_setCell_far _ _ _ _ (Ne.symm n8)).trans ((World.cell?_setCell_far _ _ _ _ (Ne.symm n7)).trans (a3))⟩ | exact⟨(World.cell?_setCell_far _ _ _ _ (Ne.symm n1)).trans ((World.cell?_setCell_far _ _ _ _ (Ne.symm n3)).trans (a0)),(World.cell?_setCell_far _ _ _ _ (Ne.symm n2)).trans ((World.cell?_setCell_far _ _ _ _ (Ne.symm n4)).trans (a1)),(World.cell?_setCell_far _ _ _ _ (Ne.symm n5)).trans ((World.cell?_setCell_far _ _ _ _ (Ne.symm n6)).trans (a2)),(World.cell?_setCell_far _ _ _ _ (Ne.symm n7)).trans ((World.cell?_setCell_far _ _ _ _ (Ne.symm n8)).trans (a3))⟩) (fail)
  have hE2:=Lib.hid hEa.out.1
  have hP2:=Lib.hid (hP1.out.trans hEa.out.2)
  have hA2:=Lib.hid (hEa.out.2.arr hA1.out hab)
  clear a0 a1 a2 a3 f1 f2 n1 n2 n3 n4 n5 n6 n7 n8 n9 b1 b2 hEa hE1 hP1 hA1
  generalize ((w1.setCell ⟨e.im,k,none⟩ (.int .i64 (m:Int))).setCell ⟨e.lm,k,none⟩ (.int .i64 (m:Int))).drew=w2 at *
  obtain⟨As,cs,hvs,hcs,hcm⟩:=own_slice hE2.out.rs
  subst hvs
  have a0:=hE2.out.st.cell' (i:=0) rfl
  have a1:=hA2.out.cell' (i:=0) rfl
  have hsl:s.stack.length≤65536:=by have:=hT.sz;have:=HNX.out;omega
  have hab2:=hA2.out.lt
  have hr2:=hE2.out.rs
  have hBw:B≤w2.heap.size:=hE2.out.gd.2.1
  have hr2':Hid ((w2.alloc (.cells #[.int .i64 (k:Int)] 3)).ownsRow B 3 1 (.slice As s.stack.length cs) s.stack.length (I64 s.stack)):=hr2.alloc _
  have hb2:Hid (Below w2.heap.size w2 (w2.alloc (.cells #[.int .i64 (k:Int)] 3))):=(Below.refl _ _).alloc (Nat.le_refl _) _
  clear hr2
  go_upto_region 4 with(at_builtin;go_loud (refine wpList_apS rfl (.tmp 28) (.tmp 30) 28 rfl B 3 _ 1 _ Tryz.underlying28 infoInt rfl (by decide) _ s.stack.length (I64 s.stack) rfl hr2'.out ⟨w2.heap.size,0,none⟩ _ [.int .i64 (k:Int)] rfl rfl (cells_new _ _ _) rfl (by unfold maxLen;omega) (by omega) (by simp;omega) ?_;intro v3 w3 hown3 hgr3 hat3;obtain⟨A3,c3,hv3,hc3,hm3⟩:=own_slice hown3;subst hv3;have hS3:=arr_row hE2.out.st hb2.out hgr3 (row_ne hE2.out.rs hE2.out.st (by decide));have p3:=hS3.cell' (i:=0) rfl;have q3:=hS3.frozen 0))
  obtain⟨F4,hE4',hP4',hFF⟩:=hE2.out.push_st (k:Int) hb2.out hgr3 hown3 hat3
  have hE4:Hid (TE (w3.setCell ⟨e.st,0,none⟩ (.slice A3 (s.stack.length+1) c3)) B g o c nodes root F4 e (.slice A3 (s.stack.length+1) c3) vz ⟨m,sI s.index (k:Int) (m:Int),sI s.low (k:Int) (m:Int),s.inn,s.sizes,s.stack ++ [(k:Int)],s.on⟩):=hE4'
  have hP4:=Lib.hid (hP2.out.trans hP4')
  have hA4:=Lib.hid (hP4'.arr hA2.out hab)
  have hab4:¬F4 ab:=hP4'.out hab2 hab
  clear hE4' hFF p3 q3 hS3 hown3 hgr3 hat3 hr2' hb2 hE2 hP2 hP4' hA2 a0 a1 hBw
  generalize w3.setCell ⟨e.st,0,none⟩ (.slice A3 (s.stack.length+1) c3)=w4 at *
  have a0:=hE4.out.on_.cell' (i:=0) rfl
  have a1:=hA4.out.cell' (i:=0) rfl
  have a2:=hE4.out.cell_om (k:=k) (by have:=hT.lo;exact this▸hk)
  have a3:=hE4.out.om.frozen k
  have hg4:=grown_set w4 ⟨e.om,k,none⟩ (.bool true)
  have hE5:Hid (TE (w4.setCell ⟨e.om,k,none⟩ (.bool true)) B g o c nodes root F4 e (.slice A3 (s.stack.length+1) c3) vz (pushT (k:Int) s)):=by
   have h1:=hE4.out.set_om (s.on.set k true) hg4 (by have:=hE4.out.om.store k (.bool true);rw [Bs_set] at this;exact this)
   have e1:pushT (k:Int) s=⟨m,sI s.index (k:Int) (m:Int),sI s.low (k:Int) (m:Int),s.inn,s.sizes,s.stack ++ [(k:Int)],s.on.set k true⟩:=by
    unfold pushT
    rw [HM.out,Int.toNat_natCast]
   rw [e1]
   exact h1
  have hP5:=Lib.hid (hP4.out.trans (pstep_grown hg4 hE4.out.fw.2.2.2.2.1))
  have hA5:=Lib.hid ((pstep_grown hg4 hE4.out.fw.2.2.2.2.1).arr hA4.out hab4)
  go_upto_region 6 with(fail)
  clear a0 a1 a2 a3 hE4 hP4 hA4 hg4 HM
  generalize w4.setCell ⟨e.om,k,none⟩ (.bool true)=w5 at *
  generalize (Value.slice A3 (s.stack.length+1) c3)=vs5 at *
  have hab5:=hA5.out.lt
  obtain⟨K,ck,I,ci,c0,c1,c2,c3',c4,⟨hK,hKb⟩,hIt,hIb⟩:=hE5.out.gd.of_at hk
  obtain⟨hKl,hIl⟩:=hL k hk
  have hrefs:=Lib.hid (hI k hk)
  have HK:=Lib.hid hK
  have HI:=Lib.hid hIt
  have HKB:=Lib.hid hKb
  have HIB:=Lib.hid hIb
  clear hK hIt hKb hIb c0 c1 c2
  generalize ndAt nodes k=nd at *
  have hHH:=HH.out
  cases hr:runG (stepT (visitT nodes f) (k:Int)) nd.keys (pushT (k:Int) s) with
  | none=>rw [hr] at hHH;cases hHH
  | some sk=>
   rw [hr] at hHH
   cases hr2:runG (stepT (visitT nodes f) (k:Int)) nd.items sk with
   | none=>simp only [hr2] at hHH;cases hHH
   | some s2=>
    simp only [hr2] at hHH
    have HR:=Lib.hid hr
    have HR2:=Lib.hid hr2
    have HD:=Lib.hid hHH
    clear hr hr2 hHH HH
    have a0:=hE5.out.gr.cell' (i:=0) rfl
    have a1:=hA5.out.cell' (i:=0) rfl
    go_upto_region 7 with(fail)
    go_loopw [43] (fun v wr=>∃(j:Nat) (F1:Nat→Prop) (vs1 vz1:Value) (s1:TS),j≤nd.keys.length∧v=.int .i64 (j:Int)∧Hid (runG (stepT (visitT nodes f) (k:Int)) (nd.keys.drop j) s1=some sk)∧Hid (TOK nodes.length s1)∧Hid (TE wr B g o c nodes root F1 e vs1 vz1 s1)∧PStep w5 wr F4 F1) (fun v _=>nd.keys.length - (intOf v).toNat)
    case atStart=>exact⟨0,F4,vs5,vz,pushT (k:Int) s,Nat.zero_le _,rfl,HR,hT0,hE5,PStep.of_below (Below.refl _ _)⟩
    case round=>
     obtain⟨j,F1,vs1,vz1,s1,hj,rfl,hrun,hT1,hE1,hP1⟩:=hrel
     have hab1:=hP1.out hab5 hab4
     have hA1:=Lib.hid (hP1.arr hA5.out hab4)
     by_cases hjl:j=nd.keys.length
     ·have hjl':¬(j:Int)<nd.keys.length:=by omega
      have hsk:s1=sk:=by
       have:=hrun.out
       rw [List.drop_of_length_le (by omega)] at this
       exact Option.some.inj this
      subst hsk
      have c4':=hP1.cell c4 (fun hF=>by have h1:=hE5.out.gd.1;have h2:B≤g:=hE5.out.lo _ hF;omega)
      have HI7:=Lib.hid (hP1.rd HI.out (fun ad q hF=>by have:=HIB.out ad q;have:=hE5.out.lo _ hF;omega))
      have hlo7:=Lib.hid hE1.out.lo
      have hP7:=Lib.hid (hP5.out.trans hP1)
      obtain⟨w7,hw7⟩:∃x:World,x=wr:=⟨_,rfl⟩
      subst hw7
      have g0:=hE1.out.gr.cell' (i:=0) rfl
      have g1:=hA1.out.cell' (i:=0) rfl
      have hab7:=hA1.out.lt
      clear hrun a0 a1 c3' c4
      go_upto_region 12 with(fail)
      go_loopw [58] (fun v wr=>∃(j:Nat) (F2:Nat→Prop) (vs2 vz2:Value) (s4:TS),j≤nd.items.length∧v=.int .i64 (j:Int)∧Hid (runG (stepT (visitT nodes f) (k:Int)) (nd.items.drop j) s4=some s2)∧Hid (TOK nodes.length s4)∧Hid (TE wr B g o c nodes root F2 e vs2 vz2 s4)∧PStep w7 wr F1 F2) (fun v _=>nd.items.length - (intOf v).toNat)
      case atStart=>exact⟨0,F1,vs1,vz1,s1,Nat.zero_le _,rfl,HR2,hT1,hE1,PStep.of_below (Below.refl _ _)⟩
      case round=>
       obtain⟨i,F2,vs2,vz2,s4,hi,rfl,hrun,hT2,hE2,hP2⟩:=hrel
       have hab2':=hP2.out hab7 hab1
       have hA2:=Lib.hid (hP2.arr hA1.out hab1)
       by_cases hil:i=nd.items.length
       ·have hil':¬(i:Int)<nd.items.length:=by omega
        have hsk:s4=s2:=by
         have:=hrun.out
         rw [List.drop_of_length_le (by omega)] at this
         exact Option.some.inj this
        subst hsk
        have hP8:=Lib.hid (hP7.out.trans hP2)
        obtain⟨w8,hw8⟩:∃x:World,x=wr:=⟨_,rfl⟩
        subst hw8
        have l0:=hE2.out.lw.cell' (i:=0) rfl
        have l1:=hE2.out.ix.cell' (i:=0) rfl
        have l2:=hA2.out.cell' (i:=0) rfl
        have l3:=hE2.out.cell_lm (k:=k) (by have:=hT2.out.ll;omega)
        have l4:=hE2.out.cell_im (k:=k) (by have:=hT2.out.li;omega)
        clear hrun c4' g0 g1 HI7
        have hb9:∀nq,Below w8.heap.size w8 (w8.drewN nq):=fun nq=>Below.drewN' (Below.refl _ _) nq
        have hE9:=Lib.hid (fun nq=>hE2.out.kept (hb9 nq))
        have hP9:=Lib.hid (fun nq=>hP8.out.trans (PStep.of_below (hb9 nq)))
        have hA9:=Lib.hid (fun nq=>hA2.out.keep (hb9 nq))
        have hDD:=HD.out
        unfold doneT at hDD
        rw [gI_nat,gI_nat] at hDD
        generalize s4.low.getD k 0=la at *
        generalize s4.index.getD k 0=lk at *
        clear hE2 hP8 hA2 hP2 hb9 HD
        by_cases hlow:la=lk
        ·subst hlow
         rw [if_pos rfl] at hDD
         have HP:=Lib.hid hDD
         clear hDD
         go_upto_region 16 with(fail)
         go_quiet (fail)
         replace hE9:=Lib.hid (hE9.out nq)
         replace hP9:=Lib.hid (hP9.out nq)
         replace hA9:=Lib.hid (hA9.out nq)
         clear l0 l1 l2 l3 l4
         generalize (w8.drewN nq)=w9 at *
         go_upto_region 18 with(fail)
         have hab9:=hA9.out.lt
         have hnx4:=hT2.out.cn
         have hsz4:=hT2.out.sz
         clear hP5 hA5 hE5 hab5 HKB HIB HR HR2 hlo7 hE1 hP1 hA1 hP7 hab7 HK HI hrefs hT1 hT0 hT ih hcs hcm hc3 hm3
         go_loopw [16] (fun v wr=>∃(q f':Nat) (F3:Nat→Prop) (vs3 vz3:Value) (s5:TS),v=.int .i64 (q:Int)∧q+s5.stack.length≤nodes.length∧Hid (popT (k:Int) f' q s5=some s')∧Hid (TOK nodes.length s5)∧Hid (TE wr B g o c nodes root F3 e vs3 vz3 s5)∧PStep w9 wr F2 F3) (fun v _=>nodes.length - (intOf v).toNat)
         case atStart=>exact⟨0,s4.stack.length+1,F2,vs2,vz2,s4,rfl,by omega,HP,hT2,hE9,PStep.of_below (Below.refl _ _)⟩
         case round=>
          obtain⟨q,f',F3,vs3,vz3,s5,rfl,hq,hpp,hT5,hE5,hP5⟩:=hrel
          cases f' with
          | zero=>have:=hpp.out;cases this
          | succ f'=>
           have hpq:=hpp.out
           rw [popT_succ] at hpq
           cases hgl:s5.stack.getLast? with
           | none=>rw [hgl] at hpq;cases hpq
           | some x=>
            rw [hgl] at hpq
            obtain⟨hT6,hxin,hdl⟩:=hT5.out.off hgl
            obtain⟨kx,rfl⟩:∃kx:Nat,x=(kx:Int):=⟨x.toNat,by have:=hxin.1;omega⟩
            replace hpq:(if (kx:Int)=(k:Int) then some { offT (kx:Int) s5 with sizes:=s5.sizes ++ [((q+1:Nat):Int)] } else popT (k:Int) f' (q+1) (offT (kx:Int) s5))=some s':=hpq
            obtain⟨p,hp⟩:∃p,s5.stack.length=p+1:=⟨s5.stack.length - 1,by omega⟩
            obtain⟨gs,cap,hvs3,hcap,hcm3⟩:=own_slice0 hE5.out.rs (by omega)
            rw [hp] at hvs3 hcap
            subst hvs3
            obtain⟨Az,cz,hvz3,hcz,hcmz⟩:=own_slice hE5.out.rz
            subst hvz3
            have hkx:kx<nodes.length:=by have:=hxin.2;omega
            have hkx0:(0:Int)≤kx:=by omega
            have hkx1:(kx:Int)<nodes.length:=by omega
            have hrow:wr.ownsRow B 3 1 (.slice (some ⟨gs,0,none⟩) (p+1) cap) (p+1) (I64 s5.stack):=hp▸hE5.out.rs
            have r0:=(own_cell hrow (i:=p) (u:=.int .i64 (kx:Int)) (by rw [List.getLast?_eq_getElem?,hp] at hgl;exact I64_get hgl)).1
            have r1:=hE5.out.st.cell' (i:=0) rfl
            have r2:=hE5.out.st.frozen 0
            have hE6:=Lib.hid (hE5.out.pop_st hp)
            have hg6:=Lib.hid (pstep_grown (grown_set wr ⟨e.st,0,none⟩ (.slice (some ⟨gs,0,none⟩) p cap)) hE5.out.fw.2.2.2.2.2.1)
            have hp0:(0:Int)≤p:=by omega
            have hp1:(p:Int)≤cap:=by omega
            have hp2:p≤65536:=by omega
            unfold maxLen at hcm3
            clear hrow hgl hE9 hpp
            go_upto_region 20 with(fail)
            clear r0 r1 r2
            generalize (wr.setCell ⟨e.st,0,none⟩ (.slice (some ⟨gs,0,none⟩) p cap))=w10 at *
            have hab5:¬F3 ab:=hP5.out hab9 hab2'
            have r0:=hE6.out.on_.cell' (i:=0) rfl
            have r1:=hE6.out.cell_om (k:=kx) (by have:=hT5.out.lo;exact this▸hkx)
            have r2:=hE6.out.om.frozen kx
            have hg7:=grown_set w10 ⟨e.om,kx,none⟩ (.bool false)
            have hE7:=Lib.hid (hE6.out.set_om (s5.on.set kx false) hg7 (by have:=hE6.out.om.store kx (.bool false);rw [Bs_set] at this;exact this))
            have hG7:=Lib.hid (hg6.out.trans (pstep_grown hg7 hE5.out.fw.2.2.2.2.1))
            clear hg7 hE6 hg6
            go_upto_region 21 with(fail)
            clear r0 r1 r2
            generalize (w10.setCell ⟨e.om,kx,none⟩ (.bool false))=w11 at *
            have r0:=hE7.out.in_.cell' (i:=0) rfl
            have r1:=hE7.out.sz.cell' (i:=0) rfl
            have r2:=hE7.out.cell_nm (k:=kx) (by have:=hT5.out.ln;exact this▸hkx)
            have r3:=hE7.out.nm.frozen kx
            have hg8:=grown_set w11 ⟨e.nm,kx,none⟩ (.int .i64 (s5.sizes.length:Int))
            have hE8:Hid (TE (w11.setCell ⟨e.nm,kx,none⟩ (.int .i64 (s5.sizes.length:Int))) B g o c nodes root F3 e (.slice (some ⟨gs,0,none⟩) p cap) (.slice Az s5.sizes.length cz) (offT (kx:Int) s5)):=by
             have h1:=hE7.out.set_nm (sI s5.inn (kx:Int) (s5.sizes.length:Nat)) hg8 (by have:=hE7.out.nm.store kx (.int .i64 (s5.sizes.length:Int));rw [I64_set] at this;rw [sI_nat];exact this)
             have e1:offT (kx:Int) s5=⟨s5.nx,s5.index,s5.low,sI s5.inn (kx:Int) (s5.sizes.length:Nat),s5.sizes,s5.stack.dropLast,s5.on.set kx false⟩:=by
              unfold offT
              rw [Int.toNat_natCast]
             rw [e1]
             exact h1
            have hG8:=Lib.hid (hP5.trans (hG7.out.trans (pstep_grown hg8 hE5.out.fw.2.2.2.1)))
            have hszl:s5.sizes.length≤65536:=by have:=hT5.out.sz;have:=hT5.out.cn;omega
            clear hg8 hE7 hG7 hE5 hP5
            go_upto_region 22 with(fail)
            clear r0 r1 r2 r3
            generalize (w11.setCell ⟨e.nm,kx,none⟩ (.int .i64 (s5.sizes.length:Int)))=w12 at *
            have hA12:=hG8.out.arr hA9.out hab2'
            have r0:=hA12.cell' (i:=0) rfl
            have hq2:q≤65536:=by omega
            by_cases hkk:kx=k
            ·subst hkk
             rw [if_pos rfl] at hpq
             have HS:=Lib.hid (Option.some.inj hpq)
             clear hpq
             have z0:=hE8.out.sz.cell' (i:=0) rfl
             have hrz:=hE8.out.rz
             have hBw:=hE8.out.gd.2.1
             have hrz':Hid ((w12.alloc (.cells #[.int .i64 ((q:Int)+1)] 3)).ownsRow B 3 1 (.slice Az s5.sizes.length cz) s5.sizes.length (I64 s5.sizes)):=hrz.alloc _
             have hb12:Hid (Below w12.heap.size w12 (w12.alloc (.cells #[.int .i64 ((q:Int)+1)] 3))):=(Below.refl _ _).alloc (Nat.le_refl _) _
             clear hrz
             go_wp2_with (at_builtin;go_loud (refine wpList_apS rfl (.tmp 99) (.tmp 101) 28 rfl B 3 _ 1 _ Tryz.underlying28 infoInt rfl (by decide) _ s5.sizes.length (I64 s5.sizes) rfl hrz'.out ⟨w12.heap.size,0,none⟩ _ [.int .i64 ((q:Int)+1)] rfl rfl (cells_new _ _ _) rfl (by unfold maxLen;omega) (by omega) (by simp;omega) ?_;intro v3 w13 hown3 hgr3 hat3;obtain⟨A4,c4,hv3,hc4,hm4⟩:=own_slice hown3;subst hv3;have hS3:=arr_row hE8.out.sz hb12.out hgr3 (row_ne hE8.out.rz hE8.out.sz (by decide));have p3:=hS3.cell' (i:=0) rfl;have q3:=hS3.frozen 0))
             go_end0
             obtain⟨F9,hE9,hP9',_⟩:=hE8.out.push_sz ((q:Int)+1) hb12.out hgr3 hown3 hat3
             exact⟨rfl,F9,_,_,by rw [←HS.out];exact hE9,hP9.out.trans (hG8.out.trans hP9')⟩
            ·rw [if_neg (by omega)] at hpq
             have HPQ:=Lib.hid hpq
             have hne:¬(kx:Int)=(k:Int):=by omega
             clear hpq hkk
             go_wp2_with (fail)
             go_roundw
             case rel=>exact⟨q+1,f',F3,_,_,offT (kx:Int) s5,i64e (by omega),by omega,HPQ,hT6,hE8,hG8.out⟩
             case measure=>simp [intOf];omega
        ·rw [if_neg hlow] at hDD
         have hs':s4=s':=Option.some.inj hDD
         subst hs'
         clear hDD
         go_upto_region 16 with(fail)
         go_quiet (fail)
         replace hE9:=Lib.hid (hE9.out nq)
         replace hP9:=Lib.hid (hP9.out nq)
         clear l0 l1 l2 l3 l4
         generalize (w8.drewN nq)=w9 at *
         go_wp2_with (fail)
         go_end0
         exact⟨rfl,F2,vs2,vz2,hE9,hP9.out⟩
       ·have hil':(i:Int)<nd.items.length:=by omega
        obtain⟨x,hx⟩:∃x,nd.items[i]? = some x:=⟨_,List.getElem?_eq_getElem (by omega)⟩
        obtain⟨ad,rfl,hc⟩:=(hP2.rd HI7.out (fun ad q hF=>by have:=HIB.out ad q;have:=hlo7.out _ hF;omega)).at_ (I64_get hx)
        have hxr:=hrefs.out x (by unfold refs;exact List.mem_append.2 (.inr (List.mem_of_getElem? hx)))
        obtain⟨kx,rfl⟩:∃kx:Nat,x=(kx:Int):=⟨x.toNat,by omega⟩
        have hrun':=hrun.out
        rw [drop_cons_at hx,runG] at hrun'
        cases hv:stepT (visitT nodes f) (k:Int) (kx:Int) s4 with
        | none=>rw [hv] at hrun';cases hrun'
        | some s3=>
         rw [hv] at hrun'
         have HRUN:=Lib.hid hrun'
         have D:=Lib.hid (step_any ih hI k kx ab hk (by omega) wr F2 vs2 vz2 s4 s3 hv hT2.out hE2.out hA2.out hab2')
         have HT3:=Lib.hid (TOK.step (fun a b ha h0 hb=>TOK.visit hI f (kx:Int) a b ⟨hxr.1,hxr.2⟩ h0 ha hb) hT2.out hv)
         clear hrun hrun' hv hxr hx
         go_wp2_with (go_at_call 117;((with_reducible refine D.out.mono ?_));rintro en w6 ⟨rfl,F6,vs6,vz6,hE6,hP6⟩)
         go_roundw
         case rel=>exact⟨i+1,F6,vs6,vz6,s3,by omega,i64e (by omega),HRUN,HT3,hE6,hP2.trans hP6⟩
         case measure=>simp [intOf];omega
     ·have hjl':(j:Int)<nd.keys.length:=by omega
      obtain⟨x,hx⟩:∃x,nd.keys[j]? = some x:=⟨_,List.getElem?_eq_getElem (by omega)⟩
      obtain⟨ad,rfl,hc⟩:=(hP1.rd HK.out (fun ad q hF=>by have:=HKB.out ad q;have:=hE5.out.lo _ hF;omega)).at_ (I64_get hx)
      have hxr:=hrefs.out x (by unfold refs;exact List.mem_append.2 (.inl (List.mem_of_getElem? hx)))
      obtain⟨kx,rfl⟩:∃kx:Nat,x=(kx:Int):=⟨x.toNat,by omega⟩
      have hrun':=hrun.out
      rw [drop_cons_at hx,runG] at hrun'
      cases hv:stepT (visitT nodes f) (k:Int) (kx:Int) s1 with
      | none=>rw [hv] at hrun';cases hrun'
      | some s3=>
       rw [hv] at hrun'
       have HRUN:=Lib.hid hrun'
       have D:=Lib.hid (step_any ih hI k kx ab hk (by omega) wr F1 vs1 vz1 s1 s3 hv hT1.out hE1.out hA1.out hab1)
       have HT3:=Lib.hid (TOK.step (fun a b ha h0 hb=>TOK.visit hI f (kx:Int) a b ⟨hxr.1,hxr.2⟩ h0 ha hb) hT1.out hv)
       clear hrun hrun' hv hxr hx
       go_wp2_with (go_at_call 117;((with_reducible refine D.out.mono ?_));rintro en w6 ⟨rfl,F6,vs6,vz6,hE6,hP6⟩)
       go_roundw
       case rel=>exact⟨j+1,F6,vs6,vz6,s3,by omega,i64e (by omega),HRUN,HT3,hE6,hP1.trans hP6⟩
       case measure=>simp [intOf];omega
end Go.Proofs.YtnnnagnjikdnnaaGreatDoor
namespace Go.Proofs.YtnnnagnjikdnnaaGreatDoor
open Go.RowKit
section
variable {P:Program} {ops:Array Oper} {Q:Exit→Act→World→Prop}
theorem wpAny_inv {V:Type} (lst:V→Array Bool) (act:V→Act) (Inv:V→World→Prop) (cnt:V→Nat)
  (hz:∀v,cnt v=0→Region.ready .any ops (lst v) = [])
  (hend:∀v w,Inv v w→Region.ready .any ops (lst v) = []→Q .normal (act v) w)
  (hstep:∀v w,Inv v w→∀i∈Region.ready .any ops (lst v),∃v',lst v'=(lst v).setIfInBounds i true∧cnt v'<cnt v∧wpOp P ops Q i (fun a' w'=>Inv v' w'∧a'=act v') (act v) w)
  (fuel:Nat):∀(v:V) (w:World),cnt v≤fuel→Inv v w→wpAny P .any ops Q fuel (lst v) (act v) w:=by
 induction fuel with
 | zero=>
  intro v w hc hI
  have:=hz v (by omega)
  exact⟨this,hend v w hI this⟩
 | succ fuel ih=>
  intro v w hc hI
  refine⟨hend v w hI,fun i hi=>?_⟩
  obtain⟨v',hl,hlt,hw⟩:=hstep v w hI i hi
  refine wpOp_mono (fun a' w' h=>?_) hw
  obtain⟨h1,h2⟩:=h
  subst h2
  rw [←hl]
  exact ih v' w' (by omega) h1
theorem wp_region_inv {V:Type} (lst:V→Array Bool) (act:V→Act) (Inv:V→World→Prop) (cnt:V→Nat) (v0:V) {id:Nat} {a:Act} {w:World} (hm:P.follows .mixedOrders=true)
  (h0l:lst v0=Array.replicate ops.size false) (h0a:act v0=a) (h0c:cnt v0≤ops.size) (h0:Inv v0 w.drew)
  (hz:∀v,cnt v=0→Region.ready .any ops (lst v) = [])
  (hend:∀v w,Inv v w→Region.ready .any ops (lst v) = []→Q .normal (act v) w)
  (hstep:∀v w,Inv v w→∀i∈Region.ready .any ops (lst v),∃v',lst v'=(lst v).setIfInBounds i true∧cnt v'<cnt v∧wpOp P ops Q i (fun a' w'=>Inv v' w'∧a'=act v') (act v) w) :
  (Code.region id ops true).wp P Q a w:=by
 refine wp_region_any hm ?_
 have:=wpAny_inv (P:=P) (Q:=Q) lst act Inv cnt hz hend hstep ops.size v0 w.drew h0c h0
 rw [h0l,h0a] at this
 exact this
theorem wpOp_run {i:Nat} {o:Oper} {a:Act} {w w':World} {v:Value} {K:Act→World→Prop} (ho:ops[i]? = some o) (hg:o.guard=none) (hr:(execOp a.eval o).run P w=.ok (.value v) w') (hK:K (a.put o.dst v) w'):wpOp P ops Q i K a w:=by
 unfold wpOp
 simp only [ho]
 rw [if_pos (by simp [Region.wanted,hg])]
 left
 unfold Oper.wp
 rw [hr]
 exact hK
theorem wpOp_skip {i:Nat} {o:Oper} {a:Act} {w w':World} {K:Act→World→Prop} (ho:ops[i]? = some o) (hg:o.guard=none) (hr:(execOp a.eval o).run P w=.ok .skip w') (hK:K (a.put o.dst undef) w'):wpOp P ops Q i K a w:=by
 unfold wpOp
 simp only [ho]
 rw [if_pos (by simp [Region.wanted,hg])]
 left
 unfold Oper.wp
 rw [hr]
 exact hK
end
end Go.Proofs.YtnnnagnjikdnnaaGreatDoor
