/- The walk of (*ini.parser).add: behind the appending of the two nodes. -/
import Derived.Test.YtnnnagnjikdnnaaGreatDoorMBs
import Derived.Test.YtnnnagnjikdnnaaGreatDoorMBj
set_option linter.unusedVariables false
set_option linter.unusedSimpArgs false
set_option linter.defProp false
set_option linter.constructorNameAsVariable false
namespace Go.Proofs.YtnnnagnjikdnnaaGreatDoor
open Go.RowKit
set_option maxRecDepth 100000 in
set_option maxHeartbeats 16000000 in
theorem add_tail {w:World} {B tn ts kd:Nat} {s key tx:List Nat} {vs:Value} {lab:Nat→Option Nat} {st:ISt} {sp:JSpan} (ha:AddOK st.nodes tn key) (hs:st.spans.length≤4096):Arg1 (add_shell w B tn ts kd s key tx vs lab st sp):=by
 intro nd Ak ck Ai ci gn cap q0 q1 q2 q3 q4 W2 i V0 vn5 ncs5 W5
 intros
 rename_i HND HKL HIL HC5 HV0
 have HA:=Lib.hid ha
 have HS:=Lib.hid hs
 have hlo:st.nodes.length+2≤4096:=ha.len
 clear ha hs
 go_upto_region 13 with(fail)
 have y1:=HC5.out.ab.h0.cell' (i:=1) rfl
 have y4:=HC5.out.ab.h4.cell' (i:=4) rfl
 have z0:=HC5.out.ab.h2.cell' (i:=0) rfl
 have z1:=HC5.out.ab.h2.cell' (i:=1) rfl
 have z2:=HC5.out.ab.h2.cell' (i:=2) rfl
 have zf:=HC5.out.ab.h2.frozen
 have zf0:=zf 0
 have zf1:=zf 1
 have zf2:=zf 2
 clear zf
 have hN5:(st.nodes.length:Int)≤4094:=by omega
 go_region
 obtain⟨W6,hw6⟩:∃x,x=(((W5.setCell ⟨q2,0,none⟩ (.int .i64 ((st.nodes.length:Int)+1))).setCell ⟨q2,1,none⟩ (.int .i64 (ts:Int))).setCell ⟨q2,2,none⟩ (.int .i64 (nd.items.length:Int))).drew:=⟨_,rfl⟩
 rw [←hw6]
 have HC6:Hid (AI w W6 B s vn5 vs ncs5 lab (some tn) { st with nodes:=st.nodes ++ [tN key,⟨kd,tx,false,[],[]⟩] } (IF B V0 vs lab) q0 q2 q3 q4 [.int .i64 (tn:Int),.int .i64 (ts:Int)] (spanC { sp with node:=(st.nodes.length:Int)+1,parent:=(ts:Int),entry:=(nd.items.length:Int) }) [.int .i64 0,.int .i64 0] [.int .i64 nd.kind,.string (mks nd.text),.bool nd.ord,.slice Ak nd.keys.length ck,.slice Ai nd.items.length ci] tn (.slice Ak nd.keys.length ck) (.slice Ai nd.items.length ci) nd.keys nd.items):=by
  rw [hw6]
  exact(((HC5.out.put2 0 _).put2 1 _).put2 2 _).drew
 clear hw6 HC5 y1 y4 z0 z1 z2 zf0 zf1 zf2 W5
 -- the key's number
 have y3:=HC6.out.ab.h4.cell' (i:=3) rfl
 have yf:=HC6.out.ab.h4.frozen 3
 have hl6:=HC6.out.im.lt
 have hk9:=HKL.out
 go_upto_region 15 with(at_builtin;go_loud (refine wpList_apS rfl (.tmp 88) (.tmp 90) 28 rfl B 3 _ 1 _ Tryz.underlying28 Tryz.info3 rfl (by decide) _ nd.keys.length (I64 nd.keys) rfl (own_below HC6.out.hk.1 ((Below.refl _ _).alloc (Nat.le_refl _) _)) ⟨W6.heap.size,0,none⟩ _ [.int .i64 (st.nodes.length:Int)] rfl rfl (cells_new _ _ _) rfl (by unfold maxLen;omega) (by omega) (by simp;omega) ?_;intro v7 w7 hown7 hgr7 hat7;have HC7:=Lib.hid (HC6.out.growK hown7 hgr7 hat7);have y7:=HC7.out.ab.h4.cell' (i:=3) rfl;have yf7:=HC7.out.ab.h4.frozen 3;obtain⟨A7,c7,rfl,hc7,hm7⟩:=own_slice hown7;clear hgr7 hat7 hown7))
 have HC8:=Lib.hid (HC7.out.put4 3 (.slice A7 (nd.keys.length+1) c7))
 clear HC7 HC6 y3 yf y7 yf7 hc7 hm7 hl6
 generalize labPut lab (.slice A7 (nd.keys.length+1) c7) (2*tn+2)=lab7 at *
 generalize w7.setCell ⟨q4,3,none⟩ (.slice A7 (nd.keys.length+1) c7)=W8 at *
 -- the item's number
 have y4:=HC8.out.ab.h4.cell' (i:=4) rfl
 have yf:=HC8.out.ab.h4.frozen 4
 have hl8:=HC8.out.im.lt
 have hi9:=HIL.out
 go_upto_region 16 with(at_builtin;go_loud (refine wpList_apS rfl (.tmp 94) (.tmp 97) 28 rfl B 3 _ 1 _ Tryz.underlying28 Tryz.info3 rfl (by decide) _ nd.items.length (I64 nd.items) rfl (own_below HC8.out.hi.1 ((Below.refl _ _).alloc (Nat.le_refl _) _)) ⟨W8.heap.size,0,none⟩ _ [.int .i64 ((st.nodes.length:Int)+1)] rfl rfl (cells_new _ _ _) rfl (by unfold maxLen;omega) (by omega) (by simp;omega) ?_;intro v9 w9 hown9 hgr9 hat9;have HC9:=Lib.hid (HC8.out.growI hown9 hgr9 hat9);have y9:=HC9.out.ab.h4.cell' (i:=4) rfl;have yf9:=HC9.out.ab.h4.frozen 4;obtain⟨A9,c9,rfl,hc9,hm9⟩:=own_slice hown9;clear hgr9 hat9 hown9))
 have HC10:=Lib.hid (HC9.out.put4 4 (.slice A9 (nd.items.length+1) c9))
 clear HC9 HC8 y4 yf y9 yf9 hc9 hm9 hl8
 generalize labPut lab7 (.slice A9 (nd.items.length+1) c9) (2*tn+3)=lab9 at *
 generalize w9.setCell ⟨q4,4,none⟩ (.slice A9 (nd.items.length+1) c9)=W10 at *
 -- the node is put back
 obtain⟨g5,cap5,rfl,hca5,hcb5⟩:=own_slice0 HC10.out.im.nod (by show 0<_;simp)
 have hln5:(st.nodes ++ [tN key,⟨kd,tx,false,[],[]⟩]).length=st.nodes.length+2:=by simp
 have hnl5:=HC10.out.im.nlen
 have hnod5:=HC10.out.im.nod
 have hn5:ncs5.length=(st.nodes.length+2)*5:=by rw [hnl5];exact congrArg (· * 5) hln5
 have htn5:tn<st.nodes.length:=HA.out.lt
 obtain⟨v0,v1,v2,v3,v4,hv5⟩:∃v0 v1 v2 v3 v4,(ncs5.drop (tn*5)).take 5 = [v0,v1,v2,v3,v4]:=by
  refine⟨(ncs5.getD (tn*5) undef),(ncs5.getD (tn*5+1) undef),(ncs5.getD (tn*5+2) undef),(ncs5.getD (tn*5+3) undef),(ncs5.getD (tn*5+4) undef),?_⟩
  apply List.ext_getElem?
  intro j
  rw [List.getElem?_take]
  by_cases hj:j<5
  ·rw [if_pos hj,List.getElem?_drop]
   have hj':tn*5+j<ncs5.length:=by omega
   match j,hj with
   | 0,_=>simp [List.getD_eq_getElem?_getD,List.getElem?_eq_getElem (show tn*5<ncs5.length by omega)]
   | 1,_=>simp [List.getD_eq_getElem?_getD,List.getElem?_eq_getElem (show tn*5+1<ncs5.length by omega)]
   | 2,_=>simp [List.getD_eq_getElem?_getD,List.getElem?_eq_getElem (show tn*5+2<ncs5.length by omega)]
   | 3,_=>simp [List.getD_eq_getElem?_getD,List.getElem?_eq_getElem (show tn*5+3<ncs5.length by omega)]
   | 4,_=>simp [List.getD_eq_getElem?_getD,List.getElem?_eq_getElem (show tn*5+4<ncs5.length by omega)]
  ·rw [if_neg hj,List.getElem?_eq_none (by simp;omega)]
 obtain⟨⟨f0,f1,f2,f3,f4⟩,ff⟩:=five_cells hnod5 (k:=tn) (by show tn<(st.nodes ++ _).length;rw [hln5];omega) hv5
 have ff0:W10.frozen? ⟨g5,tn*5,none⟩=false:=ff 0 (by decide)
 have ff1:=ff 1 (by decide)
 have ff2:=ff 2 (by decide)
 have ff3:=ff 3 (by decide)
 have ff4:=ff 4 (by decide)
 have p5:=HC10.out.im.par.cell' (i:=5) rfl
 have x0:=HC10.out.ab.h0.cell' (i:=0) rfl
 have m0:=HC10.out.ab.h4.cell' (i:=0) rfl
 have m1:=HC10.out.ab.h4.cell' (i:=1) rfl
 have m2:=HC10.out.ab.h4.cell' (i:=2) rfl
 have m3:=HC10.out.ab.h4.cell' (i:=3) rfl
 have m4:=HC10.out.ab.h4.cell' (i:=4) rfl
 have HH5:=Lib.hid hln5
 clear ff hnod5 hnl5 hn5 hv5 hln5
 have ht9:(tn:Int)<((st.nodes ++ [tN key,⟨kd,tx,false,[],[]⟩]).length:Int):=by simp;omega
 have ht0:(0:Int)≤tn:=by omega
 go_region
 have hput:=HC10.out.im.putNode (n:=tn) (nd:={ nd with keys:=nd.keys ++ [(st.nodes.length:Int)],items:=nd.items ++ [(st.nodes.length:Int)+1] }) (by show tn<(st.nodes ++ _).length;rw [HH5.out];omega) rfl HC10.out.hk HC10.out.hi
 obtain⟨W11,hw11⟩:∃x,x=(((((W10.setCell ⟨g5,tn*5,none⟩ (.int .i64 nd.kind)).setCell ⟨g5,tn*5+1,none⟩ (.string (mks nd.text))).setCell ⟨g5,tn*5+2,none⟩ (.bool nd.ord)).setCell ⟨g5,tn*5+3,none⟩ (.slice A7 (nd.keys.length+1) c7)).setCell ⟨g5,tn*5+4,none⟩ (.slice A9 (nd.items.length+1) c9)).drew:=⟨_,rfl⟩
 rw [←hw11]
 have hnodes:(st.nodes ++ [tN key,⟨kd,tx,false,[],[]⟩]).set tn { nd with keys:=nd.keys ++ [(st.nodes.length:Int)],items:=nd.items ++ [(st.nodes.length:Int)+1] } = addN st.nodes tn key ⟨kd,tx,false,[],[]⟩:=by
  unfold addN
  rw [HND.out,List.set_append_left _ _ htn5]
  rfl
 have IM11:Hid (IM W11 B s (.slice (some ⟨g5,0,none⟩) (st.nodes ++ [tN key,⟨kd,tx,false,[],[]⟩]).length cap5) vs (setL ncs5 (tn*5) [.int .i64 nd.kind,.string (mks nd.text),.bool nd.ord,.slice A7 (nd.keys.length+1) c7,.slice A9 (nd.items.length+1) c9]) lab9 none { st with nodes:=addN st.nodes tn key ⟨kd,tx,false,[],[]⟩ }):=by
  rw [hw11,←hnodes]
  exact hput.1.drew
 have PS11:Hid (PStep W10 W11 (IF B (.slice (some ⟨g5,0,none⟩) (st.nodes ++ [tN key,⟨kd,tx,false,[],[]⟩]).length cap5) vs lab9) (IF B (.slice (some ⟨g5,0,none⟩) (st.nodes ++ [tN key,⟨kd,tx,false,[],[]⟩]).length cap5) vs lab9)):=by
  rw [hw11]
  exact hput.2.drew
 have AB11:=Lib.hid (HC10.out.ab.step PS11.out)
 have PT11:=Lib.hid (HC10.out.ps.trans PS11.out)
 have L10:=Lib.hid (And.intro HC10.out.l2 (And.intro HC10.out.l3 HC10.out.l4))
 clear hput hw11 hnodes PS11 HC10 f0 f1 f2 f3 f4 ff0 ff1 ff2 ff3 ff4 p5 x0 m0 m1 m2 m3 m4 ht9 ht0 W10
 generalize (Value.slice (some ⟨g5,0,none⟩) (st.nodes ++ [tN key,⟨kd,tx,false,[],[]⟩]).length cap5)=vn11 at IM11 AB11 PT11
 have hsp11:W11.ownsRow B 72 9 vs st.spans.length (spansC st.spans):=IM11.out.spn
 obtain⟨A,cs,rfl,hcs1,hcs2⟩:=own_slice hsp11
 clear hsp11
 go_upto_region 17 with(fail)
 have hWa:Hid (Below W11.heap.size W11 (W11.alloc (.cells #[.int .i64 ((st.nodes.length:Int)+1),.int .i64 (ts:Int),.int .i64 (nd.items.length:Int),.int .i64 sp.from_,.int .i64 sp.to_,.int .i64 sp.kf,.int .i64 sp.kt,.bool sp.alias_,.bool sp.whole] 72)).drew):=((Below.refl _ _).alloc (Nat.le_refl _) _).drew
 have hPd:Arr (W11.alloc (.cells #[.int .i64 ((st.nodes.length:Int)+1),.int .i64 (ts:Int),.int .i64 (nd.items.length:Int),.int .i64 sp.from_,.int .i64 sp.to_,.int .i64 sp.kf,.int .i64 sp.kt,.bool sp.alias_,.bool sp.whole] 72)).drew B 70 (parIB s vn11 (.slice A st.spans.length cs) { st with nodes:=addN st.nodes tn key ⟨kd,tx,false,[],[]⟩ }):=IM11.out.par.keep hWa.out
 have hownd:(W11.alloc (.cells #[.int .i64 ((st.nodes.length:Int)+1),.int .i64 (ts:Int),.int .i64 (nd.items.length:Int),.int .i64 sp.from_,.int .i64 sp.to_,.int .i64 sp.kf,.int .i64 sp.kt,.bool sp.alias_,.bool sp.whole] 72)).drew.ownsRow B 72 9 (.slice A st.spans.length cs) st.spans.length (spansC st.spans):=own_below IM11.out.spn hWa.out
 have hcel:∀j u,([.int .i64 ((st.nodes.length:Int)+1),.int .i64 (ts:Int),.int .i64 (nd.items.length:Int),.int .i64 sp.from_,.int .i64 sp.to_,.int .i64 sp.kf,.int .i64 sp.kt,.bool sp.alias_,.bool sp.whole]:List Value)[j]? = some u→(W11.alloc (.cells #[.int .i64 ((st.nodes.length:Int)+1),.int .i64 (ts:Int),.int .i64 (nd.items.length:Int),.int .i64 sp.from_,.int .i64 sp.to_,.int .i64 sp.kf,.int .i64 sp.kt,.bool sp.alias_,.bool sp.whole] 72)).drew.cell? ((⟨W11.heap.size,0,none⟩:Addr).add j)=some u:=cells_new W11 _ [.int .i64 ((st.nodes.length:Int)+1),.int .i64 (ts:Int),.int .i64 (nd.items.length:Int),.int .i64 sp.from_,.int .i64 sp.to_,.int .i64 sp.kf,.int .i64 sp.kt,.bool sp.alias_,.bool sp.whole]
 have hbas:B≤(W11.alloc (.cells #[.int .i64 ((st.nodes.length:Int)+1),.int .i64 (ts:Int),.int .i64 (nd.items.length:Int),.int .i64 sp.from_,.int .i64 sp.to_,.int .i64 sp.kf,.int .i64 sp.kt,.bool sp.alias_,.bool sp.whole] 72)).drew.heap.size:=Nat.le_trans (Nat.le_of_lt IM11.out.lt) hWa.out.size
 have hnpb:(Value.slice A st.spans.length cs).ownBlock≠some B:=IM11.out.spnNe
 have hmx:Hid (st.spans.length+1≤maxLen):=by have:=HS.out;show _≤_;unfold maxLen;omega
 have hmb:Hid ((st.spans.length+1)*64≤140737488355328):=by have:=HS.out;show _≤_;omega
 have HPd:=Lib.hid hPd
 have HOW:=Lib.hid hownd
 have HCE:=Lib.hid hcel
 have HNP:=Lib.hid hnpb
 clear hPd hownd hcel hnpb
 have hl11:=IM11.out.lt
 have hs9:=HS.out
 have c7:W11.cell? ⟨B,7,none⟩=some (.slice A st.spans.length cs):=IM11.out.par.cell' (i:=7) rfl
 have d7:(W11.alloc (.cells #[.int .i64 ((st.nodes.length:Int)+1),.int .i64 (ts:Int),.int .i64 (nd.items.length:Int),.int .i64 sp.from_,.int .i64 sp.to_,.int .i64 sp.kf,.int .i64 sp.kt,.bool sp.alias_,.bool sp.whole] 72)).cell? ⟨B,7,none⟩=some (.slice A st.spans.length cs):=(IM11.out.par.alloc (.cells #[.int .i64 ((st.nodes.length:Int)+1),.int .i64 (ts:Int),.int .i64 (nd.items.length:Int),.int .i64 sp.from_,.int .i64 sp.to_,.int .i64 sp.kf,.int .i64 sp.kt,.bool sp.alias_,.bool sp.whole] 72)).cell' (i:=7) rfl
 have t0:=AB11.out.h2.cell' (i:=0) rfl
 have t1:=AB11.out.h2.cell' (i:=1) rfl
 have t2:=AB11.out.h2.cell' (i:=2) rfl
 have t3:=AB11.out.h2.cell' (i:=3) rfl
 have t4:=AB11.out.h2.cell' (i:=4) rfl
 have t5:=AB11.out.h2.cell' (i:=5) rfl
 have t6:=AB11.out.h2.cell' (i:=6) rfl
 have t7:=AB11.out.h2.cell' (i:=7) rfl
 have t8:=AB11.out.h2.cell' (i:=8) rfl
 rw [iload_eq 34 (.tmp 112),iload_eq 72 (.tmp 9)]
 go_region_held3 (fun _=>True) (exact True.intro) (first | (apply step_apS (s:=.tmp 113) (x:=.tmp 115) (t:=34) (base:=B) (e:=72) (k:=9) (n:=st.spans.length) (xs:=spansC st.spans) (ad:=⟨W11.heap.size,0,none⟩) (us:=[.int .i64 ((st.nodes.length:Int)+1),.int .i64 (ts:Int),.int .i64 (nd.items.length:Int),.int .i64 sp.from_,.int .i64 sp.to_,.int .i64 sp.kf,.int .i64 sp.kt,.bool sp.alias_,.bool sp.whole]) (ho:=rfl) (hg:=rfl) (ht:=Tryz.underlying34) (h2:=Tryz.infoS72) (hz:=rfl) (hk:=by decide) (hown:=HOW.out) (hc:=HCE.out) (hm:=hmx.out) (hbase:=hbas) (hs:=rfl) (hx:=rfl) (hus:=rfl) (h1:=rfl) (hb:=hmb.out);intro v' w3 hown3 hgr3 hat3;obtain⟨A3,c3,rfl,hc3,hm3⟩:=own_slice hown3;have P3:=HPd.out.grown hgr3 (fun e=>HNP.out e.symm);have p7:w3.cell? ⟨B,7,none⟩=some (.slice A st.spans.length cs):=P3.cell' (i:=7) rfl;have q7:=P3.frozen 7;have HG3:=Lib.hid hgr3;have HT3:=Lib.hid hat3;have HO3:=Lib.hid hown3;clear hgr3 hat3 hown3 P3))
 all_goals
  have hgr4:(W11.drew.alloc (.cells #[.int .i64 ((st.nodes.length:Int)+1),.int .i64 (ts:Int),.int .i64 (nd.items.length:Int),.int .i64 sp.from_,.int .i64 sp.to_,.int .i64 sp.kf,.int .i64 sp.kt,.bool sp.alias_,.bool sp.whole] 72)).grownBy w3 (Value.slice A st.spans.length cs).ownBlock:=HG3.out
  obtain⟨_,hP,hS⟩:=IM11.out.drew.addSpan { sp with node:=(st.nodes.length:Int)+1,parent:=(ts:Int),entry:=(nd.items.length:Int) } (.slice A3 (st.spans.length+1) c3) HO3.out hgr4 HT3.out
  have HP:=Lib.hid hP
  have AB12:=Lib.hid ((AB11.out.step (PStep.of_below (Below.drew (Below.refl _ W11)))).step hS)
  have PT12:=Lib.hid ((PT11.out.drew).trans hS)
  clear hP hS HO3 HG3 HT3 hgr4 p7 q7 c7 d7 t0 t1 t2 t3 t4 t5 t6 t7 t8 HPd HOW HNP HCE hWa hmx hmb hbas
  generalize w3.setCell ⟨B,7,none⟩ (.slice A3 (st.spans.length+1) c3)=W12 at *
  have c7:W12.cell? ⟨B,7,none⟩=some (.slice A3 (st.spans.length+1) c3):=HP.out.par.cell' (i:=7) rfl
  have r0:=AB12.out.h3.cell' (i:=0) rfl
  have r1:=AB12.out.h3.cell' (i:=1) rfl
  have rf0:=AB12.out.h3.frozen 0
  have rf1:=AB12.out.h3.frozen 1
  go_wp2_with (fail)
  have h6:Arr ((W12.setCell ⟨q3,0,none⟩ (.int .i64 ((st.nodes.length:Int)+1))).setCell ⟨q3,1,none⟩ (.int .i64 (st.spans.length:Int))) q3 68 [.int .i64 ((st.nodes.length:Int)+1),.int .i64 (st.spans.length:Int)]:=(AB12.out.h3.store 0 _).store 1 _
  refine bodyPost_ret (results_row_i Tryz.results79 _ _ q3 _ #[.int .i64 ((st.nodes.length:Int)+1),.int .i64 (st.spans.length:Int)] (0,0) _ (.bool true) rfl rfl h6 Tryz.underlying68 rfl (by kernel_rfl)) rfl ?_
  refine⟨rfl,_,_,_,_,⟨_,(HP.out.far (p:=⟨q3,0,none⟩) AB12.out.n3 _).far (p:=⟨q3,1,none⟩) AB12.out.n3 _⟩,?_⟩
  rw [←HV0.out]
  exact(PT12.out.far (p:=⟨q3,0,none⟩) (.inl L10.out.2.1) _).far (p:=⟨q3,1,none⟩) (.inl L10.out.2.1) _
theorem add_ib {w:World} {B tn ts kd:Nat} {s key tx:List Nat} {vn vs:Value} {ncs:List Value} {lab:Nat→Option Nat} {st:ISt} {sp:JSpan} (h:IM w B s vn vs ncs lab none st) (ha:AddOK st.nodes tn key) (hs:st.spans.length≤4096) :
  Calls Tryz.prog 79 #[.pointer (some ⟨B,0,none⟩),.agg #[.int .i64 (tn:Int),.int .i64 (ts:Int)],.string (mks key),leafV kd tx,.agg (spanC sp).toArray] w fun e w'=>
   e=.returned (.tuple #[.agg #[.int .i64 ((st.nodes.length+1:Nat):Int),.int .i64 (st.spans.length:Int)],.bool true]) ∧
   ∃vn' vs' ncs' lab' sp',IM w' B s vn' vs' ncs' lab' none { st with nodes:=addN st.nodes tn key ⟨kd,tx,false,[],[]⟩,spans:=st.spans ++ [sp'] }∧PStep w w' (IF B vn vs lab) (IF B vn' vs' lab'):=
 add_shell w B tn ts kd s key tx vs lab st sp ⟨add_tail ha hs⟩ h ha hs
end Go.Proofs.YtnnnagnjikdnnaaGreatDoor
namespace Go.Proofs.YtnnnagnjikdnnaaGreatDoor
open Go.RowKit
set_option maxRecDepth 20000 in
set_option maxHeartbeats 8000000 in
theorem nameQ_cb {pb i e x en : Nat} {S t : List Nat} (hS : By S) (hl : S.length ≤ 100000) (ht : By t) (hq : QuoAt S i e t) (hb : BlkI S (i + (quoI t).length) e x) (hx : x < e) (hen : S[x]? = some en) (w : World) (hp : w.cell? ⟨pb, 2, none⟩ = some (.string (mks S))) :
    Calls Tryz.prog 77 #[.pointer (some ⟨pb,0,none⟩),.int .i64 (i:Int),.int .i64 (e:Int),.int .u8 (en:Int)] w fun r w'=>r=.returned (.tuple #[.string (mks t),.int .i64 ((i+(quoI t).length:Nat):Int),.int .i64 ((x+1:Nat):Int),.bool true])∧Below w.heap.size w w':=by
  have g0:=hq.first
  have hes:e≤S.length:=hq.2.1
  have hqe:=hq.1
  have hcb:=hS.get hen
  have h1 : i < e := by have : (quoI t).length = (escIL t).length + 2 := by rw [quo_end]; simp
                        omega
  obtain⟨m,hm⟩:∃m,S.length=m:=⟨_,rfl⟩
  have hsz:(mks S).size=m:=by rw [size_mks];exact hm
  have q0:i<(mks S).size:=by rw [hsz];omega
  have qx:x<(mks S).size:=by rw [hsz];omega
  have hg0:=get_mks g0 (by decide) q0
  have hgx:=get_mks hen hcb qx
  have DQ:=Lib.hid (quotedI_cb hS hl ht hq w hp)
  obtain⟨j,hj⟩:∃j,i+(quoI t).length=j:=⟨_,rfl⟩
  rw [hj] at DQ hb hqe ⊢
  have DB:=Lib.hid (fun W (hb':Below w.heap.size w W)=>blanks_cb hS hl hes hb W ((hb'.cell (block_lt_of_cell hp)).trans hp))
  have HP:=Lib.hid hp
  have i1:(i:Int)<e:=by omega
  have i2:(i:Int)<m:=by omega
  have x1:(x:Int)<m:=by omega
  have x2:¬(x:Int) ≥ e:=by omega
  have i0:(0:Int)≤i:=by omega
  have x0:(0:Int)≤x:=by omega
  have ex:(x:Int)+1=((x+1:Nat):Int):=by omega
  have EX:=Lib.hid ex
  clear hS ht hq hb g0 hes hen hj ex
  go_enter Tryz.func77,Tryz.ntmps77
  go_wp2_with (first | (go_at_call 81;((with_reducible refine(DQ.out).mono ?_));rintro r w1 ⟨rfl,hb1⟩) | (go_at_call 47;((with_reducible refine(DB.out _ hb1).mono ?_));rintro r w2 ⟨rfl,hb2⟩;have hb3:=hb1.trans (hb2.mono hb1.size);have hp3:=(hb3.cell (block_lt_of_cell HP.out)).trans HP.out))
  rw [EX.out]
  refine bodyPost_ret (results_tmp4 rfl _ _ _) rfl ?_
  exact⟨rfl,hb3⟩
set_option maxRecDepth 20000 in
set_option maxHeartbeats 8000000 in
theorem nameB_cb {pb i e q s en : Nat} {S t : List Nat} (hS : By S) (hl : S.length ≤ 100000) (he : e ≤ S.length) (h0 : ∃ c, S[i]? = some c ∧ c ≠ 34) (hr : ∀ x, i ≤ x → x < q → ∃ c, S[x]? = some c ∧ c ≠ en) (hq : q < e) (hen : S[q]? = some en) (hs : TrmI S i q s) (his : i < s) (ht : (S.take s).drop i = t) (w : World) (hp : w.cell? ⟨pb, 2, none⟩ = some (.string (mks S))) :
    Calls Tryz.prog 77 #[.pointer (some ⟨pb,0,none⟩),.int .i64 (i:Int),.int .i64 (e:Int),.int .u8 (en:Int)] w fun r w'=>r=.returned (.tuple #[.string (mks t),.int .i64 (s:Int),.int .i64 ((q+1:Nat):Int),.bool true])∧Below w.heap.size w w':=by
  obtain⟨c0,g0,n0⟩:=h0
  have hcb0:=hS.get g0
  have hcb:=hS.get hen
  have hsq:=hs.2.1
  obtain⟨m,hm⟩:∃m,S.length=m:=⟨_,rfl⟩
  have hsz:(mks S).size=m:=by rw [size_mks];exact hm
  have q0:i<(mks S).size:=by rw [hsz];omega
  have qx:q<(mks S).size:=by rw [hsz];omega
  have hg0:=get_mks g0 hcb0 q0
  have hgx:=get_mks hen hcb qx
  have hqm:q≤S.length:=by omega
  have DT:=Lib.hid (fun W (hb':Below w.heap.size w W)=>trimmed_cb hS hl hqm hs W ((hb'.cell (block_lt_of_cell hp)).trans hp))
  have HP:=Lib.hid hp
  have HR:=Lib.hid hr
  have HS:=Lib.hid hS
  have HT:=Lib.hid ht
  have HB:=Lib.hid (Below.refl w.heap.size w)
  rw [hm] at hl he
  have i1:(i:Int)<e:=by omega
  have i2:(i:Int)<m:=by omega
  have i0:(0:Int)≤i:=by omega
  have s0:((s:Int) == i)=false:=by simp;omega
  have s1:((q:Int) == e)=false:=by simp;omega
  have s2:(i:Int)≤s:=by omega
  have s3:(s:Int)≤m:=by omega
  have n34:((c0:Int) == 34)=false:=by simp;omega
  have EX:=Lib.hid (show(q:Int)+1=((q+1:Nat):Int) by omega)
  have HM:=Lib.hid hm
  clear hS hr g0 hqm hs ht hen hm
  go_enter Tryz.func77,Tryz.ntmps77
  go_upto_region 10 with(fail)
  clear hp hg0
  go_wp2_with (fail)
  go_loopw [16] (fun iv wr=>∃x:Nat,i≤x∧x≤q∧iv=.int .i64 (x:Int)∧Hid (Below w.heap.size w wr)) (fun iv _=>q - (intOf iv).toNat)
  case atStart=>exact⟨i,Nat.le_refl _,by omega,rfl,HB⟩
  case round=>
    obtain⟨x,hx1,hx2,rfl,hB⟩:=hrel
    have hp':=(hB.out.cell (block_lt_of_cell HP.out)).trans HP.out
    have x0:(0:Int)≤x:=by omega
    have x1:(x:Int)<e:=by omega
    have x3:(x:Int)<m:=by omega
    by_cases hxq:x=q
    · subst hxq
      go_wp2_with (go_at_call 80;((with_reducible refine(DT.out _ hB.out).mono ?_));rintro r w2 ⟨rfl,hb2⟩;have hb3:=hB.out.trans (hb2.mono hB.out.size);have hp3:=(hb3.cell (block_lt_of_cell HP.out)).trans HP.out)
      rw [EX.out,HT.out]
      refine bodyPost_ret (results_tmp4 rfl _ _ _) rfl ?_
      exact⟨rfl,hb3⟩
    · obtain⟨c,hc,hn⟩:=HR.out x hx1 (by omega)
      have hcx:=HS.out.get hc
      have qy:x<(mks S).size:=by rw [hsz];omega
      have hgy:=get_mks hc hcx qy
      have nen:((c:Int) == en)=false:=by simp;omega
      clear hc hn
      go_wp2_with (fail)
      go_roundw
      case rel=>exact⟨x+1,by omega,by omega,i64e (by omega),hB⟩
      case measure=>simp [intOf];omega
end Go.Proofs.YtnnnagnjikdnnaaGreatDoor
