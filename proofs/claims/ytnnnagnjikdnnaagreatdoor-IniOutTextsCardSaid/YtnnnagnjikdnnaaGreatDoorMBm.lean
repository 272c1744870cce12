/- The walks of share's order, Labels and Tree, where every node is referenced at most once. -/
import Derived.Test.YtnnnagnjikdnnaaGreatDoorMBl
import Derived.Test.YtnnnagnjikdnnaaGreatDoorMBk
import Derived.Test.YtnnnagnjikdnnaaGreatDoorMAe
import Derived.Test.YtnnnagnjikdnnaaGreatDoorMBh
import Derived.Test.YtnnnagnjikdnnaaGreatDoorMBg
import Derived.Test.YtnnnagnjikdnnaaGreatDoorMBd
set_option linter.unusedVariables false
set_option linter.unusedSimpArgs false
set_option linter.defProp false
set_option linter.constructorNameAsVariable false
namespace Go.Proofs.YtnnnagnjikdnnaaGreatDoor
open Go.RowKit
def OrdR (w:World) (n:Nat) (e:Ending) (w':World):Prop:=∃(A:Option Addr) (c':Nat) (xs:List Int) (ev:Value),e=.returned (.tuple #[.slice A xs.length c',ev])∧Rd w' A (I64 xs)∧(∀ad,A=some ad→ad.block<w'.heap.size)∧InL n xs∧xs.length≤n∧Below w.heap.size w w'
set_option maxRecDepth 20000 in
set_option maxHeartbeats 16000000 in
theorem order_any {B g o c:Nat} {nodes:List GNode} (r:Nat) (hr:r<nodes.length) (hI:Idx nodes) (hL:NL 65536 nodes) (hN:nodes.length≤65536) (hT:∀k,k<nodes.length→(ndAt nodes k).kind=10→SortN nodes (ndAt nodes k)) (w:World) (hw:LibE w) (hG:GRd w B g o nodes) :
  Calls Tryz.prog 102 #[.agg #[.slice (some ⟨g,o,none⟩) nodes.length c,.int .i64 (r:Int)]] w (OrdR w nodes.length):=by
 have h1:Hid (Arr (w.alloc (.cells #[.slice (some ⟨g,o,none⟩) nodes.length c,.int .i64 (r:Int)] 26)) w.heap.size 26 [.slice (some ⟨g,o,none⟩) nodes.length c,.int .i64 (r:Int)]):=Arr.new w _ _
 have hB1:Hid (Below w.heap.size w (w.alloc (.cells #[.slice (some ⟨g,o,none⟩) nodes.length c,.int .i64 (r:Int)] 26))):=(Below.refl _ _).alloc (Nat.le_refl _) _
 have HG:=Lib.hid hG
 have HW:=Lib.hid hw
 have hmf:∀(fn:Fn) (first cap:Array Value) (w:World),(Instr.makeFunc fn first cap).run Tryz.prog w=.ok (.func fn first cap) w:=fun _ _ _ _=>rfl
 have DV:Hid (∀(e:OB),VisO w w.heap.size g o c nodes (r:Int) e (nodes.length)):=fun e=>visitO_any (c:=c) (e:=e) hw rfl hI hL hN hT nodes.length
 clear hG hw
 go_enter Tryz.func102,Tryz.ntmps102
 go_upto_region 1 with(fail)
 generalize w.alloc (.cells #[.slice (some ⟨g,o,none⟩) nodes.length c,.int .i64 (r:Int)] 26)=W at *
 obtain⟨n,hn⟩:∃n,nodes.length=n:=⟨_,rfl⟩
 obtain⟨gb,hgb⟩:∃b,w.heap.size=b:=⟨_,rfl⟩
 have hgbl:=h1.out.lt
 rw [hgb] at h1 hgbl hB1 ⊢
 rw [hn] at h1 hr hN ⊢
 have HN:=Lib.hid hn
 have HGB:=Lib.hid hgb
 clear hn hgb
 have x0:=h1.out.cell' (i:=0) rfl
 go_upto_region 2 with(at_make;go_loud (refine wpList_mk rfl _ _ 134 rfl 28 _ _ Tryz.underlying134 infoSl rfl _ _ _ _ rfl rfl n n (by omega) (by omega) (by omega) (by omega) (by unfold maxLen;omega) ?_;intro em w2 hem hE hb2 hz2))
 clear x0
 have hX3:Hid (Arr (w2.alloc (.cells #[.slice (some ⟨em,0,none⟩) n n] 134)) w2.heap.size 134 [.slice (some ⟨em,0,none⟩) n n]):=Arr.new w2 _ _
 have hb3:Below w2.heap.size w2 (w2.alloc (.cells #[.slice (some ⟨em,0,none⟩) n n] 134)):=(Below.refl _ _).alloc (Nat.le_refl _) _
 have l1:gb<em:=by have:=hem.out;omega
 have l2:em<w2.heap.size:=hE.out.lt
 have hB3:=Lib.hid ((hB1.out.trans (hb2.mono (by omega))).trans (hb3.mono (by omega)))
 have h3:=Lib.hid ((h1.out.keep hb2).keep hb3)
 have hE3:=Lib.hid (hE.out.keep hb3)
 clear hE hb2 hz2 hem h1 hB1 hb3
 generalize (w2.alloc (.cells #[.slice (some ⟨em,0,none⟩) n n] 134))=w3 at *
 obtain⟨en,hen⟩:∃b,w2.heap.size=b:=⟨_,rfl⟩
 rw [hen] at hX3 l2 ⊢
 clear hen
 have x0:=h3.out.cell' (i:=0) rfl
 have l3:en<w3.heap.size:=hX3.out.lt
 go_upto_region 3 with(at_make;go_loud (refine wpList_mk rfl _ _ 100 rfl 4 _ _ Tryz.underlying100 infoBool rfl _ _ _ _ rfl rfl n n (by omega) (by omega) (by omega) (by omega) (by unfold maxLen;omega) ?_;intro mm w4 hmm hM hb4 hz4))
 clear x0
 have hX5:Hid (Arr (w4.alloc (.cells #[.slice (some ⟨mm,0,none⟩) n n] 100)) w4.heap.size 100 [.slice (some ⟨mm,0,none⟩) n n]):=Arr.new w4 _ _
 have hb5:Below w4.heap.size w4 (w4.alloc (.cells #[.slice (some ⟨mm,0,none⟩) n n] 100)):=(Below.refl _ _).alloc (Nat.le_refl _) _
 have l4:en<mm:=by have:=hmm.out;omega
 have l5:mm<w4.heap.size:=hM.out.lt
 have hB5:=Lib.hid ((hB3.out.trans (hb4.mono (by omega))).trans (hb5.mono (by omega)))
 have h5:=Lib.hid ((h3.out.keep hb4).keep hb5)
 have hE5:=Lib.hid ((hE3.out.keep hb4).keep hb5)
 have hX35:=Lib.hid ((hX3.out.keep hb4).keep hb5)
 have hM5:Hid (Arr (w4.alloc (.cells #[.slice (some ⟨mm,0,none⟩) n n] 100)) mm 4 (Bs (noMarks n))):=by rw [←Bs_rep];exact hM.out.keep hb5
 clear hM hb4 hz4 hmm h3 hB3 hb5 hE3 hX3
 generalize (w4.alloc (.cells #[.slice (some ⟨mm,0,none⟩) n n] 100))=w5 at *
 obtain⟨mt,hmt⟩:∃b,w4.heap.size=b:=⟨_,rfl⟩
 rw [hmt] at hX5 l5 ⊢
 clear hmt
 have l6:mt<w5.heap.size:=hX5.out.lt
 have hO6:Hid (Arr (w5.alloc (.cells #[.slice none 0 0] 28)) w5.heap.size 28 [.slice none 0 0]):=Arr.new w5 _ _
 have hb6:Below w5.heap.size w5 (w5.alloc (.cells #[.slice none 0 0] 28)):=(Below.refl _ _).alloc (Nat.le_refl _) _
 have hB6:=Lib.hid (hB5.out.trans (hb6.mono (by omega)))
 have h6:=Lib.hid (h5.out.keep hb6)
 have hE6:=Lib.hid (hE5.out.keep hb6)
 have hX36:=Lib.hid (hX35.out.keep hb6)
 have hX6:=Lib.hid (hX5.out.keep hb6)
 have hM6:=Lib.hid (hM5.out.keep hb6)
 go_upto_region 4 with(fail)
 clear hB5 h5 hE5 hX35 hX5 hM5 hb6
 generalize (w5.alloc (.cells #[.slice none 0 0] 28))=w6 at *
 obtain⟨ou,hou⟩:∃b,w5.heap.size=b:=⟨_,rfl⟩
 rw [hou] at hO6 l6 ⊢
 clear hou
 have l7:ou<w6.heap.size:=hO6.out.lt
 have hV7:Hid (Arr (w6.alloc (.cells #[.nilFunc] 135)) w6.heap.size 135 [.nilFunc]):=Arr.new w6 _ _
 have hb7:Below w6.heap.size w6 (w6.alloc (.cells #[.nilFunc] 135)):=(Below.refl _ _).alloc (Nat.le_refl _) _
 have hB7:=Lib.hid (hB6.out.trans (hb7.mono (by omega)))
 have h7:=Lib.hid (h6.out.keep hb7)
 have hE7:=Lib.hid (hE6.out.keep hb7)
 have hX37:=Lib.hid (hX36.out.keep hb7)
 have hX7:=Lib.hid (hX6.out.keep hb7)
 have hM7:=Lib.hid (hM6.out.keep hb7)
 have hO7:=Lib.hid (hO6.out.keep hb7)
 go_upto_region 5 with(fail)
 clear hB6 h6 hE6 hX36 hX6 hM6 hO6 hb7
 generalize (w6.alloc (.cells #[.nilFunc] 135))=w7 at *
 obtain⟨vi,hvi⟩:∃b,w6.heap.size=b:=⟨_,rfl⟩
 rw [hvi] at hV7 l7 ⊢
 clear hvi
 have z0:=hV7.out.cell' (i:=0) rfl
 have zf:=hV7.out.frozen 0
 have HFN:Hid (orderFn ⟨mt,ou,en,gb,vi,mm,em⟩=.func (.func 124) #[] #[.pointer (some ⟨mt,0,none⟩),.pointer (some ⟨ou,0,none⟩),.pointer (some ⟨gb,0,none⟩),.pointer (some ⟨en,0,none⟩),.pointer (some ⟨vi,0,none⟩)]):=rfl
 obtain⟨fv,hfv⟩:∃fv,fv=Value.func (.func 124) #[] #[.pointer (some ⟨mt,0,none⟩),.pointer (some ⟨ou,0,none⟩),.pointer (some ⟨gb,0,none⟩),.pointer (some ⟨en,0,none⟩),.pointer (some ⟨vi,0,none⟩)]:=⟨_,rfl⟩
 have hB8:Hid (Below gb w (w7.setCell ⟨vi,0,none⟩ fv)):=hB7.out.setCell (p:=⟨vi,0,none⟩) (show gb≤vi by omega) fv
 have hOE:Hid (OE w (w7.setCell ⟨vi,0,none⟩ fv) gb g o c nodes (r:Int) (fun b=>b=mm∨b=em∨b=ou) ⟨mt,ou,en,gb,vi,mm,em⟩ (.slice none 0 0) (noMarks n) [] (List.replicate n (.slice none 0 0))):={
  be:=hB8.out
  gd:=(HG.out.below hB8.out (by have:=HG.out.2.1;have:=HGB.out;omega)).up (by have:=HG.out.2.1;have:=HGB.out;omega) (by have:=hB8.out.size;have:=HGB.out;omega)
  mt:=by rw [HN.out];exact hX7.out.far (p:=⟨vi,0,none⟩) (show mt≠vi by omega) fv
  en:=by rw [HN.out];exact hX37.out.far (p:=⟨vi,0,none⟩) (show en≠vi by omega) fv
  gr:=by rw [HN.out];exact h7.out.far (p:=⟨vi,0,none⟩) (show gb≠vi by omega) fv
  vi:=by rw [HFN.out,←hfv];exact hV7.out.store 0 fv
  mm:=hM7.out.far (p:=⟨vi,0,none⟩) (show mm≠vi by omega) fv
  em:=hE7.out.far (p:=⟨vi,0,none⟩) (show em≠vi by omega) fv
  ou:=hO7.out.far (p:=⟨vi,0,none⟩) (show ou≠vi by omega) fv
  ro:=World.ownsRow_nil _ _ _ _
  lo:=fun b hb=>by rcases hb with h | h | h <;> omega
  hi:=fun b hb=>by have:=hV7.out.lt;simp only [World.setCell,Array.size_modify];rcases hb with h | h | h <;> omega
  fr:=⟨fun h=>by rcases h with h | h | h <;> (simp only at h;omega),fun h=>by rcases h with h | h | h <;> (simp only at h;omega),fun h=>by rcases h with h | h | h <;> (simp only at h;omega),fun h=>by rcases h with h | h | h <;> (simp only at h;omega)⟩
  fw:=⟨.inl rfl,.inr (.inl rfl),.inr (.inr rfl)⟩
  fo:=fun b h=>by cases h
  d1:=by show ou≠em;omega }
 have hVS:Hid (VS nodes.length (noMarks n) [] (List.replicate n (.slice none 0 0))):=⟨by rw [HN.out];simp [noMarks],by rw [HN.out];simp,by rw [HN.out];simp [cfB,noMarks],fun x hx=>by cases hx⟩
 subst hfv
 go_upto_region 6 with(fail)
 clear z0 zf hV7 hB7 h7 hE7 hX37 hX7 hM7 hO7 hmf HFN
 generalize (w7.setCell ⟨vi,0,none⟩ (.func (.func 124) #[] #[.pointer (some ⟨mt,0,none⟩),.pointer (some ⟨ou,0,none⟩),.pointer (some ⟨gb,0,none⟩),.pointer (some ⟨en,0,none⟩),.pointer (some ⟨vi,0,none⟩)]))=w8 at *
 have v0:=hOE.out.vi.cell' (i:=0) rfl
 unfold orderFn at v0
 have g1:=hOE.out.gr.cell' (i:=1) rfl
 have D0:=DV.out ⟨mt,ou,en,gb,vi,mm,em⟩ r w8 (fun b=>b=mm∨b=em∨b=ou) (.slice none 0 0) (noMarks n) [] (List.replicate n (.slice none 0 0)) (by rw [HN.out];simp [cfB,noMarks]) (by have:=HN.out;omega) (by rw [noMarks_get]) hVS.out (by rw [HGB.out];exact hOE.out)
 rw [HGB.out] at D0
 have D:=Lib.hid D0
 clear D0 DV
 go_upto_region 7 with(go_at_call 124;((with_reducible refine D.out.mono ?_));rintro e w9 ⟨rfl,F9,vs9,M9,L9,es9,hE9,hV9,hq9,hP9⟩)
 clear v0 g1 D hOE hVS
 obtain⟨A9,c9,hvs9,_,_⟩:=own_slice hE9.out.ro
 subst hvs9
 have o0:=hE9.out.ou.cell' (i:=0) rfl
 have n0:=hE9.out.en.cell' (i:=0) rfl
 go_quiet (fail)
 have hbq:Below w9.heap.size w9 (w9.drewN nq):=Below.drewN' (Below.refl _ _) nq
 have hrd:Hid (Rd (w9.drewN nq) A9 (I64 L9)):=(own_rd2 hE9.out.ro).elim fun A h=>h.elim fun c h=>by
  obtain⟨he,_,_,_,hrd,_,_⟩:=h
  injection he with e1 _ _
  subst e1
  exact hrd.drewN nq
 have hbl:Hid (∀ad,A9=some ad→ad.block<(w9.drewN nq).heap.size):=fun ad e=>(hE9.out.ro.lt ad.block (by rw [e];rfl)).2
 have hli:Hid (InL n L9):=by rw [←HN.out];exact hV9.out.li
 have hll:L9.length≤n:=by have:=hV9.out.ct;have:=HN.out;omega
 have hBf:Hid (Below gb w (w9.drewN nq)):=hE9.out.be.trans (hbq.mono hE9.out.gd.2.1)
 go_wp2_with (fail)
 go_ret2
 exact⟨A9,c9,L9,_,rfl,hrd.out,hbl.out,by rw [HN.out];exact hli.out,by rw [HN.out];exact hll,by rw [HGB.out];exact hBf.out⟩
set_option maxRecDepth 20000 in
set_option maxHeartbeats 16000000 in
theorem labels_none {B g o c:Nat} {nodes:List GNode} (r:Nat) (hr:r<nodes.length) (hO:ChkOK nodes (r:Int)) (hchk:chkV nodes (r:Int)=0) (hT:∀k,k<nodes.length→(ndAt nodes k).kind=10→SortN nodes (ndAt nodes k)) (hC:∀k,(countsI nodes (r:Int)).getD k 0≤1) (w:World) (hw:LibE w) (hG:GRd w B g o nodes) :
  Calls Tryz.prog 67 #[.agg #[.slice (some ⟨g,o,none⟩) nodes.length c,.int .i64 (r:Int)]] w fun e w'=>e=.returned (.slice none 0 0)∧Below w.heap.size w w':=by
 have h1:Hid (Arr (w.alloc (.cells #[.slice (some ⟨g,o,none⟩) nodes.length c,.int .i64 (r:Int)] 26)) w.heap.size 26 [.slice (some ⟨g,o,none⟩) nodes.length c,.int .i64 (r:Int)]):=Arr.new w _ _
 have hB1:Hid (Below w.heap.size w (w.alloc (.cells #[.slice (some ⟨g,o,none⟩) nodes.length c,.int .i64 (r:Int)] 26))):=(Below.refl _ _).alloc (Nat.le_refl _) _
 have HG:=Lib.hid hG
 have HW:=Lib.hid hw
 obtain⟨hi1,_⟩:=chkV_zero hchk
 obtain⟨_,hI⟩:=idx_of hi1
 have D1:=Lib.hid (fun(w':World) (h:LibE w') (h':GRd w' B g o nodes)=>gcheck_any (c:=c) hO w' h h')
 rw [hchk] at D1
 have hN1:=hO.n1
 have D2:=Lib.hid (fun(w':World) (h:LibE w') (h':GRd w' B g o nodes)=>order_any (c:=c) r hr hI hO.nl (by omega) hT w' h h')
 have D3:=Lib.hid (fun(w':World) (h':GRd w' B g o nodes)=>scounts_any (c:=c) hi1 hO.nl (by omega) w' h')
 have HC:=Lib.hid hC
 have hcl:Hid ((countsI nodes (r:Int)).length=nodes.length):=by
  show _=_
  unfold countsI
  rw [bumps_len,bump_len,List.length_replicate]
 clear hG hw hi1 hI hchk hO hT hC
 go_enter Tryz.func67,Tryz.ntmps67
 go_upto_region 1 with(fail)
 generalize w.alloc (.cells #[.slice (some ⟨g,o,none⟩) nodes.length c,.int .i64 (r:Int)] 26)=W at *
 obtain⟨n,hn⟩:∃n,nodes.length=n:=⟨_,rfl⟩
 obtain⟨gb,hgb⟩:∃b,w.heap.size=b:=⟨_,rfl⟩
 have hgbl:=h1.out.lt
 rw [hgb] at h1 hgbl hB1 ⊢
 rw [hn] at h1 hr hN1 D1 D2 D3 hcl
 have HGB:=Lib.hid hgb
 clear hgb hn
 have x0:=h1.out.cell' (i:=0) rfl
 have x1:=h1.out.cell' (i:=1) rfl
 have hw1:=Lib.hid (HW.out.keep (by rw [HGB.out];exact hB1.out))
 have hG1:=Lib.hid (HG.out.below hB1.out (by have:=HG.out.2.1;have:=HGB.out;omega))
 go_upto_region 3 with(go_at_call 26;((with_reducible refine(D1.out _ hw1.out hG1.out).mono ?_));rintro e w2 ⟨rfl,hb2⟩)
 clear x0 x1
 have hB2:=Lib.hid (hB1.out.trans (hb2.mono (by have:=hB1.out.size;have:=HGB.out;omega)))
 have h2:=Lib.hid (h1.out.keep hb2)
 have hw2:=Lib.hid (HW.out.keep (by rw [HGB.out];exact hB2.out))
 have hG2:=Lib.hid (HG.out.below hB2.out (by have:=HG.out.2.1;have:=HGB.out;omega))
 have x0:=h2.out.cell' (i:=0) rfl
 have x1:=h2.out.cell' (i:=1) rfl
 go_upto_region 4 with(go_at_call 102;((with_reducible refine(D2.out _ hw2.out hG2.out).mono ?_));rintro e w3 ⟨A,c',xs,ev,rfl,hrd,hab,hxi,hxl,hb3⟩)
 clear x0 x1 h1 hB1 hb2 hw1 hG1
 have hB3:=Lib.hid (hB2.out.trans (hb3.mono (by have:=hB2.out.size;have:=HGB.out;omega)))
 have h3:=Lib.hid (h2.out.keep hb3)
 have hG3:=Lib.hid (HG.out.below hB3.out (by have:=HG.out.2.1;have:=HGB.out;omega))
 have x0:=h3.out.cell' (i:=0) rfl
 have x1:=h3.out.cell' (i:=1) rfl
 go_upto_region 5 with(go_at_call 103;((with_reducible refine(D3.out _ hG3.out).mono ?_));rintro e w4 ⟨cb,rfl,hcb,hb4,hC4⟩)
 clear x0 x1 h2 hB2 hb3 hw2 hG2 hG3
 have hB4:=Lib.hid (hB3.out.trans (hb4.mono (by have:=hB3.out.size;have:=HGB.out;omega)))
 have hR4:=Lib.hid (hrd.keep hb4)
 have HXI:=Lib.hid hxi
 clear hrd hb4 hB3 h3 hxi
 go_upto_region 7 with(fail)
 go_loop [6,21] (fun a v=>a=.slice none 0 0∧∃i:Nat,i≤xs.length∧v=.int .i64 (i:Int)) (fun _ v=>xs.length - (intOf v).toNat)
 case atStart=>exact⟨rfl,0,Nat.zero_le _,rfl⟩
 case round=>
  obtain⟨rfl,i,hi,rfl⟩:=hrel
  by_cases hin:i=xs.length
  ·have hi':¬(i:Int)<xs.length:=by omega
   go_wp2_with (fail)
   go_ret
   exact⟨rfl,by rw [HGB.out];exact hB4.out⟩
  ·have hi':(i:Int)<xs.length:=by omega
   obtain⟨x,hx⟩:∃x,xs[i]? = some x:=⟨_,List.getElem?_eq_getElem (by omega)⟩
   obtain⟨ad,rfl,hc⟩:=hR4.out.at_ (I64_get hx)
   obtain⟨x1,x2⟩:=HXI.out x (List.mem_of_getElem? hx)
   obtain⟨kx,rfl⟩:∃kx:Nat,x=(kx:Int):=⟨x.toNat,by omega⟩
   have c0:=hC4.out.cell' (I64_getD (l:=countsI nodes (r:Int)) (k:=kx) (by have:=hcl.out;omega))
   have hv:=HC.out kx
   have hv2:¬(1:Int)<(countsI nodes (r:Int)).getD kx 0:=by omega
   generalize (countsI nodes (r:Int)).getD kx 0=cv at *
   clear hx
   go_wp2_with (fail)
   go_round
   case rel=>exact⟨rfl,i+1,by omega,i64e (by omega)⟩
   case measure=>simp [intOf];omega
set_option maxRecDepth 20000 in
set_option maxHeartbeats 16000000 in
theorem tree_true {B g o c:Nat} {nodes:List GNode} (r:Nat) (hr:r<nodes.length) (hO:ChkOK nodes (r:Int)) (hchk:chkV nodes (r:Int)=0) (hT:∀k,k<nodes.length→(ndAt nodes k).kind=10→SortN nodes (ndAt nodes k)) (hC:∀k,(countsI nodes (r:Int)).getD k 0≤1) (w:World) (hw:LibE w) (hG:GRd w B g o nodes) :
  Calls Tryz.prog 34 #[.agg #[.slice (some ⟨g,o,none⟩) nodes.length c,.int .i64 (r:Int)]] w fun e w'=>e=.returned (.bool true)∧Below w.heap.size w w':=by
 have h1:Hid (Arr (w.alloc (.cells #[.slice (some ⟨g,o,none⟩) nodes.length c,.int .i64 (r:Int)] 26)) w.heap.size 26 [.slice (some ⟨g,o,none⟩) nodes.length c,.int .i64 (r:Int)]):=Arr.new w _ _
 have hB1:Hid (Below w.heap.size w (w.alloc (.cells #[.slice (some ⟨g,o,none⟩) nodes.length c,.int .i64 (r:Int)] 26))):=(Below.refl _ _).alloc (Nat.le_refl _) _
 have HG:=Lib.hid hG
 have HW:=Lib.hid hw
 have D1:=Lib.hid (fun(w':World) (h:LibE w') (h':GRd w' B g o nodes)=>gcheck_any (c:=c) hO w' h h')
 rw [hchk] at D1
 have D2:=Lib.hid (fun(w':World) (h:LibE w') (h':GRd w' B g o nodes)=>labels_none (c:=c) r hr hO hchk hT hC w' h h')
 clear hG hw hchk hO hT hC
 go_enter Tryz.func34,Tryz.ntmps34
 go_upto_region 1 with(fail)
 generalize w.alloc (.cells #[.slice (some ⟨g,o,none⟩) nodes.length c,.int .i64 (r:Int)] 26)=W at *
 generalize nodes.length=n at *
 obtain⟨gb,hgb⟩:∃b,w.heap.size=b:=⟨_,rfl⟩
 have hgbl:=h1.out.lt
 rw [hgb] at h1 hgbl hB1 ⊢
 have HGB:=Lib.hid hgb
 clear hgb
 have x0:=h1.out.cell' (i:=0) rfl
 have x1:=h1.out.cell' (i:=1) rfl
 have hw1:=Lib.hid (HW.out.keep (by rw [HGB.out];exact hB1.out))
 have hG1:=Lib.hid (HG.out.below hB1.out (by have:=HG.out.2.1;have:=HGB.out;omega))
 go_wp2_with (first
  | (go_at_call 26;((with_reducible refine(D1.out _ hw1.out hG1.out).mono ?_));rintro e w2 ⟨rfl,hb2⟩;have hB2:=Lib.hid (hB1.out.trans (hb2.mono (by have:=hB1.out.size;have:=HGB.out;omega)));have y0:=(h1.out.keep hb2).cell' (i:=0) rfl;have y1:=(h1.out.keep hb2).cell' (i:=1) rfl;have hw2:=Lib.hid (HW.out.keep (by rw [HGB.out];exact hB2.out));have hG2:=Lib.hid (HG.out.below hB2.out (by have:=HG.out.2.1;have:=HGB.out;omega)))
  | (go_at_call 67;((with_reducible refine(D2.out _ hw2.out hG2.out).mono ?_));rintro e w3 ⟨rfl,hb3⟩))
 go_ret
 exact⟨rfl,by rw [HGB.out];exact hB2.out.trans (hb3.mono (by have:=hB2.out.size;have:=HGB.out;omega))⟩
end Go.Proofs.YtnnnagnjikdnnaaGreatDoor
namespace Go.Proofs.YtnnnagnjikdnnaaGreatDoor
open Go.RowKit
set_option maxRecDepth 20000 in
set_option maxHeartbeats 16000000 in
theorem cyclic_no {B g o c:Nat} {nodes:List GNode} (r:Nat) (hr:r<nodes.length) (hO:ChkOK nodes (r:Int)) (hchk:chkV nodes (r:Int)=0) (hU:UpI nodes) (hT:∀k,k<nodes.length→(ndAt nodes k).kind=10→SortN nodes (ndAt nodes k)) (w:World) (hw:LibE w) (hG:GRd w B g o nodes) :
  Calls Tryz.prog 33 #[.agg #[.slice (some ⟨g,o,none⟩) nodes.length c,.int .i64 (r:Int)]] w fun e w'=>e=.returned (.tuple #[.slice none 0 0,.bool false])∧Below w.heap.size w w':=by
 have h1:Hid (Arr (w.alloc (.cells #[.slice (some ⟨g,o,none⟩) nodes.length c,.int .i64 (r:Int)] 26)) w.heap.size 26 [.slice (some ⟨g,o,none⟩) nodes.length c,.int .i64 (r:Int)]):=Arr.new w _ _
 have hB1:Hid (Below w.heap.size w (w.alloc (.cells #[.slice (some ⟨g,o,none⟩) nodes.length c,.int .i64 (r:Int)] 26))):=(Below.refl _ _).alloc (Nat.le_refl _) _
 have HG:=Lib.hid hG
 have HW:=Lib.hid hw
 have hmf:∀(fn:Fn) (first cap:Array Value) (w:World),(Instr.makeFunc fn first cap).run Tryz.prog w=.ok (.func fn first cap) w:=fun _ _ _ _=>rfl
 have hN1:=hO.n1
 have DC:=Lib.hid (fun(w':World) (h:LibE w') (h':GRd w' B g o nodes)=>gcheck_any (c:=c) hO w' h h')
 rw [hchk] at DC
 have DV:Hid (∀(e:YB),VisY w w.heap.size g o c nodes (r:Int) e nodes.length):=fun e=>visitY_any (c:=c) (e:=e) hw rfl hU hO.nl (by omega) hT nodes.length
 clear hG hw hO hchk hU hT
 go_enter Tryz.func33,Tryz.ntmps33
 go_upto_region 1 with(fail)
 generalize w.alloc (.cells #[.slice (some ⟨g,o,none⟩) nodes.length c,.int .i64 (r:Int)] 26)=W at *
 obtain⟨n,hn⟩:∃n,nodes.length=n:=⟨_,rfl⟩
 obtain⟨gb,hgb⟩:∃b,w.heap.size=b:=⟨_,rfl⟩
 have hgbl:=h1.out.lt
 rw [hgb] at h1 hgbl hB1 ⊢
 rw [hn] at h1 hr hN1 DC
 have HN:=Lib.hid hn
 have HGB:=Lib.hid hgb
 clear hn hgb
 have x0:=h1.out.cell' (i:=0) rfl
 have x1:=h1.out.cell' (i:=1) rfl
 have hwW:=Lib.hid (HW.out.keep (by rw [HGB.out];exact hB1.out))
 have hGW:=Lib.hid (HG.out.below hB1.out (by have:=HG.out.2.1;have:=HGB.out;omega))
 go_upto_region 3 with(go_at_call 26;((with_reducible refine(DC.out _ hwW.out hGW.out).mono ?_));rintro e w1 ⟨rfl,hb1⟩)
 clear x0 x1 DC hwW hGW
 have hB1':=Lib.hid (hB1.out.trans (hb1.mono (by omega)))
 have h1':=Lib.hid (h1.out.keep hb1)
 have hs1:=hb1.size
 clear hB1 h1
 have x0:=h1'.out.cell' (i:=0) rfl
 go_upto_region 4 with(at_make;go_loud (refine wpList_mk rfl _ _ 28 rfl 3 _ _ Tryz.underlying28 infoInt rfl _ _ _ _ rfl rfl n n (by omega) (by omega) (by omega) (by omega) (by unfold maxLen;omega) ?_;intro sm w2 hsm hS hb2 hz2))
 clear x0
 have hX3:Hid (Arr (w2.alloc (.cells #[.slice (some ⟨sm,0,none⟩) n n] 28)) w2.heap.size 28 [.slice (some ⟨sm,0,none⟩) n n]):=Arr.new w2 _ _
 have hb3:Below w2.heap.size w2 (w2.alloc (.cells #[.slice (some ⟨sm,0,none⟩) n n] 28)):=(Below.refl _ _).alloc (Nat.le_refl _) _
 have l1:gb<sm:=by have:=hsm.out;omega
 have l2:sm<w2.heap.size:=hS.out.lt
 have hB3:=Lib.hid ((hB1'.out.trans (hb2.mono (by omega))).trans (hb3.mono (by omega)))
 have h3:=Lib.hid ((h1'.out.keep hb2).keep hb3)
 have hS3:Hid (Arr (w2.alloc (.cells #[.slice (some ⟨sm,0,none⟩) n n] 28)) sm 3 (I64 (List.replicate n 0))):=by rw [←I64_rep];exact hS.out.keep hb3
 clear hS hb2 hz2 hsm h1' hB1' hb1 hb3
 generalize (w2.alloc (.cells #[.slice (some ⟨sm,0,none⟩) n n] 28))=w3 at *
 obtain⟨st,hst⟩:∃b,w2.heap.size=b:=⟨_,rfl⟩
 rw [hst] at hX3 l2 ⊢
 clear hst
 have l3:st<w3.heap.size:=hX3.out.lt
 have hO4:Hid (Arr (w3.alloc (.cells #[.slice none 0 0] 28)) w3.heap.size 28 [.slice none 0 0]):=Arr.new w3 _ _
 have hb4:Below w3.heap.size w3 (w3.alloc (.cells #[.slice none 0 0] 28)):=(Below.refl _ _).alloc (Nat.le_refl _) _
 have hsz4:(w3.alloc (.cells #[.slice none 0 0] 28)).heap.size=w3.heap.size+1:=by simp
 have hO5:Hid (Arr ((w3.alloc (.cells #[.slice none 0 0] 28)).alloc (.cells #[.slice none 0 0] 28)) (w3.heap.size+1) 28 [.slice none 0 0]):=by rw [←hsz4];exact Arr.new _ _ _
 have hb5:Below w3.heap.size w3 ((w3.alloc (.cells #[.slice none 0 0] 28)).alloc (.cells #[.slice none 0 0] 28)):=hb4.alloc (by rw [hsz4];omega) _
 have hO45:Hid (Arr ((w3.alloc (.cells #[.slice none 0 0] 28)).alloc (.cells #[.slice none 0 0] 28)) w3.heap.size 28 [.slice none 0 0]):=hO4.out.alloc _
 have hB5:=Lib.hid (hB3.out.trans (hb5.mono (by omega)))
 have h5:=Lib.hid (h3.out.keep hb5)
 have hS5:=Lib.hid (hS3.out.keep hb5)
 have hX5:=Lib.hid (hX3.out.keep hb5)
 go_upto_region 5 with(fail)
 clear hB3 h3 hS3 hX3 hb4 hb5 hO4
 generalize ((w3.alloc (.cells #[.slice none 0 0] 28)).alloc (.cells #[.slice none 0 0] 28))=w5 at *
 clear hsz4
 obtain⟨pa,hpa⟩:∃b,w3.heap.size=b:=⟨_,rfl⟩
 rw [hpa] at hO5 hO45 l3 ⊢
 clear hpa
 have l5:pa+1<w5.heap.size:=hO5.out.lt
 have hV6:Hid (Arr (w5.alloc (.cells #[.nilFunc] 88)) w5.heap.size 88 [.nilFunc]):=Arr.new w5 _ _
 have hb6:Below w5.heap.size w5 (w5.alloc (.cells #[.nilFunc] 88)):=(Below.refl _ _).alloc (Nat.le_refl _) _
 have hB6:=Lib.hid (hB5.out.trans (hb6.mono (by omega)))
 have h6:=Lib.hid (h5.out.keep hb6)
 have hS6:=Lib.hid (hS5.out.keep hb6)
 have hX6:=Lib.hid (hX5.out.keep hb6)
 have hP6:=Lib.hid (hO45.out.keep hb6)
 have hF6:=Lib.hid (hO5.out.keep hb6)
 go_upto_region 6 with(fail)
 clear hB5 h5 hS5 hX5 hO45 hO5 hb6
 generalize (w5.alloc (.cells #[.nilFunc] 88))=w6 at *
 obtain⟨vi,hvi⟩:∃b,w5.heap.size=b:=⟨_,rfl⟩
 rw [hvi] at hV6 l5 ⊢
 clear hvi
 have l6:vi<w6.heap.size:=hV6.out.lt
 have z0:=hV6.out.cell' (i:=0) rfl
 have zf:=hV6.out.frozen 0
 have HFN:Hid (cycFn ⟨st,pa,gb,pa+1,vi,sm⟩=.func (.func 65) #[] #[.pointer (some ⟨st,0,none⟩),.pointer (some ⟨pa,0,none⟩),.pointer (some ⟨gb,0,none⟩),.pointer (some ⟨pa+1,0,none⟩),.pointer (some ⟨vi,0,none⟩)]):=rfl
 obtain⟨fv,hfv⟩:∃fv,fv=Value.func (.func 65) #[] #[.pointer (some ⟨st,0,none⟩),.pointer (some ⟨pa,0,none⟩),.pointer (some ⟨gb,0,none⟩),.pointer (some ⟨pa+1,0,none⟩),.pointer (some ⟨vi,0,none⟩)]:=⟨_,rfl⟩
 have hB8:Hid (Below gb w (w6.setCell ⟨vi,0,none⟩ fv)):=hB6.out.setCell (p:=⟨vi,0,none⟩) (show gb≤vi by omega) fv
 have hYE:Hid (YE w (w6.setCell ⟨vi,0,none⟩ fv) gb g o c nodes (r:Int) (fun b=>b=sm∨b=pa) ⟨st,pa,gb,pa+1,vi,sm⟩ (.slice none 0 0) (List.replicate n 0) []):={
  be:=hB8.out
  gd:=(HG.out.below hB8.out (by have:=HG.out.2.1;have:=HGB.out;omega)).up (by have:=HG.out.2.1;have:=HGB.out;omega) (by have:=hB8.out.size;have:=HGB.out;omega)
  st:=by rw [HN.out];exact hX6.out.far (p:=⟨vi,0,none⟩) (show st≠vi by omega) fv
  gr:=by rw [HN.out];exact h6.out.far (p:=⟨vi,0,none⟩) (show gb≠vi by omega) fv
  vi:=by rw [HFN.out,←hfv];exact hV6.out.store 0 fv
  sm:=hS6.out.far (p:=⟨vi,0,none⟩) (show sm≠vi by omega) fv
  pa:=hP6.out.far (p:=⟨vi,0,none⟩) (show pa≠vi by omega) fv
  fd:=hF6.out.far (p:=⟨vi,0,none⟩) (show pa+1≠vi by omega) fv
  ro:=World.ownsRow_nil _ _ _ _
  lo:=fun b hb=>by rcases hb with h | h <;> omega
  hi:=fun b hb=>by have:=hV6.out.lt;simp only [World.setCell,Array.size_modify];rcases hb with h | h <;> omega
  fr:=⟨fun h=>by rcases h with h | h <;> (simp only at h;omega),fun h=>by rcases h with h | h <;> (simp only at h;omega),fun h=>by rcases h with h | h <;> (simp only at h;omega),fun h=>by rcases h with h | h <;> (simp only at h;omega)⟩
  fw:=⟨.inl rfl,.inr rfl⟩
  fo:=fun b h=>by cases h
  d1:=fun h=>by cases h }
 subst hfv
 go_upto_region 7 with(fail)
 clear z0 zf hV6 h6 hS6 hX6 hP6 hF6 hmf HFN hB6
 generalize (w6.setCell ⟨vi,0,none⟩ (.func (.func 65) #[] #[.pointer (some ⟨st,0,none⟩),.pointer (some ⟨pa,0,none⟩),.pointer (some ⟨gb,0,none⟩),.pointer (some ⟨pa+1,0,none⟩),.pointer (some ⟨vi,0,none⟩)]))=w8 at *
 have v0:=hYE.out.vi.cell' (i:=0) rfl
 unfold cycFn at v0
 have g1:=hYE.out.gr.cell' (i:=1) rfl
 have D0:=DV.out ⟨st,pa,gb,pa+1,vi,sm⟩ r w8 (fun b=>b=sm∨b=pa) (.slice none 0 0) (List.replicate n 0) [] (by have:=HN.out;omega) (by have:=HN.out;omega) (by rw [List.length_replicate];exact HN.out.symm) (fun j _=>by rw [List.getD_eq_getElem?_getD,List.getElem?_replicate];split <;> simp) (by simp) (by rw [HGB.out];exact hYE.out)
 rw [HGB.out] at D0
 have D:=Lib.hid D0
 clear D0 DV
 go_upto_region 8 with(go_at_call 65;((with_reducible refine D.out.mono ?_));rintro e w9 ⟨rfl,F9,vp9,S9,hE9,hSl9,hS9,hSk9,hP9⟩)
 clear v0 g1 D hYE
 have o0:=hE9.out.fd.cell' (i:=0) rfl
 go_wp2_with (fail)
 go_ret2
 exact⟨rfl,by rw [HGB.out];exact hE9.out.be⟩
end Go.Proofs.YtnnnagnjikdnnaaGreatDoor
namespace Go.Proofs.YtnnnagnjikdnnaaGreatDoor
open Go.RowKit
def tN (s:List Nat):GNode:=⟨5,s,false,[],[]⟩
def nodesI (k v:List Nat):List GNode:=[⟨10,[],false,[1],[2]⟩,tN k,⟨10,[],false,[3],[4]⟩,tN k,tN v]
end Go.Proofs.YtnnnagnjikdnnaaGreatDoor
namespace Go.Proofs.YtnnnagnjikdnnaaGreatDoor
open Go.RowKit
section
variable {k v:List Nat}
theorem nodesI_cases {i:Nat} (hi:i<(nodesI k v).length) {P:GNode→Nat→Prop} (h0:P ⟨10,[],false,[1],[2]⟩ 0) (h1:P (tN k) 1) (h2:P ⟨10,[],false,[3],[4]⟩ 2) (h3:P (tN k) 3) (h4:P (tN v) 4):P (ndAt (nodesI k v) i) i:=by
 have h7:i<5:=hi
 match i,h7 with
 | 0,_=>exact h0
 | 1,_=>exact h1
 | 2,_=>exact h2
 | 3,_=>exact h3
 | 4,_=>exact h4
theorem nodesI_ck (hk:By k) (hv:By v) (lk:k.length≤1000) (lv:v.length≤1000):ChkOK (nodesI k v) 0 where
 n0:=by show 0<5;decide
 n1:=by show 5≤4096;decide
 nl:=fun i hi=>nodesI_cases (P:=fun nd _=>nd.keys.length≤65536∧nd.items.length≤65536) hi (by decide) ⟨Nat.zero_le _,Nat.zero_le _⟩ (by decide) ⟨Nat.zero_le _,Nat.zero_le _⟩ ⟨Nat.zero_le _,Nat.zero_le _⟩
 tw:={
  leaf:=fun i hi=>nodesI_cases (P:=fun nd _=>∀x∈nd.keys,Leaf (ndAt (nodesI k v) x.toNat)) hi (fun x hx=>by
   have:x=1:=by simpa using hx
   subst this
   exact⟨rfl,rfl⟩) (fun x hx=>by cases hx) (fun x hx=>by
   have:x=3:=by simpa using hx
   subst this
   exact⟨rfl,rfl⟩) (fun x hx=>by cases hx) (fun x hx=>by cases hx)
  by_:=fun i hi=>nodesI_cases (P:=fun nd _=>By nd.text) hi By.nil hk By.nil hk hv
  wf:=fun i hi=>nodesI_cases (P:=fun nd _=>(Lit.int .i64 nd.kind).wf=true) hi (by decide) (by show(Lit.int .i64 5).wf=true;decide) (by decide) (by show(Lit.int .i64 5).wf=true;decide) (by show(Lit.int .i64 5).wf=true;decide)
  len:=fun i hi=>by
   rw [size_mks]
   exact nodesI_cases (P:=fun nd _=>nd.text.length≤maxLen) hi (by unfold maxLen;simp) (by show k.length≤_;unfold maxLen;omega) (by unfold maxLen;simp) (by show k.length≤_;unfold maxLen;omega) (by show v.length≤_;unfold maxLen;omega) }
 sc:=fun i hi=>nodesI_cases (P:=fun nd _=>nd.kind≠11∧(nd.kind≠9→nd.kind≠10→ScalC nd.kind nd.text (scV nd))) hi ⟨by decide,fun _ h=>absurd rfl h⟩
  ⟨by show(5:Int)≠11;decide,fun _ _=>scal_text k (by omega)⟩ ⟨by decide,fun _ h=>absurd rfl h⟩ ⟨by show(5:Int)≠11;decide,fun _ _=>scal_text k (by omega)⟩ ⟨by show(5:Int)≠11;decide,fun _ _=>scal_text v (by omega)⟩
 dp:=fun _ _=>endB_ok (show endB (nodesI k v)=true by kernel_rfl)
theorem scV_tN (s:List Nat):scV (tN s)=decide (ckErr (checkV s)=0):=rfl
theorem scV_yes {s:List Nat} (h:VU s):scV (tN s)=true:=by
 have h2:checkV s=none:=h
 rw [scV_tN,h2]
 rfl
theorem scV_no {s:List Nat} (h:¬VU s):scV (tN s)=false:=by
 have h2:checkV s≠none:=h
 rw [scV_tN]
 cases hc:checkV s with
 | none=>exact absurd hc h2
 | some a=>rfl
theorem nodesI_reach:∀i,i<5→(reachedV (nodesI k v) 0 (noMarks (nodesI k v).length)).getD i false=true:=by
 intro i hi
 have:(List.range 5).all (fun i=>(reachedV (nodesI k v) 0 (noMarks (nodesI k v).length)).getD i false)=true:=by kernel_rfl
 exact List.all_eq_true.1 this i (List.mem_range.2 hi)
theorem nodesI_chk (hk:VU k) (hv:VU v):chkV (nodesI k v) 0=0:=by
 have e1:indicesV (nodesI k v) 0=true:=by kernel_rfl
 have e3:(List.range (nodesI k v).length).all (okK (nodesI k v) 0)=true:=by kernel_rfl
 have e4:twiceV (nodesI k v)=false:=by kernel_rfl
 have e5:depD (nodesI k v) 0=2:=by kernel_rfl
 have e2:(List.range (nodesI k v).length).all (okN (nodesI k v) 0)=true:=all_yes fun j hj=>by
  unfold okN
  rw [nodesI_reach j hj,Bool.true_and]
  refine nodesI_cases (P:=fun nd _=>formV nd (scV nd)=true) hj (by rfl) ?_ (by rfl) ?_ ?_
  ·rw [scV_yes hk];rfl
  ·rw [scV_yes hk];rfl
  ·rw [scV_yes hv];rfl
 unfold chkV
 rw [if_neg (by rw [e1];decide),if_neg (by rw [e2];decide),if_neg (by rw [e3];decide),if_neg (by rw [e4];decide),if_neg (by rw [e5];decide)]
theorem nodesI_bad (h:¬VU k∨¬VU v):chkV (nodesI k v) 0≠0:=by
 have e1:indicesV (nodesI k v) 0=true:=by kernel_rfl
 have e2:¬(List.range (nodesI k v).length).all (okN (nodesI k v) 0)=true:=by
  intro ha
  rw [List.all_eq_true] at ha
  rcases h with h | h
  ·have:=ha 3 (List.mem_range.2 (by show 3<5;decide))
   unfold okN at this
   rw [nodesI_reach 3 (by decide),Bool.true_and] at this
   have h2:formV (tN k) (scV (tN k))=true:=this
   rw [scV_no h] at h2
   cases h2
  ·have:=ha 4 (List.mem_range.2 (by show 4<5;decide))
   unfold okN at this
   rw [nodesI_reach 4 (by decide),Bool.true_and] at this
   have h2:formV (tN v) (scV (tN v))=true:=this
   rw [scV_no h] at h2
   cases h2
 unfold chkV
 rw [if_neg (by rw [e1];decide),if_pos (by simpa using e2)]
 decide
theorem nodesI_norm:NormOK (nodesI k v) where
 idx:=fun i hi=>nodesI_cases (P:=fun nd _=>∀x∈refs nd,0≤x∧x<(5:Int)) hi (by decide) (fun x hx=>by cases hx) (by decide) (fun x hx=>by cases hx) (fun x hx=>by cases hx)
 nl:=fun i hi=>nodesI_cases (P:=fun nd _=>nd.keys.length≤65536∧nd.items.length≤65536) hi (by decide) ⟨Nat.zero_le _,Nat.zero_le _⟩ (by decide) ⟨Nat.zero_le _,Nat.zero_le _⟩ ⟨Nat.zero_le _,Nat.zero_le _⟩
 len:=by show 5≤4096;decide
 ent:=fun i hi=>nodesI_cases (P:=fun nd _=>nd.kind=10→nd.ord=false→EntOK (nodesI k v) nd) hi (fun _ _=>{
  len:=rfl
  few:=by decide
  key:=fun h=>absurd h (by decide)
  ne:=fun a b ha hb hab=>by
   have ha:a<1:=ha
   have hb:b<1:=hb
   omega }) (fun h=>by cases h) (fun _ _=>{
  len:=rfl
  few:=by decide
  key:=fun h=>absurd h (by decide)
  ne:=fun a b ha hb hab=>by
   have ha:a<1:=ha
   have hb:b<1:=hb
   omega }) (fun h=>by cases h) (fun h=>by cases h)
 key:=fun i hi=>nodesI_cases (P:=fun nd _=>nd.kind=10→nd.keys.length=nd.items.length) hi (fun _=>rfl) (fun h=>by cases h) (fun _=>rfl) (fun h=>by cases h) (fun h=>by cases h)
theorem nodesI_vis:∃x s',visitN (nodesI k v) (entV (nodesI k v)) ((nodesI k v).length+1) ((0:Nat):Int) ⟨List.replicate (nodesI k v).length (-1),0,List.replicate (nodesI k v).length nd0⟩=some (x,s')∧s'.out.length=5∧NL 65536 s'.out:=by
 have h:(match visitN (nodesI k v) (entV (nodesI k v)) ((nodesI k v).length+1) ((0:Nat):Int) ⟨List.replicate (nodesI k v).length (-1),0,List.replicate (nodesI k v).length nd0⟩ with | none=>false | some x=>x.2.out.length == 5 && x.2.out.all fun nd=>Nat.ble nd.keys.length 65536 && Nat.ble nd.items.length 65536)=true:=by kernel_rfl
 split at h
 ·cases h
 ·next x hx=>
  simp only [Bool.and_eq_true,beq_iff_eq] at h
  refine⟨x.1,x.2,hx,h.1,fun i hi=>?_⟩
  have h2:=List.all_eq_true.1 h.2 (ndAt x.2.out i) (by unfold ndAt;rw [List.getD_eq_getElem?_getD,List.getElem?_eq_getElem hi];exact List.getElem_mem hi)
  simp only [Bool.and_eq_true] at h2
  exact⟨Nat.le_of_ble_eq_true h2.1,Nat.le_of_ble_eq_true h2.2⟩
end
end Go.Proofs.YtnnnagnjikdnnaaGreatDoor
namespace Go.Proofs.YtnnnagnjikdnnaaGreatDoor
open Go.RowKit
theorem nd_t1 {s:List Nat} {k:Nat} (h:k < [tN s].length):ndAt [tN s] k=tN s:=by
 have:k=0:=by simp at h;exact h
 subst this;rfl
theorem t1_ck {s:List Nat} (hs:By s) (hl:s.length≤1000):ChkOK [tN s] 0 where
 n0:=by simp
 n1:=by simp
 nl:=fun i hi=>by rw [nd_t1 hi];exact⟨by simp [tN],by simp [tN]⟩
 tw:={
  leaf:=fun i hi x hx=>by rw [nd_t1 hi] at hx;simp [tN] at hx
  by_:=fun i hi=>by rw [nd_t1 hi];exact hs
  wf:=fun i hi=>by rw [nd_t1 hi];rfl
  len:=fun i hi=>by rw [nd_t1 hi,size_mks];show s.length≤_;unfold maxLen;omega }
 sc:=fun i hi=>by
  rw [nd_t1 hi]
  exact⟨by show(5:Int)≠11;decide,fun _ _=>scal_text s (by omega)⟩
 dp:=fun _ _=>endB_ok (by rfl)
theorem t1_yes {s:List Nat} (h:VU s):chkV [tN s] 0=0:=by
 have hs:=scV_yes h
 have h1:indicesV [tN s] 0=true:=by rfl
 have h2:(List.range [tN s].length).all (okN [tN s] 0)=true:=all_yes fun j hj=>by
  unfold okN
  rw [nd_t1 hj,hs]
  obtain rfl:j=0:=by simp at hj;exact hj
  rfl
 have h3:(List.range [tN s].length).all (okK [tN s] 0)=true:=by rfl
 have h4:twiceV [tN s]=false:=by rfl
 have h5:depD [tN s] 0≤1:=by
  first
   | (rw [show depD [tN s] 0=0 from rfl];omega)
   | (rw [show depD [tN s] 0=1 from rfl];omega)
 unfold chkV
 rw [if_neg (by rw [h1];decide),if_neg (by rw [h2];decide),if_neg (by rw [h3];decide),if_neg (by rw [h4];decide),if_neg (by omega)]
theorem t1_no {s:List Nat} (h:¬VU s):chkV [tN s] 0=3:=by
 have hs:=scV_no h
 have h1:indicesV [tN s] 0=true:=by rfl
 have h2:(List.range [tN s].length).all (okN [tN s] 0)=false:=all_no (i:=0) (by simp) (by
  unfold okN
  rw [nd_t1 (by simp),hs]
  rfl)
 unfold chkV
 rw [if_neg (by rw [h1];decide),if_pos h2]
end Go.Proofs.YtnnnagnjikdnnaaGreatDoor
