/- The walk of json.Parse. -/
import Derived.Test.YtijoollonkibfaaGreatDoorMN
import Derived.Test.YtijoollonkibfaaGreatDoorMO
set_option linter.unusedVariables false
set_option linter.unusedSimpArgs false
set_option linter.defProp false
set_option linter.constructorNameAsVariable false
namespace Go.Proofs.YtijoollonkibfaaGreatDoor
open Go.RowKit
def ParseR (w:World) (s:List Nat) (o:Except PErr JDoc) (e:Ending) (w':World):Prop:=
 Below w.heap.size w w'∧match o with
 | .error x=>e=.returned (.tuple #[.agg zDoc.toArray,.int .i64 (x.1:Int),.int .i64 (x.2:Int)])
 | .ok D=>∃vn vs vo ncs,e=.returned (.tuple #[.agg #[.int .i64 0,.string (mks s),vn,.int .i64 0,vs,vo],.int .i64 0,.int .i64 0]) ∧
   w'.ownsRow w.heap.size 40 5 vn D.nodes.length ncs∧NodesRd w' (fun _=>True) ncs D.nodes∧w'.ownsRow w.heap.size 34 9 vs D.spans.length (spansC D.spans)∧w'.ownsRow w.heap.size 65 3 vo D.notes.length (notesC D.notes)
theorem own_low {w:World} {b b':Nat} {e:TypeId} {k:Nat} {v:Value} {n:Nat} {xs:List Value} (h:w.ownsRow b e k v n xs) (hb:b'≤b):w.ownsRow b' e k v n xs:=by
 refine⟨h.1,?_⟩
 rcases h.2 with h1 | ⟨g,cap,cur,h1,h2,h3⟩
 ·exact .inl h1
 ·exact .inr ⟨g,cap,cur,h1,Nat.le_trans hb h2,h3⟩
theorem boxesP (w:World):Hid (Arr (((w.alloc (.cells zDoc.toArray 29)).alloc (.cells #[.int .i64 0] 3)).alloc (.cells #[.int .i64 0] 30)) w.heap.size 29 zDoc) ∧
  Hid (Arr (((w.alloc (.cells zDoc.toArray 29)).alloc (.cells #[.int .i64 0] 3)).alloc (.cells #[.int .i64 0] 30)) (w.heap.size+1) 3 [.int .i64 0]) ∧
  Hid (Arr (((w.alloc (.cells zDoc.toArray 29)).alloc (.cells #[.int .i64 0] 3)).alloc (.cells #[.int .i64 0] 30)) (w.heap.size+1+1) 30 [.int .i64 0]) ∧
  Below w.heap.size w (((w.alloc (.cells zDoc.toArray 29)).alloc (.cells #[.int .i64 0] 3)).alloc (.cells #[.int .i64 0] 30)):=by
 obtain⟨h1,h2,h3,h4⟩:=two_box w 29 3 zDoc [.int .i64 0]
 refine⟨Arr.alloc h1 _,Arr.alloc h2 _,?_,h3.alloc (by have:=h4.out;omega) _⟩
 have h:=Arr.new ((w.alloc (.cells zDoc.toArray 29)).alloc (.cells #[.int .i64 0] 3)) 30 [.int .i64 0]
 rw [h4.out] at h
 exact h
theorem stores_catch {w5:World} {pg qg rg:Nat} {d0 d1 d2 d3 d4 d5 a0 b0:Value} (HP:Arr w5 pg 29 [d0,d1,d2,d3,d4,d5]) (HQ:Arr w5 qg 3 [a0]) (HR:Arr w5 rg 30 [b0]) (hpq:pg≠qg) (hpr:pg≠rg) (hqr:qg≠rg) (x:PErr) :
  CatchR w5 pg qg rg x ((((((((w5.setCell ⟨pg,0,none⟩ (.int .i64 0)).setCell ⟨pg,1,none⟩ (.string ⟨#[]⟩)).setCell ⟨pg,2,none⟩ (.slice none 0 0)).setCell ⟨pg,3,none⟩ (.int .i64 0)).setCell ⟨pg,4,none⟩ (.slice none 0 0)).setCell ⟨pg,5,none⟩ (.slice none 0 0)).setCell ⟨qg,0,none⟩ (.int .i64 (x.1:Int))).setCell ⟨rg,0,none⟩ (.int .i64 (x.2:Int))).drew:=by
 have HPf:Arr ((((((((w5.setCell ⟨pg,0,none⟩ (.int .i64 0)).setCell ⟨pg,1,none⟩ (.string ⟨#[]⟩)).setCell ⟨pg,2,none⟩ (.slice none 0 0)).setCell ⟨pg,3,none⟩ (.int .i64 0)).setCell ⟨pg,4,none⟩ (.slice none 0 0)).setCell ⟨pg,5,none⟩ (.slice none 0 0)).setCell ⟨qg,0,none⟩ (.int .i64 (x.1:Int))).setCell ⟨rg,0,none⟩ (.int .i64 (x.2:Int))) pg 29 zDoc:=(((((((HP.store 0 (.int .i64 0)).store 1 (.string ⟨#[]⟩)).store 2 (.slice none 0 0)).store 3 (.int .i64 0)).store 4 (.slice none 0 0)).store 5 (.slice none 0 0)).far (p:=⟨qg,0,none⟩) hpq (.int .i64 (x.1:Int))).far (p:=⟨rg,0,none⟩) hpr (.int .i64 (x.2:Int))
 have HQf:Arr ((((((((w5.setCell ⟨pg,0,none⟩ (.int .i64 0)).setCell ⟨pg,1,none⟩ (.string ⟨#[]⟩)).setCell ⟨pg,2,none⟩ (.slice none 0 0)).setCell ⟨pg,3,none⟩ (.int .i64 0)).setCell ⟨pg,4,none⟩ (.slice none 0 0)).setCell ⟨pg,5,none⟩ (.slice none 0 0)).setCell ⟨qg,0,none⟩ (.int .i64 (x.1:Int))).setCell ⟨rg,0,none⟩ (.int .i64 (x.2:Int))) qg 3 [.int .i64 (x.1:Int)]:=(((((((HQ.far (p:=⟨pg,0,none⟩) (Ne.symm hpq) (.int .i64 0)).far (p:=⟨pg,1,none⟩) (Ne.symm hpq) (.string ⟨#[]⟩)).far (p:=⟨pg,2,none⟩) (Ne.symm hpq) (.slice none 0 0)).far (p:=⟨pg,3,none⟩) (Ne.symm hpq) (.int .i64 0)).far (p:=⟨pg,4,none⟩) (Ne.symm hpq) (.slice none 0 0)).far (p:=⟨pg,5,none⟩) (Ne.symm hpq) (.slice none 0 0)).store 0 (.int .i64 (x.1:Int))).far (p:=⟨rg,0,none⟩) hqr (.int .i64 (x.2:Int))
 have HRf:Arr ((((((((w5.setCell ⟨pg,0,none⟩ (.int .i64 0)).setCell ⟨pg,1,none⟩ (.string ⟨#[]⟩)).setCell ⟨pg,2,none⟩ (.slice none 0 0)).setCell ⟨pg,3,none⟩ (.int .i64 0)).setCell ⟨pg,4,none⟩ (.slice none 0 0)).setCell ⟨pg,5,none⟩ (.slice none 0 0)).setCell ⟨qg,0,none⟩ (.int .i64 (x.1:Int))).setCell ⟨rg,0,none⟩ (.int .i64 (x.2:Int))) rg 30 [.int .i64 (x.2:Int)]:=(((((((HR.far (p:=⟨pg,0,none⟩) (Ne.symm hpr) (.int .i64 0)).far (p:=⟨pg,1,none⟩) (Ne.symm hpr) (.string ⟨#[]⟩)).far (p:=⟨pg,2,none⟩) (Ne.symm hpr) (.slice none 0 0)).far (p:=⟨pg,3,none⟩) (Ne.symm hpr) (.int .i64 0)).far (p:=⟨pg,4,none⟩) (Ne.symm hpr) (.slice none 0 0)).far (p:=⟨pg,5,none⟩) (Ne.symm hpr) (.slice none 0 0)).far (p:=⟨qg,0,none⟩) (Ne.symm hqr) (.int .i64 (x.1:Int))).store 0 (.int .i64 (x.2:Int))
 have HBf:∀B,B≤pg→B≤qg→B≤rg→Below B w5 ((((((((w5.setCell ⟨pg,0,none⟩ (.int .i64 0)).setCell ⟨pg,1,none⟩ (.string ⟨#[]⟩)).setCell ⟨pg,2,none⟩ (.slice none 0 0)).setCell ⟨pg,3,none⟩ (.int .i64 0)).setCell ⟨pg,4,none⟩ (.slice none 0 0)).setCell ⟨pg,5,none⟩ (.slice none 0 0)).setCell ⟨qg,0,none⟩ (.int .i64 (x.1:Int))).setCell ⟨rg,0,none⟩ (.int .i64 (x.2:Int))):=fun B b1 b2 b3=>(((((((((Below.refl _ _).setCell b1 _).setCell b1 _).setCell b1 _).setCell b1 _).setCell b1 _).setCell b1 _).setCell b2 _).setCell b3 _)
 exact catch_drew ⟨HPf,HQf,HRf,HBf⟩
set_option maxRecDepth 100000 in
set_option maxHeartbeats 4000000 in
theorem jparse_any (s:List Nat) (hs:By s) (hlen:s.length<4294967281) (w:World) (hw:LibOK w):Calls Tryz.prog 5 #[.string (mks s)] w (ParseR w s (parseJ s)):=by
 obtain⟨HP,HQ,HR,HB⟩:=boxesP w
 have hmf:∀(fn:Fn) (first cap:Array Value) (w:World),(Instr.makeFunc fn first cap).run Tryz.prog w=.ok (.func fn first cap) w:=fun _ _ _ _=>rfl
 have hw3:=hw.keep HB
 go_enter_defers Tryz.func5,Tryz.ntmps5
 go_upto_region 1 with(fail)
 generalize (((w.alloc (.cells zDoc.toArray 29)).alloc (.cells #[.int .i64 0] 3)).alloc (.cells #[.int .i64 0] 30))=W3 at *
 have DS:=Lib.hid (scan_any s hs W3 hw3)
 go_upto_region 2 with(go_at_call 8;go_loud (refine DS.out.mono ?_;rintro e w4 ⟨vo,vn,rfl,ho,hn,hb4⟩;have HP4:=Arr.keep HP hb4;have HQ4:=Arr.keep HQ hb4;have HR4:=Arr.keep HR hb4;have q0:=HQ4.cell' (i:=0) rfl;have qz:=HQ4.frozen 0;have r0:=HR4.cell' (i:=0) rfl;have rz:=HR4.frozen 0))
 obtain⟨b2,hb2⟩:∃b,w.heap.size+1+1=b:=⟨_,rfl⟩
 obtain⟨b1,hb1⟩:∃b,w.heap.size+1=b:=⟨_,rfl⟩
 have l1:w.heap.size<b1:=by omega
 have l2:b1<b2:=by omega
 have l3:b2<W3.heap.size:=by have:=Arr.lt HR;omega
 have n10:w.heap.size≠b1:=by omega
 have n20:w.heap.size≠b2:=by omega
 have n21:b1≠b2:=by omega
 rw [hb2] at HR HR4 r0 rz ⊢
 rw [hb1] at HQ HQ4 q0 qz ⊢
 clear hb1 hb2
 have HP5:=(HP4.far (p:=⟨b1,0,none⟩) n10 (.int .i64 ((scanV s).at_:Int))).far (p:=⟨b2,0,none⟩) n20 (.int .i64 ((scanV s).err:Int))
 have HQ5:Arr ((w4.setCell ⟨b1,0,none⟩ (.int .i64 ((scanV s).at_:Int))).setCell ⟨b2,0,none⟩ (.int .i64 ((scanV s).err:Int))) b1 3 [.int .i64 ((scanV s).at_:Int)]:=(HQ4.store 0 (.int .i64 ((scanV s).at_:Int))).far (p:=⟨b2,0,none⟩) n21 (.int .i64 ((scanV s).err:Int))
 have HR5:Arr ((w4.setCell ⟨b1,0,none⟩ (.int .i64 ((scanV s).at_:Int))).setCell ⟨b2,0,none⟩ (.int .i64 ((scanV s).err:Int))) b2 30 [.int .i64 ((scanV s).err:Int)]:=(HR4.far (p:=⟨b1,0,none⟩) (Ne.symm n21) (.int .i64 ((scanV s).at_:Int))).store 0 (.int .i64 ((scanV s).err:Int))
 have hB5:Below w.heap.size w ((w4.setCell ⟨b1,0,none⟩ (.int .i64 ((scanV s).at_:Int))).setCell ⟨b2,0,none⟩ (.int .i64 ((scanV s).err:Int))):=((HB.trans (hb4.mono HB.size)).setCell (by simp;omega) _).setCell (by simp;omega) _
 have hw5:Below W3.heap.size W3 w4:=hb4
 have hLib:LibOK w:=hw
 have hoT:=own_far (own_far ho (own_arr ho HQ4 (by decide)) (p:=⟨b1,0,none⟩) (.int .i64 ((scanV s).at_:Int))) (own_arr (own_far ho (own_arr ho HQ4 (by decide)) (p:=⟨b1,0,none⟩) (.int .i64 ((scanV s).at_:Int))) (HR4.far (p:=⟨b1,0,none⟩) (Ne.symm n21) (.int .i64 ((scanV s).at_:Int))) (by decide)) (p:=⟨b2,0,none⟩) (.int .i64 ((scanV s).err:Int))
 have hnT:=own_far (own_far hn (own_arr hn HQ4 (by decide)) (p:=⟨b1,0,none⟩) (.int .i64 ((scanV s).at_:Int))) (own_arr (own_far hn (own_arr hn HQ4 (by decide)) (p:=⟨b1,0,none⟩) (.int .i64 ((scanV s).at_:Int))) (HR4.far (p:=⟨b1,0,none⟩) (Ne.symm n21) (.int .i64 ((scanV s).at_:Int))) (by decide)) (p:=⟨b2,0,none⟩) (.int .i64 ((scanV s).err:Int))
 clear HP4 HQ4 HR4 q0 qz r0 rz ho hn DS HP HQ HR
 have hs4:=hb4.size
 have l4:=Arr.lt HR5
 generalize ((w4.setCell ⟨b1,0,none⟩ (.int .i64 ((scanV s).at_:Int))).setCell ⟨b2,0,none⟩ (.int .i64 ((scanV s).err:Int)))=w5 at *
 clear hb4 hw5 HB hw3 hs4
 have q0:=HQ5.cell' (i:=0) rfl
 have qz:=HQ5.frozen 0
 have r0:=HR5.cell' (i:=0) rfl
 have rz:=HR5.frozen 0
 have p0:=HP5.cell' (i:=0) rfl
 have pz0:=HP5.frozen 0
 have p1:=HP5.cell' (i:=1) rfl
 have pz1:=HP5.frozen 1
 have p2:=HP5.cell' (i:=2) rfl
 have pz2:=HP5.frozen 2
 have p3:=HP5.cell' (i:=3) rfl
 have pz3:=HP5.frozen 3
 have p4:=HP5.cell' (i:=4) rfl
 have pz4:=HP5.frozen 4
 have p5:=HP5.cell' (i:=5) rfl
 have pz5:=HP5.frozen 5
 by_cases hse:(scanV s).err=0
 ·have hse':(((scanV s).err:Int) != 0)=false:=by simp [hse]
  obtain⟨A,cT,hvo,hcA,hcM⟩:=own_slice hoT
  subst hvo
  obtain⟨An,cn,hvn,hcn,hcN⟩:=own_slice hnT
  subst hvn
  have HX:=Lib.hid (Arr.new w5 51 [.slice A (scanV s).toks.length cT,.int .i64 (s.length:Int),.int .i64 0,.string ⟨#[]⟩,.slice none 0 0,.int .i64 0,.slice none 0 0,.slice none 0 0])
  change Hid (Arr (w5.alloc (.cells #[.slice A (scanV s).toks.length cT,.int .i64 (s.length:Int),.int .i64 0,.string ⟨#[]⟩,.slice none 0 0,.int .i64 0,.slice none 0 0,.slice none 0 0] 51)) w5.heap.size 51 [.slice A (scanV s).toks.length cT,.int .i64 (s.length:Int),.int .i64 0,.string ⟨#[]⟩,.slice none 0 0,.int .i64 0,.slice none 0 0,.slice none 0 0]) at HX
  go_upto_region 6 with(fail)
  have hb6:Below w5.heap.size w5 (w5.alloc (.cells #[.slice A (scanV s).toks.length cT,.int .i64 (s.length:Int),.int .i64 0,.string ⟨#[]⟩,.slice none 0 0,.int .i64 0,.slice none 0 0,.slice none 0 0] 51)):=(Below.refl _ _).alloc (Nat.le_refl _) _
  generalize (w5.alloc (.cells #[.slice A (scanV s).toks.length cT,.int .i64 (s.length:Int),.int .i64 0,.string ⟨#[]⟩,.slice none 0 0,.int .i64 0,.slice none 0 0,.slice none 0 0] 51))=w6 at *
  have x2:=HX.out.cell' (i:=2) rfl
  have xz2:=HX.out.frozen 2
  have x3:=HX.out.cell' (i:=3) rfl
  have xz3:=HX.out.frozen 3
  have x4:=HX.out.cell' (i:=4) rfl
  have xz4:=HX.out.frozen 4
  have x5:=HX.out.cell' (i:=5) rfl
  have xz5:=HX.out.frozen 5
  have x6:=HX.out.cell' (i:=6) rfl
  have xz6:=HX.out.frozen 6
  have x7:=HX.out.cell' (i:=7) rfl
  have xz7:=HX.out.frozen 7
  go_upto_region 7 with(fail)
  have HX7:Arr ((((((w6.setCell ⟨w5.heap.size,2,none⟩ (.int .i64 0)).setCell ⟨w5.heap.size,3,none⟩ (.string (mks s))).setCell ⟨w5.heap.size,4,none⟩ (.slice none 0 0)).setCell ⟨w5.heap.size,5,none⟩ (.int .i64 0)).setCell ⟨w5.heap.size,6,none⟩ (.slice none 0 0)).setCell ⟨w5.heap.size,7,none⟩ (.slice An (scanV s).notes.length cn)) w5.heap.size 51 [.slice A (scanV s).toks.length cT,.int .i64 (s.length:Int),.int .i64 0,.string (mks s),.slice none 0 0,.int .i64 0,.slice none 0 0,.slice An (scanV s).notes.length cn]:=(((((HX.out.store 2 (.int .i64 0)).store 3 (.string (mks s))).store 4 (.slice none 0 0)).store 5 (.int .i64 0)).store 6 (.slice none 0 0)).store 7 (.slice An (scanV s).notes.length cn)
  have hb7:Below w5.heap.size w5 ((((((w6.setCell ⟨w5.heap.size,2,none⟩ (.int .i64 0)).setCell ⟨w5.heap.size,3,none⟩ (.string (mks s))).setCell ⟨w5.heap.size,4,none⟩ (.slice none 0 0)).setCell ⟨w5.heap.size,5,none⟩ (.int .i64 0)).setCell ⟨w5.heap.size,6,none⟩ (.slice none 0 0)).setCell ⟨w5.heap.size,7,none⟩ (.slice An (scanV s).notes.length cn)):=(((((hb6.setCell (Nat.le_refl _) _).setCell (Nat.le_refl _) _).setCell (Nat.le_refl _) _).setCell (Nat.le_refl _) _).setCell (Nat.le_refl _) _).setCell (Nat.le_refl _) _
  clear x2 x3 x4 x5 x6 x7 xz2 xz3 xz4 xz5 xz6 xz7 HX hb6 p0 p1 p2 p3 p4 p5 q0 r0 qz rz pz0 pz1 pz2 pz3 pz4 pz5
  generalize ((((((w6.setCell ⟨w5.heap.size,2,none⟩ (.int .i64 0)).setCell ⟨w5.heap.size,3,none⟩ (.string (mks s))).setCell ⟨w5.heap.size,4,none⟩ (.slice none 0 0)).setCell ⟨w5.heap.size,5,none⟩ (.int .i64 0)).setCell ⟨w5.heap.size,6,none⟩ (.slice none 0 0)).setCell ⟨w5.heap.size,7,none⟩ (.slice An (scanV s).notes.length cn))=w7 at *
  have hLA:LibAt w5.heap.size w7:=⟨w5,hLib.keep hB5,rfl,hb7⟩
  have hoT7:w7.ownsRow W3.heap.size 67 4 (.slice A (scanV s).toks.length cT) (scanV s).toks.length (toksC (scanV s).toks):=own_same hoT (fun g hg=>hb7.block g (hoT.lt g hg).2)
  have hnT7:w7.ownsRow W3.heap.size 65 3 (.slice An (scanV s).notes.length cn) (scanV s).notes.length (notesC (scanV s).notes):=own_same hnT (fun g hg=>hb7.block g (hnT.lt g hg).2)
  have hPM:PMx w7 w5.heap.size w5.heap.size (fun g=>g=w5.heap.size) ⟨s.length,.int .i64 0,.string (mks s),.int .i64 0,.slice An (scanV s).notes.length cn⟩ A (scanV s).toks.length cT (.slice none 0 0) (.slice none 0 0) [] ⟨(scanV s).toks,[],[]⟩:={
   par:=HX7
   pF:=rfl
   lo:=fun g e=>by rw [e];exact Nat.le_refl _
   hi:=fun g e=>by rw [e];exact HX7.lt
   len:=rfl
   nc:=hcA
   cm:=hcM
   tok:=fun j u hj=>by
    rcases hoT7.2 with⟨_,h0⟩ | ⟨g,cap,cur,hv,_⟩
    ·rw [List.eq_nil_of_length_eq_zero h0] at hj;simp [toksC] at hj
    ·injection hv with hv1 _ _
     subst hv1
     exact⟨_,rfl,hoT7.cells (g:=g) rfl j u hj⟩
   tokA:=fun ad e=>by
    subst e
    obtain⟨C,fz,hb⟩:=own_kind hoT7 (g:=ad.block) rfl
    refine⟨?_,fun e=>?_,C,fz,hb⟩
    ·rcases hoT7.2 with⟨hv,_⟩ | ⟨g,cap,cur,hv,_⟩
     ·cases hv
     ·injection hv with hv1 _ _
      exact⟨g,0,Option.some.inj hv1⟩
    ·rw [e] at hb
     exact absurd (cells_kind HX7 hb) (by decide)
   nod:=World.ownsRow_nil _ _ _ _
   nodF:=fun g e=>by simp [Value.ownBlock] at e
   nrd:=⟨rfl,fun i nd e=>by simp at e⟩
   spn:=World.ownsRow_nil _ _ _ _
   spnF:=fun g e=>by simp [Value.ownBlock] at e }
  obtain⟨hT1,hT2,hT3⟩:=scanV_toks s hs
  have DV:=Lib.hid (value_any w5.heap.size w5.heap.size ⟨s.length,.int .i64 0,.string (mks s),.int .i64 0,.slice An (scanV s).notes.length cn⟩ 65536 (Nat.le_refl _) (2*(scanV s).toks.length+1) w7 (fun g=>g=w5.heap.size) ⟨(scanV s).toks,[],[]⟩ spanZ 0 ⟨_,_,_,_,_,_,hPM⟩ hT1 ⟨by simp,by simp⟩ hLA (by omega) (by simp) hT2)
  change Hid (Calls Tryz.prog 10 #[.pointer (some ⟨w5.heap.size,0,none⟩),.agg #[.int .i64 0,.int .i64 (-1),.int .i64 0,.int .i64 0,.int .i64 0,.int .i64 0,.int .i64 0,.bool false,.bool false],.int .i64 0] w7 (ValR w7 w5.heap.size w5.heap.size (fun g=>g=w5.heap.size) ⟨s.length,.int .i64 0,.string (mks s),.int .i64 0,.slice An (scanV s).notes.length cn⟩ (valueV s.length (2*(scanV s).toks.length+1) ⟨(scanV s).toks,[],[]⟩ spanZ 0))) at DV
  have HP7:=HP5.keep hb7
  have HQ7:=HQ5.keep hb7
  have HR7:=HR5.keep hb7
  have hB7:Below w.heap.size w w7:=hB5.trans (hb7.mono hB5.size)
  have hs57:w5.heap.size≤w7.heap.size:=hb7.size
  have hnpb:(Value.slice An (scanV s).notes.length cn).ownBlock≠some w5.heap.size:=own_arr hnT7 HX7 (by decide)
  clear HP5 HQ5 HR5 hb7 hPM hLA HX7 hoT hnT hoT7
  cases hv:valueV s.length (2*(scanV s).toks.length+1) ⟨(scanV s).toks,[],[]⟩ spanZ 0 with
  | error x=>
   have hpj:parseJ s=.error x:=by unfold parseJ;rw [if_neg (by simp [hse]),hv]
   rw [hv] at DV
   clear hv
   go_wp2_with (go_at_call 10;go_loud (refine DV.out.mono ?_;rintro e w8 ⟨he,hb8⟩;unfold failE at he;subst he))
   have HP8:=HP7.below hb8 (by omega)
   have HQ8:=HQ7.below hb8 (by omega)
   have HR8:=HR7.below hb8 (by omega)
   have hB8:Below w.heap.size w w8:=hB7.trans (hb8.mono (by omega))
   refine leaves_cons (f:=9) (args:=#[.pointer (some ⟨w.heap.size,0,none⟩),.pointer (some ⟨b1,0,none⟩),.pointer (some ⟨b2,0,none⟩)]) (by simp) (by simp [go_sem]) ?_
   refine(catch_panic w.heap.size b1 b2 x [] w8 _ _ _ _ _ _ _ _ HP8 HQ8 HR8).mono ?_
   rintro e u' w9 ⟨rfl,rfl,hCR⟩
   have hB9:Below w.heap.size w w9:=hB8.trans (hCR.2.2.2 _ (Nat.le_refl _) (by omega) (by omega))
   have q0:=hCR.2.1.cell' (i:=0) rfl
   have r0:=hCR.2.2.1.cell' (i:=0) rfl
   have p0:=hCR.1.cell' (i:=0) rfl
   have p1:=hCR.1.cell' (i:=1) rfl
   have p2:=hCR.1.cell' (i:=2) rfl
   have p3:=hCR.1.cell' (i:=3) rfl
   have p4:=hCR.1.cell' (i:=4) rfl
   have p5:=hCR.1.cell' (i:=5) rfl
   have hPR:ParseR w s (.error x) (.returned (.tuple #[.agg zDoc.toArray,.int .i64 ((x:PErr).1:Int),.int .i64 ((x:PErr).2:Int)])) w9:=⟨hB9,rfl⟩
   simp [Leaves,settle,results,Tryz.results5,go_sem,p0,p1,p2,p3,p4,p5,q0,r0]
   exact hPR
  | ok p=>
   obtain⟨v,st⟩:=p
   rw [hv] at DV
   cases hl:st.left with
   | cons t r=>
    have hpj:parseJ s=.error (t.from_,4):=by unfold parseJ;rw [if_neg (by simp [hse]),hv];simp only [hl]
    clear hv
    go_upto_region 8 with(go_at_call 10;go_loud (refine DV.out.mono ?_;rintro e w8 ⟨F8,rfl,⟨A8,n8,c8,vn8,vs8,nc8,hP8⟩,hS8⟩))
    have hb8:Below w5.heap.size w7 w8:=hS8.below (fun g e=>by rw [e];exact Nat.le_refl _) hs57
    have hB8:Below w.heap.size w w8:=hB7.trans (hb8.mono (by omega))
    have DF:Hid (Calls Tryz.prog 11 #[.pointer (some ⟨w5.heap.size,0,none⟩),.int .i64 4] w8 fun e w'=>e=failE (offV s.length st.left,4)∧w8=w'):=fail_h hP8 4
    rw [hl] at DF
    have hn8:=hP8.len
    rw [hl] at hn8
    have hn0:(0:Int)<n8:=by rw [hn8];simp
    have c0:=hP8.par.cell' (i:=0) rfl
    go_wp2_with (first | (go_at_call 11;((with_reducible refine DF.out.mono ?_));rintro e wn ⟨he,rfl⟩;unfold failE at he;subst he))
    have HP8:=HP7.below hb8 (by omega)
    have HQ8:=HQ7.below hb8 (by omega)
    have HR8:=HR7.below hb8 (by omega)
    refine leaves_cons (f:=9) (args:=#[.pointer (some ⟨w.heap.size,0,none⟩),.pointer (some ⟨b1,0,none⟩),.pointer (some ⟨b2,0,none⟩)]) (by simp) (by simp [go_sem]) ?_
    refine(catch_panic w.heap.size b1 b2 (t.from_,4) [] w8 _ _ _ _ _ _ _ _ HP8 HQ8 HR8).mono ?_
    rintro e u' w9 ⟨rfl,rfl,hCR⟩
    have hB9:Below w.heap.size w w9:=hB8.trans (hCR.2.2.2 _ (Nat.le_refl _) (by omega) (by omega))
    have q0:=hCR.2.1.cell' (i:=0) rfl
    have r0:=hCR.2.2.1.cell' (i:=0) rfl
    have p0:=hCR.1.cell' (i:=0) rfl
    have p1:=hCR.1.cell' (i:=1) rfl
    have p2:=hCR.1.cell' (i:=2) rfl
    have p3:=hCR.1.cell' (i:=3) rfl
    have p4:=hCR.1.cell' (i:=4) rfl
    have p5:=hCR.1.cell' (i:=5) rfl
    have hPR:ParseR w s (.error (t.from_,4)) (.returned (.tuple #[.agg zDoc.toArray,.int .i64 (((t.from_,4):PErr).1:Int),.int .i64 (((t.from_,4):PErr).2:Int)])) w9:=⟨hB9,rfl⟩
    simp [Leaves,settle,results,Tryz.results5,go_sem,p0,p1,p2,p3,p4,p5,q0,r0]
    exact hPR
   | nil=>
    have hpj:parseJ s=.ok ⟨st.nodes,st.spans,(scanV s).notes⟩:=by unfold parseJ;rw [if_neg (by simp [hse]),hv];simp only [hl]
    clear hv
    go_upto_region 8 with(go_at_call 10;go_loud (refine DV.out.mono ?_;rintro e w8 ⟨F8,rfl,⟨A8,n8,c8,vn8,vs8,nc8,hP8⟩,hS8⟩))
    have hb8:Below w5.heap.size w7 w8:=hS8.below (fun g e=>by rw [e];exact Nat.le_refl _) hs57
    have hB8:Below w.heap.size w w8:=hB7.trans (hb8.mono (by omega))
    have hn8:=hP8.len
    rw [hl] at hn8
    replace hn8:n8=0:=hn8
    subst hn8
    obtain⟨AN,cN,hvN,_,_⟩:=own_slice hP8.nod
    obtain⟨AS,cS,hvS,_,_⟩:=own_slice hP8.spn
    obtain⟨nN,hnN⟩:∃n,st.nodes.length=n:=⟨_,rfl⟩
    obtain⟨nS,hnS⟩:∃n,st.spans.length=n:=⟨_,rfl⟩
    subst hvN
    subst hvS
    rw [hnN] at hP8
    rw [hnS] at hP8
    have HP8:=HP7.below hb8 (by omega)
    have HQ8:=HQ7.below hb8 (by omega)
    have HR8:=HR7.below hb8 (by omega)
    have q0:=HQ8.cell' (i:=0) rfl
    have qz:=HQ8.frozen 0
    have r0:=HR8.cell' (i:=0) rfl
    have rz:=HR8.frozen 0
    have p0:=HP8.cell' (i:=0) rfl
    have pz0:=HP8.frozen 0
    have p1:=HP8.cell' (i:=1) rfl
    have pz1:=HP8.frozen 1
    have p2:=HP8.cell' (i:=2) rfl
    have pz2:=HP8.frozen 2
    have p3:=HP8.cell' (i:=3) rfl
    have pz3:=HP8.frozen 3
    have p4:=HP8.cell' (i:=4) rfl
    have pz4:=HP8.frozen 4
    have p5:=HP8.cell' (i:=5) rfl
    have pz5:=HP8.frozen 5
    have c0:=hP8.par.cell' (i:=0) rfl
    have c2:=hP8.par.cell' (i:=2) rfl
    have c3:=hP8.par.cell' (i:=3) rfl
    have c4:=hP8.par.cell' (i:=4) rfl
    have c5:=hP8.par.cell' (i:=5) rfl
    have c6:=hP8.par.cell' (i:=6) rfl
    have c7:=hP8.par.cell' (i:=7) rfl
    go_wp2_with (fail)
    have HP9:Arr ((((((((w8.setCell ⟨w.heap.size,0,none⟩ (.int .i64 0)).setCell ⟨w.heap.size,1,none⟩ (.string (mks s))).setCell ⟨w.heap.size,2,none⟩ (.slice AN nN cN)).setCell ⟨w.heap.size,3,none⟩ (.int .i64 0)).setCell ⟨w.heap.size,4,none⟩ (.slice AS nS cS)).setCell ⟨w.heap.size,5,none⟩ (.slice An (scanV s).notes.length cn)).setCell ⟨b1,0,none⟩ (.int .i64 0)).setCell ⟨b2,0,none⟩ (.int .i64 0)) w.heap.size 29 [.int .i64 0,.string (mks s),.slice AN nN cN,.int .i64 0,.slice AS nS cS,.slice An (scanV s).notes.length cn]:=(((((((HP8.store 0 (.int .i64 0)).store 1 (.string (mks s))).store 2 (.slice AN nN cN)).store 3 (.int .i64 0)).store 4 (.slice AS nS cS)).store 5 (.slice An (scanV s).notes.length cn)).far (p:=⟨b1,0,none⟩) n10 (.int .i64 0)).far (p:=⟨b2,0,none⟩) n20 (.int .i64 0)
    have HQ9:Arr ((((((((w8.setCell ⟨w.heap.size,0,none⟩ (.int .i64 0)).setCell ⟨w.heap.size,1,none⟩ (.string (mks s))).setCell ⟨w.heap.size,2,none⟩ (.slice AN nN cN)).setCell ⟨w.heap.size,3,none⟩ (.int .i64 0)).setCell ⟨w.heap.size,4,none⟩ (.slice AS nS cS)).setCell ⟨w.heap.size,5,none⟩ (.slice An (scanV s).notes.length cn)).setCell ⟨b1,0,none⟩ (.int .i64 0)).setCell ⟨b2,0,none⟩ (.int .i64 0)) b1 3 [.int .i64 0]:=(((((((HQ8.far (p:=⟨w.heap.size,0,none⟩) (Ne.symm n10) _).far (p:=⟨w.heap.size,1,none⟩) (Ne.symm n10) _).far (p:=⟨w.heap.size,2,none⟩) (Ne.symm n10) _).far (p:=⟨w.heap.size,3,none⟩) (Ne.symm n10) _).far (p:=⟨w.heap.size,4,none⟩) (Ne.symm n10) _).far (p:=⟨w.heap.size,5,none⟩) (Ne.symm n10) _).store 0 (.int .i64 0)).far (p:=⟨b2,0,none⟩) n21 (.int .i64 0)
    have HR9:Arr ((((((((w8.setCell ⟨w.heap.size,0,none⟩ (.int .i64 0)).setCell ⟨w.heap.size,1,none⟩ (.string (mks s))).setCell ⟨w.heap.size,2,none⟩ (.slice AN nN cN)).setCell ⟨w.heap.size,3,none⟩ (.int .i64 0)).setCell ⟨w.heap.size,4,none⟩ (.slice AS nS cS)).setCell ⟨w.heap.size,5,none⟩ (.slice An (scanV s).notes.length cn)).setCell ⟨b1,0,none⟩ (.int .i64 0)).setCell ⟨b2,0,none⟩ (.int .i64 0)) b2 30 [.int .i64 0]:=(((((((HR8.far (p:=⟨w.heap.size,0,none⟩) (Ne.symm n20) _).far (p:=⟨w.heap.size,1,none⟩) (Ne.symm n20) _).far (p:=⟨w.heap.size,2,none⟩) (Ne.symm n20) _).far (p:=⟨w.heap.size,3,none⟩) (Ne.symm n20) _).far (p:=⟨w.heap.size,4,none⟩) (Ne.symm n20) _).far (p:=⟨w.heap.size,5,none⟩) (Ne.symm n20) _).far (p:=⟨b1,0,none⟩) (Ne.symm n21) (.int .i64 0)).store 0 (.int .i64 0)
    have hK:∀g,b2<g→(((((((((w8.setCell ⟨w.heap.size,0,none⟩ (.int .i64 0)).setCell ⟨w.heap.size,1,none⟩ (.string (mks s))).setCell ⟨w.heap.size,2,none⟩ (.slice AN nN cN)).setCell ⟨w.heap.size,3,none⟩ (.int .i64 0)).setCell ⟨w.heap.size,4,none⟩ (.slice AS nS cS)).setCell ⟨w.heap.size,5,none⟩ (.slice An (scanV s).notes.length cn)).setCell ⟨b1,0,none⟩ (.int .i64 0)).setCell ⟨b2,0,none⟩ (.int .i64 0))).heap[g]? = w8.heap[g]?:=fun g hg=>(setCell_heap_ne _ _ _ (by simp only;omega)).trans ((setCell_heap_ne _ _ _ (by simp only;omega)).trans ((setCell_heap_ne _ _ _ (by simp only;omega)).trans ((setCell_heap_ne _ _ _ (by simp only;omega)).trans ((setCell_heap_ne _ _ _ (by simp only;omega)).trans ((setCell_heap_ne _ _ _ (by simp only;omega)).trans ((setCell_heap_ne _ _ _ (by simp only;omega)).trans (setCell_heap_ne _ _ _ (by simp only;omega))))))))
    have hB9:Below w.heap.size w ((((((((w8.setCell ⟨w.heap.size,0,none⟩ (.int .i64 0)).setCell ⟨w.heap.size,1,none⟩ (.string (mks s))).setCell ⟨w.heap.size,2,none⟩ (.slice AN nN cN)).setCell ⟨w.heap.size,3,none⟩ (.int .i64 0)).setCell ⟨w.heap.size,4,none⟩ (.slice AS nS cS)).setCell ⟨w.heap.size,5,none⟩ (.slice An (scanV s).notes.length cn)).setCell ⟨b1,0,none⟩ (.int .i64 0)).setCell ⟨b2,0,none⟩ (.int .i64 0)):=(((((((hB8.setCell (Nat.le_refl _) _).setCell (Nat.le_refl _) _).setCell (Nat.le_refl _) _).setCell (Nat.le_refl _) _).setCell (Nat.le_refl _) _).setCell (Nat.le_refl _) _).setCell (Nat.le_of_lt l1) _).setCell (by simp only;omega) _
    clear p0 p1 p2 p3 p4 p5 q0 r0 qz rz pz0 pz1 pz2 pz3 pz4 pz5 c0 c2 c3 c4 c5 c6 c7
    generalize ((((((((w8.setCell ⟨w.heap.size,0,none⟩ (.int .i64 0)).setCell ⟨w.heap.size,1,none⟩ (.string (mks s))).setCell ⟨w.heap.size,2,none⟩ (.slice AN nN cN)).setCell ⟨w.heap.size,3,none⟩ (.int .i64 0)).setCell ⟨w.heap.size,4,none⟩ (.slice AS nS cS)).setCell ⟨w.heap.size,5,none⟩ (.slice An (scanV s).notes.length cn)).setCell ⟨b1,0,none⟩ (.int .i64 0)).setCell ⟨b2,0,none⟩ (.int .i64 0))=w9 at *
    have hN9:=own_low (own_same hP8.nod (fun g hg=>hK g (by have:=(hP8.nod.lt g hg).1;omega))) (show w.heap.size≤w5.heap.size by omega)
    have hS9:=own_low (own_same hP8.spn (fun g hg=>hK g (by have:=(hP8.spn.lt g hg).1;omega))) (show w.heap.size≤w5.heap.size by omega)
    have hT8:=own_kept hnT7 hS8 (fun g hg e=>hnpb (by rw [hg];exact congrArg some e))
    have hT9:=own_low (own_same hT8 (fun g hg=>hK g (by have:=(hT8.lt g hg).1;omega))) (show w.heap.size≤W3.heap.size by omega)
    have hR9:NodesRd w9 (fun _=>True) nc8 st.nodes:=hP8.nrd.keep (fun g C fz hf hg=>by rw [hK g (by have:=hP8.lo g hf;omega)];exact hg) (fun _ _=>trivial)
    have q0:=HQ9.cell' (i:=0) rfl
    have r0:=HR9.cell' (i:=0) rfl
    have p0:=HP9.cell' (i:=0) rfl
    have p1:=HP9.cell' (i:=1) rfl
    have p2:=HP9.cell' (i:=2) rfl
    have p3:=HP9.cell' (i:=3) rfl
    have p4:=HP9.cell' (i:=4) rfl
    have p5:=HP9.cell' (i:=5) rfl
    have hPR:ParseR w s (.ok ⟨st.nodes,st.spans,(scanV s).notes⟩) (.returned (.tuple #[.agg #[.int .i64 0,.string (mks s),.slice AN nN cN,.int .i64 0,.slice AS nS cS,.slice An (scanV s).notes.length cn],.int .i64 0,.int .i64 0])) w9:=⟨hB9,_,_,_,_,rfl,hnN▸hN9,hR9,hnS▸hS9,hT9⟩
    refine leaves_cons (f:=9) (args:=#[.pointer (some ⟨w.heap.size,0,none⟩),.pointer (some ⟨b1,0,none⟩),.pointer (some ⟨b2,0,none⟩)]) (by simp) (by simp [go_sem]) ?_
    refine(catch_idle ⟨w.heap.size,0,none⟩ ⟨b1,0,none⟩ ⟨b2,0,none⟩ _).mono ?_
    rintro e u' w'' ⟨rfl,rfl,rfl⟩
    simp [Leaves,settle,results,Tryz.results5,go_sem,p0,p1,p2,p3,p4,p5,q0,r0]
    exact hPR
 ·have hse':(((scanV s).err:Int) != 0)=true:=by simp;omega
  have hpj:parseJ s=.error ((scanV s).at_,(scanV s).err):=by unfold parseJ;rw [if_pos hse]
  rw [hpj]
  go_upto_region 3 with(fail)
  go_region
  go_wp2
  have hCR:=stores_catch HP5 HQ5 HR5 n10 n20 n21 ((scanV s).at_,(scanV s).err)
  generalize ((((((((w5.setCell ⟨w.heap.size,0,none⟩ (.int .i64 0)).setCell ⟨w.heap.size,1,none⟩ (.string ⟨#[]⟩)).setCell ⟨w.heap.size,2,none⟩ (.slice none 0 0)).setCell ⟨w.heap.size,3,none⟩ (.int .i64 0)).setCell ⟨w.heap.size,4,none⟩ (.slice none 0 0)).setCell ⟨w.heap.size,5,none⟩ (.slice none 0 0)).setCell ⟨b1,0,none⟩ (.int .i64 ((scanV s).at_:Int))).setCell ⟨b2,0,none⟩ (.int .i64 ((scanV s).err:Int))).drew=W9 at *
  have hB9:Below w.heap.size w W9:=hB5.trans (hCR.2.2.2 _ (Nat.le_refl _) (by omega) (by omega))
  clear p0 p1 p2 p3 p4 p5 q0 r0 qz rz pz0 pz1 pz2 pz3 pz4 pz5
  have q0:=hCR.2.1.cell' (i:=0) rfl
  have r0:=hCR.2.2.1.cell' (i:=0) rfl
  have p0:=hCR.1.cell' (i:=0) rfl
  have p1:=hCR.1.cell' (i:=1) rfl
  have p2:=hCR.1.cell' (i:=2) rfl
  have p3:=hCR.1.cell' (i:=3) rfl
  have p4:=hCR.1.cell' (i:=4) rfl
  have p5:=hCR.1.cell' (i:=5) rfl
  have hPR:ParseR w s (.error ((scanV s).at_,(scanV s).err)) (.returned (.tuple #[.agg zDoc.toArray,.int .i64 ((scanV s).at_:Int),.int .i64 ((scanV s).err:Int)])) W9:=⟨hB9,rfl⟩
  rw [←hpj] at hPR
  simp [bodyPostD,Leaves,settle,results,Tryz.results5,go_sem,p0,p1,p2,p3,p4,p5,q0,r0]
  exact hPR
end Go.Proofs.YtijoollonkibfaaGreatDoor
