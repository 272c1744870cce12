/- The walk of canon.ParseKey at a text that is the key text of what is read. -/
import Derived.Test.YtnnnagnjikdnnaaGreatDoorMBc
import Derived.Test.YtnnnagnjikdnnaaGreatDoorMBf
import Derived.Test.YtnnnagnjikdnnaaGreatDoorMAt
import Derived.Test.YtnnnagnjikdnnaaGreatDoorMAz
set_option linter.unusedVariables false
set_option linter.unusedSimpArgs false
set_option linter.defProp false
set_option linter.constructorNameAsVariable false
namespace Go.Proofs.YtnnnagnjikdnnaaGreatDoor
open Go.RowKit
def PKeyR (nodes:List GNode) (w:World) (e:Ending) (w':World):Prop:=
 ∃g c,e=.returned (.tuple #[.agg #[.slice (some ⟨g,0,none⟩) nodes.length c,.int .i64 0],.int .i64 0])∧Below w.heap.size w w'∧GK w' g nodes
set_option maxRecDepth 100000 in
set_option maxHeartbeats 4000000 in
theorem kparsekey_any {s:List Nat} {f n:Nat} {nodes:List GNode} {kn:List Int} {m:List Bool} (hs:By s) (hl:s.length≤65536) (hn:s.length=n) (hv:valK s f 0 ⟨0,[]⟩=some (0,⟨n,nodes⟩)) (hnn:0<nodes.length) (hC:CKeyT nodes 0 kn m s) (w:World) (hw:LibE w) :
  Calls Tryz.prog 11 #[.string (mks s)] w (PKeyR nodes w):=by
 have h1:Hid (Arr (w.alloc (.cells #[.slice none 0 0,.int .i64 0] 26)) w.heap.size 26 [.slice none 0 0,.int .i64 0]):=Arr.new w _ _
 have hb1:Below w.heap.size w (w.alloc (.cells #[.slice none 0 0,.int .i64 0] 26)):=(Below.refl _ _).alloc (Nat.le_refl _) _
 have HW:=Lib.hid hw
 have DP:=Lib.hid (fun w'=>kparse_any hs hl hn hv hnn w')
 have DK:Hid (∀g c (w':World),LibE w'→GRd w' w'.heap.size g 0 nodes→Calls Tryz.prog 32 #[.agg #[.slice (some ⟨g,0,none⟩) nodes.length c,.int .i64 0]] w' fun e w2=>e=.returned (.tuple #[.string (mks s),.int .i64 0])∧Below w'.heap.size w' w2):=fun g c w' h h2=>ckeyT_any hC w' h h2
 have hl2:¬(65536:Int)<s.length:=by omega
 have hl3:(s.length:Int)≤65536:=by omega
 clear hs hn hv hC hw
 go_enter Tryz.func11,Tryz.ntmps11
 go_upto_region 3 with(fail)
 obtain⟨gb,hgb⟩:∃x,w.heap.size=x:=⟨_,rfl⟩
 have HGB:=Lib.hid hgb
 have HB1:=Lib.hid hb1
 generalize (w.alloc (.cells #[.slice none 0 0,.int .i64 0] 26))=w1 at *
 rw [hgb] at h1 HB1 ⊢
 clear hgb hb1
 have lg1:=h1.out.lt
 go_upto_region 6 with(go_at_call 31;((with_reducible refine(DP.out _).mono ?_));rintro e w2 ⟨g,c,rfl,hb2,hG2⟩;have hn2:=Lib.hid (Arr.new w2 26 [.slice (some ⟨g,0,none⟩) nodes.length c,.int .i64 0]);have HB2:=Lib.hid hb2;have HG2:=Lib.hid hG2;clear hb2 hG2)
 obtain⟨pb,hpb⟩:∃x,w2.heap.size=x:=⟨_,rfl⟩
 have hbA:Below w2.heap.size w2 (w2.alloc (.cells #[.slice (some ⟨g,0,none⟩) nodes.length c,.int .i64 0] 26)):=(Below.refl _ _).alloc (Nat.le_refl _) _
 have hs2:=HB2.out.size
 have HB3:=Lib.hid ((HB1.out.trans (HB2.out.mono (by omega))).trans (hbA.mono (by omega)))
 have HG3:=Lib.hid (HG2.out.step (KFr.below hbA))
 have h1b:=Lib.hid ((h1.out.keep HB2.out).keep hbA)
 change Hid (Arr (w2.alloc (.cells #[.slice (some ⟨g,0,none⟩) nodes.length c,.int .i64 0] 26)) _ _ _) at hn2
 generalize (w2.alloc (.cells #[.slice (some ⟨g,0,none⟩) nodes.length c,.int .i64 0] 26))=w3 at *
 rw [hpb] at hn2 ⊢
 have lgp:gb<pb:=by omega
 clear hpb hbA HB2 HG2 HB1 h1 DP
 have W3L:Hid (LibE w3):=HW.out.keep (by have h:=HB3.out;rw [←HGB.out] at h;exact h)
 have DKK:=Lib.hid (DK.out g c w3 W3L.out HG3.out.rd)
 have n0:=hn2.out.cell' (i:=0) rfl
 have n1:=hn2.out.cell' (i:=1) rfl
 go_upto_region 7 with(go_at_call 32;((with_reducible refine DKK.out.mono ?_));rintro e w4 ⟨rfl,hb4⟩)
 have hn4:=Lib.hid (hn2.out.keep hb4)
 have h14:=Lib.hid (h1b.out.keep hb4)
 have HB4:=Lib.hid (HB3.out.trans (hb4.mono (by have:=hn2.out.lt;omega)))
 have HG4:=Lib.hid (HG3.out.step (KFr.below hb4))
 clear n0 n1 hn2 h1b HB3 HG3 hb4 DK DKK W3L
 have n0:=hn4.out.cell' (i:=0) rfl
 have n1:=hn4.out.cell' (i:=1) rfl
 have x0:=h14.out.cell' (i:=0) rfl
 have x1:=h14.out.cell' (i:=1) rfl
 have xf0:=h14.out.frozen 0
 have xf1:=h14.out.frozen 1
 have hgp:gb≠pb:=by omega
 go_wp2_with (fail)
 have A5:Arr ((w4.setCell ⟨gb,0,none⟩ (.slice (some ⟨g,0,none⟩) nodes.length c)).setCell ⟨gb,1,none⟩ (.int .i64 0)) gb 26 [.slice (some ⟨g,0,none⟩) nodes.length c,.int .i64 0]:=(h14.out.store 0 _).store 1 _
 have p0:=A5.cell' (i:=0) rfl
 have p1:=A5.cell' (i:=1) rfl
 refine bodyPost_ret (v:=.tuple #[.agg #[.slice (some ⟨g,0,none⟩) nodes.length c,.int .i64 0],.int .i64 0]) (by simp [results,Tryz.results11,go_sem,p0,p1]) rfl ?_
 refine⟨g,c,rfl,?_,?_⟩
 ·rw [HGB.out]
  exact(HB4.out.setCell (p:=⟨gb,0,none⟩) (Nat.le_refl _) _).setCell (p:=⟨gb,1,none⟩) (Nat.le_refl _) _
 ·exact HG4.out.step ((KFr.set h14.out (by decide) (by decide) 0 _).trans (KFr.set (h14.out.store 0 _) (by decide) (by decide) 1 _))
end Go.Proofs.YtnnnagnjikdnnaaGreatDoor
namespace Go.Proofs.YtnnnagnjikdnnaaGreatDoor
open Go.RowKit
theorem by_dec {s:List Nat} (h:s.all (fun c=>decide (c<256))=true):By s:=fun c hc=>of_decide_eq_true (List.all_eq_true.1 h c hc)
theorem all_of {n:Nat} {p:Nat→Bool} (h:(List.range n).all p=true) {k:Nat} (hk:k<n):p k=true:=List.all_eq_true.1 h k (List.mem_range.2 hk)
def ndB (N:List GNode) (nd:GNode):Bool:=
 nd.text.all (fun c=>decide (c<256)) && (decide (nd.keys.length≤65536∧nd.items.length≤65536∧nd.text.length≤100000∧(nd.kind=0∨nd.kind=1∨nd.kind=2∨nd.kind=3∨nd.kind=5∨nd.kind=9∨nd.kind=10)) && nd.keys.all fun x=>decide ((ndAt N x.toNat).keys = []∧(ndAt N x.toNat).items = []))
def endB (N:List GNode):Bool:=match compV N 0 with
 | some s=>decide (s.inn.length=N.length∧s.sizes.length≤65536) && ((List.range N.length).all (fun i=>decide (0≤s.inn.getD i 0∧s.inn.getD i 0<(s.sizes.length:Int))) && s.sizes.all fun x=>decide (0≤x∧x≤65536))
 | none=>false
theorem endB_ok {N:List GNode} (h:endB N=true):∃s,compV N 0=some s∧EndT N s:=by
 unfold endB at h
 split at h
 ·rename_i s e
  rw [Bool.and_eq_true,Bool.and_eq_true] at h
  obtain⟨h1,h2,h3⟩:=h
  have h1:=of_decide_eq_true h1
  refine⟨s,e,h1.1,fun i hi=>of_decide_eq_true (all_of h2 hi),fun c=>?_,h1.2⟩
  rw [List.getD_eq_getElem?_getD]
  cases hc:s.sizes[c]? with
  | none=>simp
  | some x=>exact of_decide_eq_true (List.all_eq_true.1 h3 x (List.mem_of_getElem? hc))
 ·cases h
theorem ck_ok {N:List GNode} (h0:decide (0<N.length∧N.length≤4096)=true) (h1:(List.range N.length).all (fun i=>ndB N (ndAt N i))=true) (h2:endB N=true):ChkOK N 0:=by
 have h0:=of_decide_eq_true h0
 have hn:∀i,i<N.length→By (ndAt N i).text∧((ndAt N i).keys.length≤65536∧(ndAt N i).items.length≤65536∧(ndAt N i).text.length≤100000∧((ndAt N i).kind=0∨(ndAt N i).kind=1∨(ndAt N i).kind=2∨(ndAt N i).kind=3∨(ndAt N i).kind=5∨(ndAt N i).kind=9∨(ndAt N i).kind=10))∧∀x∈(ndAt N i).keys,Leaf (ndAt N x.toNat):=fun i hi=>by
  have h:=all_of h1 hi
  unfold ndB at h
  rw [Bool.and_eq_true,Bool.and_eq_true] at h
  exact⟨by_dec h.1,of_decide_eq_true h.2.1,fun x hx=>(show(ndAt N x.toNat).keys = []∧(ndAt N x.toNat).items = [] from of_decide_eq_true (List.all_eq_true.1 h.2.2 x hx))⟩
 exact {
  n0:=h0.1
  n1:=h0.2
  nl:=fun i hi=>⟨(hn i hi).2.1.1,(hn i hi).2.1.2.1⟩
  tw:={
   leaf:=fun i hi=>(hn i hi).2.2
   by_:=fun i hi=>(hn i hi).1
   wf:=fun i hi=>by rcases(hn i hi).2.1.2.2.2 with e | e | e | e | e | e | e <;> rw [e] <;> decide
   len:=fun i hi=>by have:=(hn i hi).2.1.2.2.1;rw [size_mks];unfold maxLen;omega }
  sc:=fun i hi=>by
   have hk:=(hn i hi).2.1.2.2.2
   have ht:=(hn i hi).1
   have hl:=(hn i hi).2.1.2.2.1
   generalize ndAt N i=nd at *
   refine⟨by omega,fun h9 h10=>?_⟩
   unfold scV
   rcases hk with e | e | e | e | e | e | e
   ·rw [e];exact scal_null _
   ·rw [e];exact scal_bool _ ht
   ·rw [e];exact scal_int _ ht
   ·rw [e];exact scal_dec _ ht (by omega)
   ·rw [e];exact scal_text _ (by omega)
   ·exact absurd e h9
   ·exact absurd e h10
  dp:=fun _ _=>endB_ok h2 }
end Go.Proofs.YtnnnagnjikdnnaaGreatDoor
namespace Go.Proofs.YtnnnagnjikdnnaaGreatDoor
open Go.RowKit
def cmpI (nodes:List GNode) (nd:GNode) (a b:Int):Int:=Lib.compareBytes (mks (keyT nodes nd a)).data.toList (mks (keyT nodes nd b)).data.toList
set_option maxRecDepth 20000 in
set_option maxHeartbeats 8000000 in
theorem sorted1_cb {B g o c b x y a a2 n:Nat} {nodes:List GNode} {nd:GNode} {K:Option Addr} {ck:Nat} (hn:nodes.length=n) (ha:a<nd.keys.length) (ha2:a2<nd.keys.length) (hI:∀z∈nd.keys,0≤z∧z<(n:Int)) (w:World) (hG:GRd w B g o nodes) (hK:Rd w K (I64 nd.keys))
  (hx:w.cell? ⟨x,0,none⟩=some (.pointer (some ⟨b,0,none⟩))) (hy:w.cell? ⟨y,3,none⟩=some (.slice K nd.keys.length ck)) (hb:w.cell? ⟨b,2,none⟩=some (.slice (some ⟨g,o,none⟩) n c)) :
  Calls Tryz.prog 70 #[.int .i64 (a:Int),.int .i64 (a2:Int),.pointer (some ⟨x,0,none⟩),.pointer (some ⟨y,0,none⟩)] w (RetQ (cmpI nodes nd (a:Int) (a2:Int)) w):=by
 obtain⟨ka,hka⟩:∃z,nd.keys[a]? = some z:=⟨_,List.getElem?_eq_getElem ha⟩
 obtain⟨kb,hkb⟩:∃z,nd.keys[a2]? = some z:=⟨_,List.getElem?_eq_getElem ha2⟩
 obtain⟨qa,qa2⟩:=hI ka (List.mem_of_getElem? hka)
 obtain⟨qb,qb2⟩:=hI kb (List.mem_of_getElem? hkb)
 obtain⟨ia,rfl⟩:∃z:Nat,ka=(z:Int):=⟨ka.toNat,by omega⟩
 obtain⟨ib,rfl⟩:∃z:Nat,kb=(z:Int):=⟨kb.toNat,by omega⟩
 have eab:cmpI nodes nd (a:Int) (a2:Int)=Lib.compareBytes (mks (ndAt nodes ia).text).data.toList (mks (ndAt nodes ib).text).data.toList:=by
  unfold cmpI keyT
  rw [Int.toNat_natCast,Int.toNat_natCast,List.getD_eq_getElem?_getD,List.getD_eq_getElem?_getD,hka,hkb]
  rfl
 rw [eab]
 obtain⟨_,_,_,_,_,t1,_⟩:=hG.of_at (i:=ia) (by omega)
 obtain⟨_,_,_,_,_,t2,_⟩:=hG.of_at (i:=ib) (by omega)
 generalize mks (ndAt nodes ia).text=sx at *
 generalize mks (ndAt nodes ib).text=sy at *
 have D:=Lib.hid (Tryz.strings_Compare sx sy)
 generalize Lib.compareBytes sx.data.toList sy.data.toList=r at *
 obtain⟨ad,rfl,hca⟩:=hK.at_ (I64_get hka)
 obtain⟨ad',had',hcb⟩:=hK.at_ (I64_get hkb)
 obtain rfl:=Option.some.inj had'
 obtain⟨lk,hlk⟩:∃z,nd.keys.length=z:=⟨_,rfl⟩
 rw [hlk] at hy
 have a0:(0:Int)≤a:=by omega
 have a1:(a:Int)<lk:=by omega
 have b0:(0:Int)≤a2:=by omega
 have b1:(a2:Int)<lk:=by omega
 clear hG hK hka hkb hlk eab ha ha2 had' hn hI
 go_enter Tryz.func70,Tryz.ntmps70
 go_upto_region 1 with(fail)
 go_quiet (((go_at_call 71;exact Calls.quiet_of_same (D.out _))))
 go_wp2_with (fail)
 go_ret
 exact⟨rfl,nq,rfl⟩
set_option maxRecDepth 20000 in
set_option maxHeartbeats 8000000 in
theorem wrong1_cb {B g o c b x k n:Nat} {nodes:List GNode} (hn:nodes.length=n) (hk:k<n) (h5:(ndAt nodes k).kind=5) (w:World) (hG:GRd w B g o nodes)
  (hx:w.cell? ⟨x,0,none⟩=some (.pointer (some ⟨b,0,none⟩))) (hb:w.cell? ⟨b,2,none⟩=some (.slice (some ⟨g,o,none⟩) n c)) :
  Calls Tryz.prog 36 #[.int .i64 (k:Int),.pointer (some ⟨x,0,none⟩)] w fun e w'=>e=.returned (.bool false)∧w=w':=by
 obtain⟨_,_,_,_,t1,_⟩:=hG.of_at (i:=k) (by omega)
 rw [h5] at t1
 have k0:(0:Int)≤k:=by omega
 have k1:(k:Int)<n:=by omega
 clear hG hn h5
 go_enter Tryz.func36,Tryz.ntmps36
 go_wp2_with (fail)
 go_ret
 exact⟨rfl,rfl⟩
set_option maxRecDepth 20000 in
set_option maxHeartbeats 8000000 in
theorem containsI_cb {B g o c b x n ck:Nat} {nodes:List GNode} {K:Option Addr} {ks:List Int} (hn:nodes.length=n) (hl:ks.length≤65536) (h5:∀z∈ks,0≤z∧z<(n:Int)∧(ndAt nodes z.toNat).kind=5) (w:World) (hG:GRd w B g o nodes) (hK:Rd w K (I64 ks))
  (hx:w.cell? ⟨x,0,none⟩=some (.pointer (some ⟨b,0,none⟩))) (hb:w.cell? ⟨b,2,none⟩=some (.slice (some ⟨g,o,none⟩) n c)) :
  Calls Tryz.prog 35 #[.slice K ks.length ck,.func (.func 36) #[] #[.pointer (some ⟨x,0,none⟩)]] w fun e w'=>e=.returned (.bool false)∧w=w':=by
 have D:=Lib.hid (fun(k:Nat) (hk:k<n) (h:(ndAt nodes k).kind=5)=>wrong1_cb (c:=c) hn hk h w hG hx hb)
 have HK:=Lib.hid hK
 have H5:=Lib.hid h5
 obtain⟨m,hm⟩:∃m,ks.length=m:=⟨_,rfl⟩
 have hml:m≤65536:=by omega
 have HM:=Lib.hid hm
 have hix:Hid (Calls Tryz.prog 68 #[.slice K m ck,.func (.func 36) #[] #[.pointer (some ⟨x,0,none⟩)]] w fun e w'=>e=.returned (.int .i64 (-1))∧w=w'):=by
  clear hG hK hx hb h5 hn hm
  go_enter Tryz.func68,Tryz.ntmps68
  go_wp2_with (fail)
  go_loop [8] (fun v=>∃i:Nat,i≤m∧v=.int .i64 (i:Int)) (fun v=>m - (intOf v).toNat)
  case atStart=>exact⟨0,Nat.zero_le _,rfl⟩
  case round=>
   obtain⟨i,hi,rfl⟩:=hrel
   by_cases him:i=m
   ·have hi':¬(i:Int)<m:=by omega
    go_wp2_with (fail)
    go_ret
    exact⟨rfl,rfl⟩
   ·have hi':(i:Int)<m:=by omega
    have i0:(0:Int)≤i:=by omega
    obtain⟨z,hz⟩:∃z,ks[i]? = some z:=⟨_,List.getElem?_eq_getElem (by have:=HM.out;omega)⟩
    obtain⟨z0,z1,z5⟩:=H5.out z (List.mem_of_getElem? hz)
    obtain⟨ad,rfl,hc⟩:=HK.out.at_ (I64_get hz)
    obtain⟨k,rfl⟩:∃k:Nat,z=(k:Int):=⟨z.toNat,by omega⟩
    rw [Int.toNat_natCast] at z5
    have Dk:=Lib.hid (D.out k (by omega) z5)
    clear hz z5
    go_wp2_with (go_at_call 36;((with_reducible refine Dk.out.mono ?_));rintro e w2 ⟨rfl,rfl⟩)
    go_round
    case rel=>exact⟨i+1,by omega,i64e (by omega)⟩
    case measure=>simp [intOf];omega
 rw [hm]
 clear hG hK hx hb h5 hn hm D
 go_enter Tryz.func35,Tryz.ntmps35
 go_wp2_with (go_at_call 68;((with_reducible refine hix.out.mono ?_));rintro e w2 ⟨rfl,rfl⟩)
 go_ret
 exact⟨rfl,rfl⟩
end Go.Proofs.YtnnnagnjikdnnaaGreatDoor
namespace Go.Proofs.YtnnnagnjikdnnaaGreatDoor
open Go.RowKit
def ordI (nodes:List GNode) (nd:GNode):List Int:=insS (fun a b=>decide (cmpI nodes nd a b<0)) (rngI nd.keys.length)
def SrtI (w:World) (nodes:List GNode) (nd:GNode) (m:Nat) (e:Ending) (w':World):Prop:=
 ∃ob,e=.returned (.slice (some ⟨ob,0,none⟩) m m)∧w.heap.size≤ob∧Arr w' ob 3 (I64 (ordI nodes nd))∧Below w.heap.size w w'
theorem EntS.below {w w7 W:World} {ob m:Nat} {l:List Int} (hb:Below w.heap.size w w7) (h:EntS w7 ob m l W) (ho:w.heap.size≤ob):Below w.heap.size w W:=
 ⟨h.1.os.trans hb.os,h.1.tape.trans hb.tape,h.1.output.trans hb.output,Nat.le_trans hb.size h.1.size,fun j hj=>(h.1.block j (Nat.lt_of_lt_of_le hj hb.size) (fun e=>by have:=Option.some.inj e;omega)).trans (hb.block j hj)⟩
set_option maxRecDepth 20000 in
set_option maxHeartbeats 16000000 in
theorem sorted_cb {B g o c b n m ck:Nat} {nodes:List GNode} {nd:GNode} {K:Option Addr} {v0 v1 v2 v4:Value} (hn:nodes.length=n) (hm:nd.keys.length=m) (hml:m≤12) (hI:∀z∈nd.keys,0≤z∧z<(n:Int)) (w:World) (hG:GRd w B g o nodes) (hK:Rd w K (I64 nd.keys))
  (hb:∀w',Below w.heap.size w w'→w'.cell? ⟨b,2,none⟩=some (.slice (some ⟨g,o,none⟩) n c)) :
  Calls Tryz.prog 37 #[.pointer (some ⟨b,0,none⟩),.agg #[v0,v1,v2,.slice K m ck,v4]] w (SrtI w nodes nd m):=by
 obtain⟨W,hW⟩:∃W,w.alloc (.cells #[.pointer (some ⟨b,0,none⟩)] 45)=W:=⟨_,rfl⟩
 have h1:Arr W w.heap.size 45 [.pointer (some ⟨b,0,none⟩)]:=by rw [←hW];exact Arr.new w _ _
 have hB1:Below w.heap.size w W:=by rw [←hW];exact(Below.refl _ _).alloc (Nat.le_refl _) _
 obtain⟨w5,hw5⟩:∃w5,W.alloc (.cells #[v0,v1,v2,.slice K m ck,v4] 30)=w5:=⟨_,rfl⟩
 have h5:Arr w5 W.heap.size 30 [v0,v1,v2,.slice K m ck,v4]:=by rw [←hw5];exact Arr.new W _ _
 have hb5:Below W.heap.size W w5:=by rw [←hw5];exact(Below.refl _ _).alloc (Nat.le_refl _) _
 have HB5:Hid (Below w.heap.size w w5):=hB1.trans (hb5.mono hB1.size)
 have HP5:Hid (Arr w5 w.heap.size 45 [.pointer (some ⟨b,0,none⟩)]):=h1.keep hb5
 have HN5:=Lib.hid h5
 obtain⟨pb,hpb⟩:∃pb,w.heap.size=pb:=⟨_,rfl⟩
 have HPB:=Lib.hid hpb
 obtain⟨qb,hqb⟩:∃qb,W.heap.size=qb:=⟨_,rfl⟩
 have lpq:pb<qb:=by rw [←hpb,←hqb];exact h1.lt
 have lq5:qb<w5.heap.size:=by rw [←hqb];exact h5.lt
 rw [hpb] at HP5
 rw [hqb] at HN5
 have HG:=Lib.hid hG
 have HK:=Lib.hid hK
 have HI:=Lib.hid hI
 have HN:=Lib.hid hn
 have HM:=Lib.hid hm
 have HB:=Lib.hid hb
 have hmf:∀(fn:Fn) (first cap:Array Value) (w:World),(Instr.makeFunc fn first cap).run Tryz.prog w=.ok (.func fn first cap) w:=fun _ _ _ _=>rfl
 clear hG hK hI hn hm hb h1 hB1 h5 hb5
 go_enter Tryz.func37,Tryz.ntmps37
 go_upto_region 1 with(fail)
 clear hW hw5 hpb hqb
 have x0:=HP5.out.cell' (i:=0) rfl
 have n3:=HN5.out.cell' (i:=3) rfl
 go_upto_region 2 with(at_make;go_loud (refine wpList_mk rfl _ _ 28 rfl 3 _ _ Tryz.underlying28 infoInt rfl _ _ _ _ rfl rfl m m (by omega) (by omega) (by omega) (by omega) (by unfold maxLen;omega) ?_;intro ob w6 hob hO hb6 hz6))
 have hOz:Hid (Arr w6 ob 3 (I64 (rngI 0 ++ List.replicate (m - 0) 0))):=by rw [Nat.sub_zero];show Hid (Arr w6 ob 3 (I64 (List.replicate m 0)));rw [←I64_rep];exact hO
 have HB6:Hid (Below w.heap.size w w6):=HB5.out.trans (hb6.mono HB5.out.size)
 have HP6:=Lib.hid (HP5.out.keep hb6)
 have HN6:=Lib.hid (HN5.out.keep hb6)
 have lo:qb<ob:=by have:=hob.out;omega
 have hwo:pb<ob:=by omega
 clear x0 n3 hob hO hb6 hz6 HP5 HN5 HB5 lq5
 go_upto_region 3 with(fail)
 go_loopw [13] (fun v wr=>∃(i:Nat),i≤m∧v=.int .i64 (i:Int)∧Hid (Arr wr ob 3 (I64 (rngI i ++ List.replicate (m - i) 0)))∧Hid (w6.grownBy wr (some ob))) (fun v _=>m - (intOf v).toNat)
 case atStart=>exact⟨0,Nat.zero_le _,rfl,hOz,World.grownBy.refl _ _⟩
 case round=>
  obtain⟨i,hi,rfl,hLr,hgr⟩:=hrel
  by_cases him:i=m
  ·have hi':¬(i:Int)<m:=by omega
   have hL7:Hid (Arr wr ob 3 (I64 (rngI m))):=by
    have:=hLr.out
    rw [him,Nat.sub_self,List.replicate_zero,List.append_nil] at this
    exact this
   obtain⟨w7,hw7⟩:∃x:World,x=wr:=⟨_,rfl⟩
   subst hw7
   have HP7:=Lib.hid (HP6.out.grown hgr.out (some_ne (by omega)))
   have HN7:=Lib.hid (HN6.out.grown hgr.out (some_ne (by omega)))
   have HB7:Hid (Below w.heap.size w w7):=⟨hgr.out.os.trans HB6.out.os,hgr.out.tape.trans HB6.out.tape,hgr.out.output.trans HB6.out.output,Nat.le_trans HB6.out.size hgr.out.size,fun j hj=>(hgr.out.block j (Nat.lt_of_lt_of_le hj HB6.out.size) (fun e=>by have:=Option.some.inj e;have:=HPB.out;omega)).trans (HB6.out.block j hj)⟩
   have hwz:Hid (w.heap.size≤ob):=by show _≤_;have:=HPB.out;omega
   have hSort:SortS ob m 70 pb qb (cmpI nodes nd) (EntS w7 ob m):={
    len:=fun l W h=>h.2.2.2.2
    cell:=fun l W i h hi=>⟨h.2.1.cell' (I64_getD (by have:=h.2.2.2.2;omega)),h.2.1.frozen i⟩
    swap:=fun l W j h hj=>h.swap hj
    drew:=fun l W q h=>⟨⟨h.1.os,h.1.tape,h.1.output,h.1.size,h.1.block⟩,h.2.1,h.2.2⟩
    cmp:=fun l W j h hj=>by
     have hWB:=EntS.below HB7.out h hwz.out
     obtain⟨g1,g2,g3,g4,g5⟩:=h
     obtain⟨a,ha,ham⟩:=InR_get g4 (k:=j+1) (by omega)
     obtain⟨a2,ha2,ham2⟩:=InR_get g4 (k:=j) (by omega)
     have ea:l.getD (j+1) 0=(a:Int):=by rw [List.getD_eq_getElem?_getD,ha];rfl
     have eb:l.getD j 0=(a2:Int):=by rw [List.getD_eq_getElem?_getD,ha2];rfl
     rw [ea,eb]
     refine(sorted1_cb (b:=b) (c:=c) (ck:=ck) (K:=K) HN.out (by rw [HM.out];exact ham) (by rw [HM.out];exact ham2) HI.out W (HG.out.below hWB HG.out.2.1) (HK.out.keep hWB) ((HP7.out.grown g1 (some_ne (by omega))).cell' (i:=0) rfl) (by rw [HM.out];exact(HN7.out.grown g1 (some_ne (by omega))).cell' (i:=3) rfl) (HB.out W hWB)).mono ?_
     rintro e w' ⟨rfl,q,rfl⟩
     exact⟨rfl,⟨g1.os,g1.tape,g1.output,g1.size,g1.block⟩,g2,g3,g4,g5⟩ }
   have D:=Lib.hid (sortf_i (c:=m) hSort hml (rngI m) w7 ⟨World.grownBy.refl _ _,hL7.out,rngI_nodup m,rngI_in m,rngI_len m⟩)
   have hF:Hid (∀w8,EntS w7 ob m (insS (fun a b=>decide (cmpI nodes nd a b<0)) (rngI m)) w8→SrtI w nodes nd m (.returned (.slice (some ⟨ob,0,none⟩) m m)) w8):=fun w8 h=>⟨ob,rfl,hwz.out,by unfold ordI;rw [HM.out];exact h.2.1,EntS.below HB7.out h hwz.out⟩
   clear hSort hLr hgr him hi hOz HP6 HN6 HB6 HP7 HN7 HB7 hL7 HG HK HI HN HM HB HPB hwz
   go_wp2_with (go_at_call 69;((with_reducible refine D.out.mono ?_));rintro e w8 ⟨rfl,h8⟩)
   go_ret
   exact hF.out _ h8
  ·have hi':(i:Int)<m:=by omega
   have i0:(0:Int)≤i:=by omega
   have p0:wr.cell? ⟨ob,i,none⟩=some (.int .i64 0):=hLr.out.cell' (i:=i) (by
    unfold I64
    rw [List.getElem?_map,List.getElem?_append_right (by rw [rngI_len];exact Nat.le_refl _),rngI_len,Nat.sub_self,List.getElem?_replicate,if_pos (by omega)];rfl)
   have pf:=hLr.out.frozen i
   have hL5:Hid (Arr (wr.setCell ⟨ob,i,none⟩ (.int .i64 (i:Int))) ob 3 (I64 (rngI (i+1) ++ List.replicate (m - (i+1)) 0))):=by
    have h:=hLr.out.store i (.int .i64 (i:Int))
    rw [I64_set,rng_set (by omega)] at h
    exact h
   have hg5:=Lib.hid (grown_trans hgr.out (grown_set wr ⟨ob,i,none⟩ (.int .i64 (i:Int))))
   clear hLr hgr
   go_wp2_with (fail)
   go_roundw
   case rel=>exact⟨i+1,by omega,i64e (by omega),hL5,hg5⟩
   case measure=>simp [intOf];omega
end Go.Proofs.YtnnnagnjikdnnaaGreatDoor
namespace Go.Proofs.YtnnnagnjikdnnaaGreatDoor
open Go.RowKit
def WrI (nodes:List GNode):Nat→Nat→Prop
 | 0,k=>(ndAt nodes k).kind=5
 | f+1,k=>(ndAt nodes k).kind=5∨((ndAt nodes k).kind=10∧(ndAt nodes k).ord=false∧(ndAt nodes k).keys.length=(ndAt nodes k).items.length∧(ndAt nodes k).items.length≤12∧(∀z∈(ndAt nodes k).keys,0≤z∧z<(nodes.length:Int)∧(ndAt nodes z.toNat).kind=5)∧∀z∈(ndAt nodes k).items,0≤z∧z<(nodes.length:Int)∧WrI nodes f z.toNat)
theorem ordI_len (nodes:List GNode) (nd:GNode):(ordI nodes nd).length=nd.keys.length:=by unfold ordI;rw [insS_len,rngI_len]
theorem ordI_in (nodes:List GNode) (nd:GNode):InR nd.keys.length (ordI nodes nd):=by
 unfold ordI
 exact fun x hx=>rngI_in _ x (insS_mem _ _ x hx)
theorem Rd_get {w w':World} {ad:Addr} {xs:List Value} {k:Nat} {u:Value} (h:Rd w (some ad) xs) (hk:xs[k]? = some u) (hb:Below w.heap.size w w'):w'.cell? (ad.add k)=some u:=by
 obtain⟨ad',e,hc⟩:=(h.keep hb).at_ hk
 obtain rfl:=Option.some.inj e
 exact hc
def WngR (w:World) (e:Ending) (w':World):Prop:=e=.returned (.int .i64 0)∧Below w.heap.size w w'
set_option maxRecDepth 20000 in
set_option maxHeartbeats 16000000 in
theorem wrong_text {B g o c b n k:Nat} {d:Int} {nodes:List GNode} (hn:nodes.length=n) (hk:k<n) (h5:(ndAt nodes k).kind=5) (w:World) (hG:GRd w B g o nodes)
  (hb:∀w',Below w.heap.size w w'→w'.cell? ⟨b,2,none⟩=some (.slice (some ⟨g,o,none⟩) n c)) :
  Calls Tryz.prog 13 #[.pointer (some ⟨b,0,none⟩),.int .i64 (k:Int),.int .i64 d] w (WngR w):=by
 obtain⟨W,hW⟩:∃W,w.alloc (.cells #[.pointer (some ⟨b,0,none⟩)] 45)=W:=⟨_,rfl⟩
 have h1:Arr W w.heap.size 45 [.pointer (some ⟨b,0,none⟩)]:=by rw [←hW];exact Arr.new w _ _
 have hB1:Below w.heap.size w W:=by rw [←hW];exact(Below.refl _ _).alloc (Nat.le_refl _) _
 obtain⟨K,ck,I,ci,c0,c1,c2,c3,c4,_,_⟩:=(hG.below hB1 hG.2.1).of_at (i:=k) (by omega)
 have b2:=hb W hB1
 have x0:=h1.cell' (i:=0) rfl
 have k0:(0:Int)≤k:=by omega
 have k1:(k:Int)<n:=by omega
 rw [h5] at c0
 have HB1:=Lib.hid hB1
 clear hG hn h5 hk hB1 h1 hb
 go_enter Tryz.func13,Tryz.ntmps13
 go_wp2_with (fail)
 go_ret
 exact⟨rfl,HB1.out.alloc HB1.out.size _⟩
set_option maxRecDepth 20000 in
set_option maxHeartbeats 16000000 in
theorem wrong_cb {B g o c b n:Nat} {nodes:List GNode} (hn:nodes.length=n):∀(f k d:Nat) (w:World),d+f≤2→k<n→WrI nodes f k→GRd w B g o nodes →
  (∀w',Below w.heap.size w w'→w'.cell? ⟨b,2,none⟩=some (.slice (some ⟨g,o,none⟩) n c)) →
  Calls Tryz.prog 13 #[.pointer (some ⟨b,0,none⟩),.int .i64 (k:Int),.int .i64 (d:Int)] w (WngR w):=by
 intro f
 induction f with
 | zero=>exact fun k d w _ hk h hG hb=>wrong_text hn hk h w hG hb
 | succ f IH=>
  intro k d w hdf hk hWr hG hb
  rcases hWr with h5 | ⟨h10,hod,hlen,hfew,hkeys,hitems⟩
  ·exact wrong_text hn hk h5 w hG hb
  obtain⟨W,hW⟩:∃W,w.alloc (.cells #[.pointer (some ⟨b,0,none⟩)] 45)=W:=⟨_,rfl⟩
  have h1:Arr W w.heap.size 45 [.pointer (some ⟨b,0,none⟩)]:=by rw [←hW];exact Arr.new w _ _
  have hB1:Below w.heap.size w W:=by rw [←hW];exact(Below.refl _ _).alloc (Nat.le_refl _) _
  obtain⟨K,ck,I,ci,c0,c1,c2,c3,c4,⟨rK,_⟩,⟨rI,_⟩⟩:=(hG.below hB1 hG.2.1).of_at (i:=k) (by omega)
  have b2:=hb W hB1
  have x0:=h1.cell' (i:=0) rfl
  have k0:(0:Int)≤k:=by omega
  have k1:(k:Int)<n:=by omega
  have d1:¬(1:Int)<d:=by omega
  obtain⟨m,hm⟩:∃m,(ndAt nodes k).items.length=m:=⟨_,rfl⟩
  rw [hm] at hlen hfew c4
  rw [h10] at c0
  rw [hod] at c2
  rw [hlen] at c3
  obtain⟨tx,htx⟩:∃tx,mks (ndAt nodes k).text=tx:=⟨_,rfl⟩
  rw [htx] at c1
  obtain⟨w2,hw2⟩:∃w2,W.alloc (.cells #[.int .i64 10,.string tx,.bool false,.slice K m ck,.slice I m ci] 30)=w2:=⟨_,rfl⟩
  have h2:Arr w2 W.heap.size 30 [.int .i64 10,.string tx,.bool false,.slice K m ck,.slice I m ci]:=by rw [←hw2];exact Arr.new W _ _
  have hb2:Below W.heap.size W w2:=by rw [←hw2];exact(Below.refl _ _).alloc (Nat.le_refl _) _
  have HB2:Hid (Below w.heap.size w w2):=hB1.trans (hb2.mono hB1.size)
  obtain⟨nd,hnd⟩:∃nd,ndAt nodes k=nd:=⟨_,rfl⟩
  rw [hnd] at hm hlen hkeys hitems rK rI
  have HP2:=Lib.hid (h1.keep hb2)
  have HQ2:=Lib.hid h2
  have HK2:=Lib.hid (rK.keep hb2)
  have HI2:=Lib.hid (rI.keep hb2)
  have HG2:=Lib.hid (hG.below HB2.out hG.2.1)
  have Hb2:Hid (∀w',Below w2.heap.size w2 w'→w'.cell? ⟨b,2,none⟩=some (.slice (some ⟨g,o,none⟩) n c)):=fun w' h=>hb w' (HB2.out.trans (h.mono HB2.out.size))
  have HKs:=Lib.hid hkeys
  have HIs:=Lib.hid hitems
  have HL:=Lib.hid hlen
  have HM:=Lib.hid hm
  have HN:=Lib.hid hn
  have HIH:=Lib.hid IH
  have hmf:∀(fn:Fn) (first cap:Array Value) (w:World),(Instr.makeFunc fn first cap).run Tryz.prog w=.ok (.func fn first cap) w:=fun _ _ _ _=>rfl
  have D1:Hid (Calls Tryz.prog 35 #[.slice K m ck,.func (.func 36) #[] #[.pointer (some ⟨w.heap.size,0,none⟩)]] w2 fun e w'=>e=.returned (.bool false)∧w2=w'):=by
   have h:=containsI_cb (c:=c) (ck:=ck) (b:=b) (x:=w.heap.size) hn (ks:=nd.keys) (by omega) (by rw [←hn];exact hkeys) w2 HG2.out HK2.out (HP2.out.cell' (i:=0) rfl) (Hb2.out w2 (Below.refl _ _))
   rw [hlen] at h
   exact h
  have D2:Hid (Calls Tryz.prog 37 #[.pointer (some ⟨b,0,none⟩),.agg #[.int .i64 10,.string tx,.bool false,.slice K m ck,.slice I m ci]] w2 (SrtI w2 nodes nd m)):=
   sorted_cb hn hlen hfew (fun z hz=>by have:=hkeys z hz;rw [hn] at this;exact⟨this.1,this.2.1⟩) w2 HG2.out HK2.out Hb2.out
  have hdf':d+1+f≤2:=by omega
  clear hG hn hk hB1 h1 hb rK rI h2 hb2 hkeys hitems hlen hm IH hdf hnd h10 hod htx
  go_enter Tryz.func13,Tryz.ntmps13
  go_upto_region 1 with(fail)
  go_upto_region 2 with(fail)
  obtain⟨pb,hpb⟩:∃pb,w.heap.size=pb:=⟨_,rfl⟩
  obtain⟨qb,hqb⟩:∃pb,W.heap.size=pb:=⟨_,rfl⟩
  rw [hpb,hqb]
  rw [hpb] at HP2 D1
  rw [hqb] at HQ2
  clear hW hw2 hpb hqb c0 c1 c2 c3 c4 b2 x0
  have x0:=HP2.out.cell' (i:=0) rfl
  have n0:=HQ2.out.cell' (i:=0) rfl
  have n1:=HQ2.out.cell' (i:=1) rfl
  have n2:=HQ2.out.cell' (i:=2) rfl
  have n3:=HQ2.out.cell' (i:=3) rfl
  have n4:=HQ2.out.cell' (i:=4) rfl
  go_upto_region 10 with(go_at_call 35;((with_reducible refine D1.out.mono ?_));rintro e w3 ⟨rfl,rfl⟩)
  go_upto_region 11 with(go_at_call 37;((with_reducible refine D2.out.mono ?_));rintro e w3 ⟨ob,rfl,hob,hA3,hb3⟩)
  have HP3:=Lib.hid (HP2.out.keep hb3)
  have HQ3:=Lib.hid (HQ2.out.keep hb3)
  have HI3:=Lib.hid (HI2.out.keep hb3)
  have HG3:=Lib.hid (HG2.out.below hb3 HG2.out.2.1)
  have Hb3:Hid (∀w',Below w3.heap.size w3 w'→w'.cell? ⟨b,2,none⟩=some (.slice (some ⟨g,o,none⟩) n c)):=fun w' h=>Hb2.out w' (hb3.trans (h.mono hb3.size))
  have HB3:Hid (Below w.heap.size w w3):=HB2.out.trans (hb3.mono HB2.out.size)
  have HA3:=Lib.hid hA3
  clear hA3 hb3 hob HP2 HQ2 HI2 HG2 Hb2 HB2 HK2 D1 D2 x0 n0 n1 n2 n3 n4 HKs d1 hmf
  go_loopw [43] (fun v wr=>∃(i:Nat),i≤m∧v=.int .i64 (i:Int)∧Hid (Below w3.heap.size w3 wr)) (fun v _=>m - (intOf v).toNat)
  case atStart=>exact⟨0,Nat.zero_le _,rfl,Below.refl _ _⟩
  case round=>
   obtain⟨i,hi,rfl,hbr⟩:=hrel
   by_cases him:i=m
   ·have hi':¬(i:Int)<m:=by omega
    have hF:Hid (WngR w (.returned (.int .i64 0)) wr):=⟨rfl,HB3.out.trans (hbr.out.mono HB3.out.size)⟩
    clear HP3 HQ3 HI3 HG3 Hb3 HB3 HA3 hbr HIs HL HM HN HIH
    go_wp2_with (fail)
    go_ret
    exact hF.out
   ·have hi':(i:Int)<m:=by omega
    have i0:(0:Int)≤i:=by omega
    obtain⟨a,ha,ham⟩:=InR_get (ordI_in nodes nd) (k:=i) (by rw [ordI_len,HL.out];omega)
    rw [HL.out] at ham
    obtain⟨z,hz⟩:∃z,nd.items[a]? = some z:=⟨_,List.getElem?_eq_getElem (by rw [HM.out];exact ham)⟩
    obtain⟨z0,z1,zW⟩:=HIs.out z (List.mem_of_getElem? hz)
    obtain⟨q,rfl⟩:∃q:Nat,z=(q:Int):=⟨z.toNat,by omega⟩
    rw [Int.toNat_natCast] at zW
    have hq:q<n:=by have:=HN.out;omega
    obtain⟨d',hd'⟩:∃d',d+1=d':=⟨_,rfl⟩
    have e1:(d:Int)+1=(d':Int):=by omega
    have e0:(0:Int)≤d':=by omega
    have d0:(0:Int)≤d:=by omega
    have d2:(d:Int)≤1:=by omega
    have d3:IntKind.wrap .i64 (d':Int)=d':=by rw [IntKind.wrap_i64];omega
    have e2:(d':Int)≤2:=by omega
    rw [hd'] at hdf'
    have D:=Lib.hid (fun(w':World) (h:Below w3.heap.size w3 w')=>HIH.out q d' w' hdf' hq zW (HG3.out.below h HG3.out.2.1) (fun w'' h'=>Hb3.out w'' (h.trans (h'.mono h.size))))
    obtain⟨ad,hI,hca⟩:=(HI3.out.keep hbr.out).at_ (I64_get hz)
    rw [hI] at HQ3 HI3
    have HZ:=Lib.hid (I64_get hz)
    have x0:=(HP3.out.keep hbr.out).cell' (i:=0) rfl
    have n4:=(HQ3.out.keep hbr.out).cell' (i:=4) rfl
    have l0:wr.cell? ⟨ob,i,none⟩=some (.int .i64 (a:Int)):=(HA3.out.keep hbr.out).cell' (I64_get ha)
    have a0:(0:Int)≤a:=by omega
    have a1:(a:Int)<m:=by omega
    clear HIs HL HM HN HIH HG3 Hb3 HB3 hz zW z0 z1 ha hI hd' hdf'
    go_upto_region 13 with(fail)
    go_region_held3 (fun w'=>w'.cell? ⟨pb,0,none⟩=some (.pointer (some ⟨b,0,none⟩))∧w'.cell? ⟨qb,4,none⟩=some (.slice (some ad) m ci)∧w'.cell? (ad.add a)=some (.int .i64 (q:Int))) (first | exact⟨by assumption,by assumption,by assumption⟩ | go_keep) (first | (go_at_call 13;((with_reducible refine(D.out _ hbr.out.drew).mono ?_));rintro e w6 ⟨rfl,hb6⟩;have hB6:=hbr.out.drew.trans (hb6.mono hbr.out.drew.size);have y0:=(HP3.out.keep hB6).cell' (i:=0) rfl;have y4:=(HQ3.out.keep hB6).cell' (i:=4) rfl;have ya:w6.cell? (ad.add a)=some (.int .i64 (q:Int)):=Rd_get HI3.out HZ.out hB6;have HB6:=Lib.hid hB6;clear hB6 hb6))
    all_goals
     go_wp2_with (fail)
     go_roundw
     case rel=>exact⟨i+1,by omega,i64e (by omega),HB6.out⟩
     case measure=>simp [intOf];omega
end Go.Proofs.YtnnnagnjikdnnaaGreatDoor
