/- The walks of slices.Equal of numbers, of canon.Same's closure and of slices.EqualFunc over it, at equal nodes. -/
import Derived.Test.YtnnnagnjikdnnaaGreatDoorMBv
import Derived.Test.YtnnnagnjikdnnaaGreatDoorMBc
import Derived.Test.YtnnnagnjikdnnaaGreatDoorMAq
set_option linter.unusedVariables false
set_option linter.unusedSimpArgs false
set_option linter.defProp false
set_option linter.constructorNameAsVariable false
namespace Go.Proofs.YtnnnagnjikdnnaaGreatDoor
open Go.RowKit
set_option maxRecDepth 20000 in
set_option maxHeartbeats 4000000 in
theorem iequal_cb {xs:List Int} {A A':Option Addr} {c c':Nat} (hl:xs.length≤100000) (w:World) (hA:Rd w A (I64 xs)) (hA':Rd w A' (I64 xs)) :
  Calls Tryz.prog 30 #[.slice A xs.length c,.slice A' xs.length c'] w fun e w'=>e=.returned (.bool true)∧Below w.heap.size w w':=by
 have HA:=Lib.hid hA
 have HA':=Lib.hid hA'
 obtain⟨n,hn⟩:∃n,xs.length=n:=⟨_,rfl⟩
 have HN:=Lib.hid hn
 have H0:=Lib.hid (Below.refl w.heap.size w)
 rw [hn] at hl ⊢
 clear hA hA' hn
 go_enter Tryz.func30,Tryz.ntmps30
 go_upto_region 4 with(fail)
 go_loopw [13] (fun v wr=>∃i:Nat,i≤n∧v=.int .i64 (i:Int)∧Hid (Below w.heap.size w wr)) (fun v _=>n - (intOf v).toNat)
 case atStart=>exact⟨0,Nat.zero_le _,rfl,H0⟩
 case round=>
  obtain⟨i,hi,rfl,hB⟩:=hrel
  by_cases hin:i=n
  ·have hi':¬(i:Int)<n:=by omega
   go_wp2
   go_ret
   exact⟨rfl,hB.out⟩
  ·have hi':(i:Int)<n:=by omega
   have i0:(0:Int)≤i:=by omega
   obtain⟨x,hx⟩:∃x,xs[i]? = some x:=⟨_,List.getElem?_eq_getElem (by have:=HN.out;omega)⟩
   obtain⟨a,rfl,ha⟩:=(HA.out.keep hB.out).at_ (I64_get hx)
   obtain⟨b,rfl,hb⟩:=(HA'.out.keep hB.out).at_ (I64_get hx)
   clear hin hx
   go_upto_region 6 with(fail)
   go_quiet (fail)
   go_wp2
   go_roundw
   case rel=>exact⟨i+1,by omega,i64e (by omega),Below.drewN' hB.out _⟩
   case measure=>first | (simp [intOf];done) | (simp [intOf];omega)
set_option maxRecDepth 20000 in
set_option maxHeartbeats 8000000 in
theorem same1_cb {nd:GNode} {K I K' I':Option Addr} {ck ci ck' ci':Nat} (hk:nd.keys.length≤100000) (hi:nd.items.length≤100000) (w:World) (h1:Rd w K (I64 nd.keys)) (h2:Rd w I (I64 nd.items)) (h3:Rd w K' (I64 nd.keys)) (h4:Rd w I' (I64 nd.items)) :
  Calls Tryz.prog 29 #[.agg #[.int .i64 nd.kind,.string (mks nd.text),.bool nd.ord,.slice K nd.keys.length ck,.slice I nd.items.length ci],.agg #[.int .i64 nd.kind,.string (mks nd.text),.bool nd.ord,.slice K' nd.keys.length ck',.slice I' nd.items.length ci']] w fun e w'=>e=.returned (.bool true)∧Below w.heap.size w w':=by
 obtain⟨q1,q2,hb1,hz1⟩:=box2 w 30 30 [.int .i64 nd.kind,.string (mks nd.text),.bool nd.ord,.slice K nd.keys.length ck,.slice I nd.items.length ci] [.int .i64 nd.kind,.string (mks nd.text),.bool nd.ord,.slice K' nd.keys.length ck',.slice I' nd.items.length ci']
 have D1:=Lib.hid (fun w' (hb:Below w.heap.size w w')=>iequal_cb (c:=ck) (c':=ck') hk w' (h1.keep hb) (h3.keep hb))
 have D2:=Lib.hid (fun w' (hb:Below w.heap.size w w')=>iequal_cb (c:=ci) (c':=ci') hi w' (h2.keep hb) (h4.keep hb))
 have HB:=Lib.hid hb1
 clear h1 h2 h3 h4 hk hi hb1 hz1
 generalize nd.keys.length=nk at *
 generalize nd.items.length=ni at *
 generalize nd.kind=kd at *
 generalize nd.ord=od at *
 obtain⟨T,hT⟩:∃T,mks nd.text=T:=⟨_,rfl⟩
 rw [hT] at q1 q2 HB ⊢
 clear hT
 go_enter Tryz.func29,Tryz.ntmps29
 go_upto_region 1 with(fail)
 generalize ((w.alloc (.cells #[.int .i64 kd,.string T,.bool od,.slice K nk ck,.slice I ni ci] 30)).alloc (.cells #[.int .i64 kd,.string T,.bool od,.slice K' nk ck',.slice I' ni ci'] 30))=W at *
 have a0:=q1.out.cell' (i:=0) rfl
 have b0:=q2.out.cell' (i:=0) rfl
 have a1:=q1.out.cell' (i:=1) rfl
 have b1:=q2.out.cell' (i:=1) rfl
 have a2:=q1.out.cell' (i:=2) rfl
 have b2:=q2.out.cell' (i:=2) rfl
 have a3:=q1.out.cell' (i:=3) rfl
 have b3:=q2.out.cell' (i:=3) rfl
 have a4:=q1.out.cell' (i:=4) rfl
 have b4:=q2.out.cell' (i:=4) rfl
 have et:(T.toList == T.toList)=true:=by simp
 have eo:(od == od)=true:=by simp
 have ek:(kd == kd)=true:=by simp
 go_wp2_with (first | (go_at_call 30;((with_reducible refine(D1.out _ HB.out).mono ?_));rintro e w5 ⟨rfl,hb5⟩;have HB5:=Lib.hid (HB.out.trans (hb5.mono HB.out.size));have p4:=(q1.out.keep hb5).cell' (i:=4) rfl;have r4:=(q2.out.keep hb5).cell' (i:=4) rfl) | (go_at_call 30;((with_reducible refine(D2.out _ HB5.out).mono ?_));rintro e w6 ⟨rfl,hb6⟩))
 go_ret
 exact⟨rfl,HB5.out.trans (hb6.mono HB5.out.size)⟩
set_option maxRecDepth 20000 in
set_option maxHeartbeats 8000000 in
theorem eqfunc_cb {N:List GNode} {a b ca cb:Nat} (hl:N.length≤4096) (hL:NL 65536 N) (w:World) (hA:GRd w w.heap.size a 0 N) (hB:GRd w w.heap.size b 0 N) :
  Calls Tryz.prog 28 #[.slice (some ⟨a,0,none⟩) N.length ca,.slice (some ⟨b,0,none⟩) N.length cb,.func (.func 29) #[] #[]] w fun e w'=>e=.returned (.bool true)∧Below w.heap.size w w':=by
 have HA:=Lib.hid hA
 have HB:=Lib.hid hB
 have HL:=Lib.hid hL
 obtain⟨n,hn⟩:∃n,N.length=n:=⟨_,rfl⟩
 have HN:=Lib.hid hn
 have H0:=Lib.hid (Below.refl w.heap.size w)
 rw [hn] at hl ⊢
 clear hA hB hn hL
 go_enter Tryz.func28,Tryz.ntmps28
 go_upto_region 4 with(fail)
 go_loopw [17] (fun v wr=>∃i:Nat,i≤n∧v=.int .i64 (i:Int)∧Hid (Below w.heap.size w wr)) (fun v _=>n - (intOf v).toNat)
 case atStart=>exact⟨0,Nat.zero_le _,rfl,H0⟩
 case round=>
  obtain⟨i,hi,rfl,hW⟩:=hrel
  by_cases hin:i=n
  ·have hi':¬(i:Int)<n:=by omega
   go_wp2
   go_ret
   exact⟨rfl,hW.out⟩
  ·have hi':(i:Int)<n:=by omega
   have i0:(0:Int)≤i:=by omega
   have hil:i<N.length:=by have:=HN.out;omega
   have hGA:=HA.out.below hW.out (Nat.le_refl _)
   have hGB:=HB.out.below hW.out (Nat.le_refl _)
   obtain⟨K,ck,I,ci,a0,a1,a2,a3,a4,⟨hK,hKb⟩,hI,hIb⟩:=hGA.of_at hil
   obtain⟨K',ck',I',ci',b0,b1,b2,b3,b4,⟨hK',hKb'⟩,hI',hIb'⟩:=hGB.of_at hil
   have D:=Lib.hid (fun w' (hb:Below wr.heap.size wr w')=>same1_cb (ck:=ck) (ci:=ci) (ck':=ck') (ci':=ci') (by have:=(HL.out i hil).1;omega) (by have:=(HL.out i hil).2;omega) w' (hK.keep hb) (hI.keep hb) (hK'.keep hb) (hI'.keep hb))
   rw [Nat.zero_add] at a0 a1 a2 a3 a4 b0 b1 b2 b3 b4
   clear hGA hGB hK hI hK' hI' hKb hIb hKb' hIb' hil hin
   generalize ndAt N i=nd at *
   generalize nd.keys.length=nk at *
   generalize nd.items.length=ni at *
   have hba:=(Below.refl wr.heap.size wr).alloc (Nat.le_refl _) (.cells #[.int .i64 nd.kind,.string (mks nd.text),.bool nd.ord,.slice K nk ck,.slice I ni ci] 30)
   obtain⟨q1,q2,hb2,hz2⟩:=box2 wr 30 30 [.int .i64 nd.kind,.string (mks nd.text),.bool nd.ord,.slice K nk ck,.slice I ni ci] [.int .i64 nd.kind,.string (mks nd.text),.bool nd.ord,.slice K' nk ck',.slice I' ni ci']
   have gB:∀q u,wr.cell? q=some u→(wr.alloc (.cells #[.int .i64 nd.kind,.string (mks nd.text),.bool nd.ord,.slice K nk ck,.slice I ni ci] 30)).cell? q=some u:=fun q u hq=>(hba.cell (block_lt_of_cell hq)).trans hq
   have b0':=gB _ _ b0
   have b1':=gB _ _ b1
   have b2':=gB _ _ b2
   have b3':=gB _ _ b3
   have b4':=gB _ _ b4
   have HB2:=Lib.hid hb2
   clear gB hba hb2 hz2
   go_upto_region 7 with(fail)
   generalize ((wr.alloc (.cells #[.int .i64 nd.kind,.string (mks nd.text),.bool nd.ord,.slice K nk ck,.slice I ni ci] 30)).alloc (.cells #[.int .i64 nd.kind,.string (mks nd.text),.bool nd.ord,.slice K' nk ck',.slice I' ni ci'] 30))=W at *
   clear a0 a1 a2 a3 a4 b0 b1 b2 b3 b4 b0' b1' b2' b3' b4'
   have a0:=q1.out.cell' (i:=0) rfl
   have b0:=q2.out.cell' (i:=0) rfl
   have a1:=q1.out.cell' (i:=1) rfl
   have b1:=q2.out.cell' (i:=1) rfl
   have a2:=q1.out.cell' (i:=2) rfl
   have b2:=q2.out.cell' (i:=2) rfl
   have a3:=q1.out.cell' (i:=3) rfl
   have b3:=q2.out.cell' (i:=3) rfl
   have a4:=q1.out.cell' (i:=4) rfl
   have b4:=q2.out.cell' (i:=4) rfl
   go_wp2_with (go_at_call 29;((with_reducible refine(D.out _ HB2.out).mono ?_));rintro e w6 ⟨rfl,hb6⟩)
   go_roundw
   case rel=>exact⟨i+1,by omega,i64e (by omega),hW.out.trans ((HB2.out.trans (hb6.mono HB2.out.size)).mono hW.out.size)⟩
   case measure=>first | (simp [intOf];done) | (simp [intOf];omega)
end Go.Proofs.YtnnnagnjikdnnaaGreatDoor
namespace Go.Proofs.YtnnnagnjikdnnaaGreatDoor
open Go.RowKit
theorem normal_gk {n:Nat} {N:List GNode} {g c:Nat} (hn:N.length=n) (hOK:NormOK N) (hr:0<N.length) {v:Int} {s':NSt} (hv:visitN N (entV N) (N.length+1) ((0:Nat):Int) ⟨List.replicate N.length (-1),0,List.replicate N.length nd0⟩=some (v,s')) (w:World) (hG:GRd w w.heap.size g 0 N) :
  Calls Tryz.prog 27 #[.agg #[.slice (some ⟨g,0,none⟩) n c,.int .i64 0]] w fun e w'=>∃om,e=.returned (.agg #[.slice (some ⟨om,0,none⟩) n n,.int .i64 0])∧Below w.heap.size w w'∧GK w' om s'.out:=
 (normal_any (c:=c) hn hOK.idx hOK.nl hOK.len hOK.ent hOK.key hr hv w hG).mono fun _ _ ⟨om,he,hb,_,⟨_,ha,hN⟩,_⟩=>⟨om,he,hb,gk_arr ha hN⟩
section
variable {P:Program} {ops:Array Oper} {Q:Exit→Act→World→Prop}
theorem wpOp_enter {i:Nat} {o:Oper} {a:Act} {w w':World} {f:FuncId} {args:Array Value} {K:Act→World→Prop} (ho:ops[i]? = some o) (hg:o.guard=none) (hr:(execOp a.eval o).run P w=.ok (.enter f args) w') {R:Ending→World→Prop} (hc:Calls P f args w' R) (hK:∀e w'',R e w''→∃v,e=.returned v∧K (a.put o.dst v) w''):wpOp P ops Q i K a w:=by
 unfold wpOp
 simp only [ho]
 rw [if_pos (by simp [Region.wanted,hg])]
 left
 unfold Oper.wp
 rw [hr]
 refine hc.mono fun e w'' h=>?_
 obtain⟨v,rfl,hk⟩:=hK e w'' h
 exact hk
end
section
variable {P:Program} {ops:Array Oper} {Q:Exit→Act→World→Prop}
theorem wpAny_inv2 {V:Type} (lst:V→Array Bool) (act:V→Act) (Inv:V→World→Prop) (cnt:V→Nat)
  (hz:∀v,cnt v=0→Region.ready .any ops (lst v) = [])
  (hend:∀v w,Inv v w→Region.ready .any ops (lst v) = []→Q .normal (act v) w)
  (hstep:∀v w,Inv v w→∀i∈Region.ready .any ops (lst v),wpOp P ops Q i (fun a' w'=>∃v',lst v'=(lst v).setIfInBounds i true∧cnt v'<cnt v∧Inv v' w'∧a'=act v') (act v) w)
  (fuel:Nat):∀(v:V) (w:World),cnt v≤fuel→Inv v w→wpAny P .any ops Q fuel (lst v) (act v) w:=by
 induction fuel with
 | zero=>
  intro v w hc hI
  have:=hz v (by omega)
  exact⟨this,hend v w hI this⟩
 | succ fuel ih=>
  intro v w hc hI
  refine⟨hend v w hI,fun i hi=>?_⟩
  refine wpOp_mono (fun a' w' h=>?_) (hstep v w hI i hi)
  obtain⟨v',hl,hlt,h1,h2⟩:=h
  subst h2
  rw [←hl]
  exact ih v' w' (by omega) h1
theorem wp_region_inv2 {V:Type} (lst:V→Array Bool) (act:V→Act) (Inv:V→World→Prop) (cnt:V→Nat) (v0:V) {id:Nat} {a:Act} {w:World} (hm:P.follows .mixedOrders=true)
  (h0l:lst v0=Array.replicate ops.size false) (h0a:act v0=a) (h0c:cnt v0≤ops.size) (h0:Inv v0 w.drew)
  (hz:∀v,cnt v=0→Region.ready .any ops (lst v) = [])
  (hend:∀v w,Inv v w→Region.ready .any ops (lst v) = []→Q .normal (act v) w)
  (hstep:∀v w,Inv v w→∀i∈Region.ready .any ops (lst v),wpOp P ops Q i (fun a' w'=>∃v',lst v'=(lst v).setIfInBounds i true∧cnt v'<cnt v∧Inv v' w'∧a'=act v') (act v) w) :
  (Code.region id ops true).wp P Q a w:=by
 refine wp_region_any hm ?_
 have:=wpAny_inv2 (P:=P) (Q:=Q) lst act Inv cnt hz hend hstep ops.size v0 w.drew h0c h0
 rw [h0l,h0a] at this
 exact this
end
structure V9 where
 l0:Bool
 e1:Option Nat
 l2:Bool
 e3:Option Nat
 a4:Option Nat
 a5:Option Nat
 s6:Bool
 s7:Bool
def lst9 (v:V9):Array Bool:=#[v.l0,v.e1.isSome,v.l2,v.e3.isSome,v.a4.isSome,v.a5.isSome,v.s6,v.s7]
def grV (n:Nat) (o:Option Nat):Value:=match o with | none=>undef | some b=>.agg #[.slice (some ⟨b,0,none⟩) n n,.int .i64 0]
def ldV (x:Value) (b:Bool):Value:=if b then x else undef
def gC9 (n:Nat) (s:Bool) (o:Option Nat):List Value:=if s then [slV n o,.int .i64 0] else [.slice none 0 0,.int .i64 0]
def act9 (xa xb sa sb:Value) (b1 b2 n:Nat) (v:V9):Act:=⟨#[xa,xb,.pointer (some ⟨b1,0,none⟩),.pointer (some ⟨b2,0,none⟩),.bool false,bxV v.a4,bxV v.a5,.pointer (some ⟨b1,0,none⟩),sa,.int .i64 (n:Int),.pointer (some ⟨b2,0,none⟩),sb,.int .i64 (n:Int),.bool false,.bool false,xa,.int .i64 0,.bool false,.bool false,.bool false,xb,.int .i64 0,.bool false,.bool false,ldV xa v.l0,grV n v.e1,ldV xb v.l2,grV n v.e3,undef,undef,undef,undef,undef],[]⟩
def cnt9 (v:V9):Nat:=one30 v.l0+one30 v.e1.isSome+one30 v.l2+one30 v.e3.isSome+one30 v.a4.isSome+one30 v.a5.isSome+one30 v.s6+one30 v.s7
structure Inv9 (n z:Nat) (N2:List GNode) (W:World) (v:V9) (w:World):Prop where
 bl:Below z W w
 hz:z≤w.heap.size
 e1:∀o,v.e1=some o→GK w o N2
 e3:∀o,v.e3=some o→GK w o N2
 a4:∀b,v.a4=some b→z≤b∧Arr w b 26 (gC9 n v.s6 v.e1)
 a5:∀b,v.a5=some b→z≤b∧Arr w b 26 (gC9 n v.s7 v.e3)
 o6:v.s6=true→v.e1.isSome=true∧v.a4.isSome=true
 o7:v.s7=true→v.e3.isSome=true∧v.a5.isSome=true
 d:∀b,v.a4=some b→v.a5≠some b
section
variable {n z:Nat} {N2:List GNode} {W w w':World} {v:V9}
theorem Inv9.old (h:Inv9 n z N2 W v w) {b:Nat} (hb:b=w.heap.size):v.a4≠some b∧v.a5≠some b:=⟨fun e=>by have:=(h.a4 b e).2.lt;omega,fun e=>by have:=(h.a5 b e).2.lt;omega⟩
theorem gC9_new {n:Nat} {s:Bool} {a a':Option Nat} (h:s=true→a.isSome=true) (hn:a=none):gC9 n s a=gC9 n s a':=by
 cases s with
 | false=>rfl
 | true=>rw [hn] at h;exact absurd (h rfl) (by simp)
theorem GK.alloc {o:Nat} {N:List GNode} (h:GK w o N) (C:Array Value) (t:TypeId):GK (w.alloc (.cells C t)) o N:=h.step (KFr.below (Below.alloc (Below.refl _ _) (Nat.le_refl _) _))
theorem Inv9.load0 (h:Inv9 n z N2 W v w):Inv9 n z N2 W { v with l0:=true } w:=⟨h.bl,h.hz,h.e1,h.e3,h.a4,h.a5,h.o6,h.o7,h.d⟩
theorem Inv9.load2 (h:Inv9 n z N2 W v w):Inv9 n z N2 W { v with l2:=true } w:=⟨h.bl,h.hz,h.e1,h.e3,h.a4,h.a5,h.o6,h.o7,h.d⟩
theorem Inv9.call1 (h:Inv9 n z N2 W v w) (hn:v.e1=none) {o:Nat} (hb:Below w.heap.size w w') (hg:GK w' o N2):Inv9 n z N2 W { v with e1:=some o } w':=
 ⟨h.bl.trans (hb.mono h.hz),Nat.le_trans h.hz hb.size,fun b e=>Option.some.inj e▸hg,fun b e=>(h.e3 b e).step (KFr.below hb),fun b e=>⟨(h.a4 b e).1,by rw [←gC9_new (fun q=>(h.o6 q).1) hn];exact(h.a4 b e).2.keep hb⟩,fun b e=>⟨(h.a5 b e).1,(h.a5 b e).2.keep hb⟩,fun q=>⟨rfl,(h.o6 q).2⟩,h.o7,h.d⟩
theorem Inv9.call3 (h:Inv9 n z N2 W v w) (hn:v.e3=none) {o:Nat} (hb:Below w.heap.size w w') (hg:GK w' o N2):Inv9 n z N2 W { v with e3:=some o } w':=
 ⟨h.bl.trans (hb.mono h.hz),Nat.le_trans h.hz hb.size,fun b e=>(h.e1 b e).step (KFr.below hb),fun b e=>Option.some.inj e▸hg,fun b e=>⟨(h.a4 b e).1,(h.a4 b e).2.keep hb⟩,fun b e=>⟨(h.a5 b e).1,by rw [←gC9_new (fun q=>(h.o7 q).1) hn];exact(h.a5 b e).2.keep hb⟩,h.o6,fun q=>⟨rfl,(h.o7 q).2⟩,h.d⟩
theorem Inv9.var4 (h:Inv9 n z N2 W v w) (hn:v.a4=none):Inv9 n z N2 W { v with a4:=some w.heap.size } (w.alloc (.cells #[.slice none 0 0,.int .i64 0] 26)):=by
 have hs:v.s6=false:=by
  cases q:v.s6 with
  | false=>rfl
  | true=>have:=(h.o6 q).2;rw [hn] at this;cases this
 refine⟨h.bl.alloc h.hz _,by have:=h.hz;simp;omega,fun b e=>(h.e1 b e).alloc _ _,fun b e=>(h.e3 b e).alloc _ _,fun b e=>?_,fun b e=>⟨(h.a5 b e).1,(h.a5 b e).2.alloc _⟩,fun q=>⟨(h.o6 q).1,rfl⟩,h.o7,fun b e=>(h.old (Option.some.inj e).symm).2⟩
 obtain rfl:=Option.some.inj e
 refine⟨h.hz,?_⟩
 show Arr _ _ _ (gC9 n v.s6 v.e1)
 rw [hs]
 exact Arr.new w _ _
theorem Inv9.var5 (h:Inv9 n z N2 W v w) (hn:v.a5=none):Inv9 n z N2 W { v with a5:=some w.heap.size } (w.alloc (.cells #[.slice none 0 0,.int .i64 0] 26)):=by
 have hs:v.s7=false:=by
  cases q:v.s7 with
  | false=>rfl
  | true=>have:=(h.o7 q).2;rw [hn] at this;cases this
 refine⟨h.bl.alloc h.hz _,by have:=h.hz;simp;omega,fun b e=>(h.e1 b e).alloc _ _,fun b e=>(h.e3 b e).alloc _ _,fun b e=>⟨(h.a4 b e).1,(h.a4 b e).2.alloc _⟩,fun b e=>?_,h.o6,fun q=>⟨(h.o7 q).1,rfl⟩,fun b e e'=>(h.old (Option.some.inj e').symm).1 e⟩
 obtain rfl:=Option.some.inj e
 refine⟨h.hz,?_⟩
 show Arr _ _ _ (gC9 n v.s7 v.e3)
 rw [hs]
 exact Arr.new w _ _
def putG (w:World) (b n o:Nat):World:=(w.setCell ⟨b,0,none⟩ (.slice (some ⟨o,0,none⟩) n n)).setCell ⟨b,1,none⟩ (.int .i64 0)
theorem putG_kfr {b o:Nat} {xs:List Value} (ha:Arr w b 26 xs):KFr w (putG w b n o):=(KFr.set ha (by decide) (by decide) 0 _).trans (KFr.set (ha.store 0 _) (by decide) (by decide) 1 _)
theorem putG_arr {b o:Nat} {x y:Value} (ha:Arr w b 26 [x,y]):Arr (putG w b n o) b 26 [.slice (some ⟨o,0,none⟩) n n,.int .i64 0]:=(ha.store 0 _).store 1 _
theorem putG_far {b c o:Nat} {t:TypeId} {xs:List Value} (ha:Arr w c t xs) (hn:c≠b):Arr (putG w b n o) c t xs:=(ha.far (p:=⟨b,0,none⟩) hn _).far (p:=⟨b,1,none⟩) hn _
theorem gC9_two (n:Nat) (s:Bool) (o:Option Nat):∃x y,gC9 n s o = [x,y]:=by cases s <;> exact⟨_,_,rfl⟩
theorem Inv9.put6 (h:Inv9 n z N2 W v w) {p q:Nat} (hp:v.a4=some p) (hq:v.e1=some q):Inv9 n z N2 W { v with s6:=true } (putG w p n q):=by
 have hA:=(h.a4 p hp).2
 have k:=putG_kfr (n:=n) (o:=q) hA
 refine⟨(h.bl.setCell (p:=⟨p,0,none⟩) (h.a4 p hp).1 _).setCell (p:=⟨p,1,none⟩) (h.a4 p hp).1 _,Nat.le_trans h.hz k.1,fun b e=>(h.e1 b e).step k,fun b e=>(h.e3 b e).step k,fun b e=>?_,fun b e=>⟨(h.a5 b e).1,putG_far (h.a5 b e).2 (fun e'=>h.d p hp (by rw [←e'];exact e))⟩,fun _=>⟨by rw [hq];rfl,by rw [hp];rfl⟩,h.o7,h.d⟩
 have e':p=b:=Option.some.inj (hp.symm.trans e)
 subst e'
 obtain⟨x,y,hxy⟩:=gC9_two n v.s6 v.e1
 rw [hxy] at hA
 refine⟨(h.a4 p hp).1,?_⟩
 show Arr _ _ _ (gC9 n true v.e1)
 rw [hq]
 exact putG_arr hA
theorem Inv9.put7 (h:Inv9 n z N2 W v w) {p q:Nat} (hp:v.a5=some p) (hq:v.e3=some q):Inv9 n z N2 W { v with s7:=true } (putG w p n q):=by
 have hA:=(h.a5 p hp).2
 have k:=putG_kfr (n:=n) (o:=q) hA
 refine⟨(h.bl.setCell (p:=⟨p,0,none⟩) (h.a5 p hp).1 _).setCell (p:=⟨p,1,none⟩) (h.a5 p hp).1 _,Nat.le_trans h.hz k.1,fun b e=>(h.e1 b e).step k,fun b e=>(h.e3 b e).step k,fun b e=>⟨(h.a4 b e).1,putG_far (h.a4 b e).2 (fun e'=>h.d b e (by rw [e'];exact hp))⟩,fun b e=>?_,h.o6,fun _=>⟨by rw [hq];rfl,by rw [hp];rfl⟩,h.d⟩
 have e':p=b:=Option.some.inj (hp.symm.trans e)
 subst e'
 obtain⟨x,y,hxy⟩:=gC9_two n v.s7 v.e3
 rw [hxy] at hA
 refine⟨(h.a5 p hp).1,?_⟩
 show Arr _ _ _ (gC9 n true v.e3)
 rw [hq]
 exact putG_arr hA
end
set_option maxRecDepth 20000 in
set_option maxHeartbeats 16000000 in
theorem csame_cb {N:List GNode} {a b ca cb:Nat} (hOK:NormOK N) (hO:ChkOK N 0) (hchk:chkV N 0=0) {v:Int} {s':NSt} (hv:visitN N (entV N) (N.length+1) ((0:Nat):Int) ⟨List.replicate N.length (-1),0,List.replicate N.length nd0⟩=some (v,s')) (hN2:s'.out.length=N.length) (hL2:NL 65536 s'.out) (w:World) (hw:LibE w) (hA:GRd w w.heap.size a 0 N) (hB:GRd w w.heap.size b 0 N) :
  Calls Tryz.prog 10 #[.agg #[.slice (some ⟨a,0,none⟩) N.length ca,.int .i64 0],.agg #[.slice (some ⟨b,0,none⟩) N.length cb,.int .i64 0]] w fun e w'=>e=.returned (.bool true)∧Below w.heap.size w w':=by
 obtain⟨n,hn⟩:∃n,N.length=n:=⟨_,rfl⟩
 have hn0:0<N.length:=hO.n0
 have hn4:=hO.n1
 have DC1:=Lib.hid (fun(w':World) (hb:Below w.heap.size w w')=>gcheck_any (c:=ca) hO w' (hw.keep hb) ((hA.below hb (Nat.le_refl _)).up hb.size (Nat.le_refl _)))
 have DC2:=Lib.hid (fun(w':World) (hb:Below w.heap.size w w')=>gcheck_any (c:=cb) hO w' (hw.keep hb) ((hB.below hb (Nat.le_refl _)).up hb.size (Nat.le_refl _)))
 have DN1:=Lib.hid (fun(w':World) (hb:Below w.heap.size w w')=>normal_gk (c:=ca) hn hOK hn0 hv w' ((hA.below hb (Nat.le_refl _)).up hb.size (Nat.le_refl _)))
 have DN2:=Lib.hid (fun(w':World) (hb:Below w.heap.size w w')=>normal_gk (c:=cb) hn hOK hn0 hv w' ((hB.below hb (Nat.le_refl _)).up hb.size (Nat.le_refl _)))
 obtain⟨N2,hN2e⟩:∃x,s'.out=x:=⟨_,rfl⟩
 rw [hchk] at DC1 DC2
 rw [hN2e] at DN1 DN2 hN2 hL2
 have DE:=Lib.hid (fun(w':World) (x y:Nat) (hx:GK w' x N2) (hy:GK w' y N2)=>eqfunc_cb (ca:=n) (cb:=n) (by rw [hN2];exact hn4) hL2 w' hx.rd hy.rd)
 rw [hN2] at DE
 rw [hn] at DC1 DC2 DE ⊢
 obtain⟨q1,q2,hb1,hz1⟩:=box2 w 26 26 [.slice (some ⟨a,0,none⟩) n ca,.int .i64 0] [.slice (some ⟨b,0,none⟩) n cb,.int .i64 0]
 have HB:=Lib.hid hb1
 have hn4':(n:Int)≤4096:=by omega
 clear hOK hO hchk hv hN2 hL2 hA hB hw hn hn0 hn4 hb1 hN2e
 go_enter Tryz.func10,Tryz.ntmps10
 go_upto_region 1 with(fail)
 generalize ((w.alloc (.cells #[.slice (some ⟨a,0,none⟩) n ca,.int .i64 0] 26)).alloc (.cells #[.slice (some ⟨b,0,none⟩) n cb,.int .i64 0] 26))=W at *
 obtain⟨b1,hb1e⟩:∃x,w.heap.size=x:=⟨_,rfl⟩
 have HZ:=Lib.hid hb1e
 rw [hb1e] at q1 q2 hz1 ⊢
 clear hb1e
 obtain⟨b2,hb2e⟩:∃x,b1+1=x:=⟨_,rfl⟩
 have hb12:b1<b2:=by omega
 have hbz:W.heap.size=b2+1:=by have:=hz1.out;omega
 have HBZ:=Lib.hid hbz
 rw [hb2e] at q2 ⊢
 clear hb2e hbz hz1
 have x0:=q1.out.cell' (i:=0) rfl
 have x1:=q1.out.cell' (i:=1) rfl
 have y0:=q2.out.cell' (i:=0) rfl
 have y1:=q2.out.cell' (i:=1) rfl
 go_upto_region 3 with(first | (go_at_call 26;((with_reducible refine(DC1.out _ HB.out).mono ?_));rintro e w5 ⟨rfl,hb5⟩;have HB5:=Lib.hid (HB.out.trans (hb5.mono HB.out.size));have X5:=Lib.hid (q1.out.keep hb5);have Y5:=Lib.hid (q2.out.keep hb5);have y50:=Y5.out.cell' (i:=0) rfl;have y51:=Y5.out.cell' (i:=1) rfl) | (go_at_call 26;((with_reducible refine(DC2.out _ HB5.out).mono ?_));rintro e w6 ⟨rfl,hb6⟩))
 have HB6:=Lib.hid (HB5.out.trans (hb6.mono HB5.out.size))
 have X6:=Lib.hid (X5.out.keep hb6)
 have Y6:=Lib.hid (Y5.out.keep hb6)
 have hz6:b2<w6.heap.size:=by have h1:=Y6.out.lt;exact h1
 clear x0 x1 y0 y1 y50 y51 hb5 hb6 X5 Y5 HB5 q1 q2 HB DC1 DC2 HBZ
 have x0:=X6.out.cell' (i:=0) rfl
 have x1:=X6.out.cell' (i:=1) rfl
 have y0:=Y6.out.cell' (i:=0) rfl
 have y1:=Y6.out.cell' (i:=1) rfl
 obtain⟨z,hz⟩:∃x,w6.heap.size=x:=⟨_,rfl⟩
 have RX:∀w',Below z w6 w'→w'.cell? ⟨b1,0,none⟩=some (.slice (some ⟨a,0,none⟩) n ca)∧w'.cell? ⟨b1,1,none⟩=some (.int .i64 0)∧w'.cell? ⟨b2,0,none⟩=some (.slice (some ⟨b,0,none⟩) n cb)∧w'.cell? ⟨b2,1,none⟩=some (.int .i64 0):=fun w' h=>by
  have h1:=X6.out.keep (by rw [hz];exact h)
  have h2:=Y6.out.keep (by rw [hz];exact h)
  exact⟨h1.cell' (i:=0) rfl,h1.cell' (i:=1) rfl,h2.cell' (i:=0) rfl,h2.cell' (i:=1) rfl⟩
 have HX0:∀w',Below z w6 w'→w'.cell? ⟨b1,0,none⟩=some (.slice (some ⟨a,0,none⟩) n ca):=fun w' h=>(RX w' h).1
 have HX1:∀w',Below z w6 w'→w'.cell? ⟨b1,1,none⟩=some (.int .i64 0):=fun w' h=>(RX w' h).2.1
 have HY0:∀w',Below z w6 w'→w'.cell? ⟨b2,0,none⟩=some (.slice (some ⟨b,0,none⟩) n cb):=fun w' h=>(RX w' h).2.2.1
 have HY1:∀w',Below z w6 w'→w'.cell? ⟨b2,1,none⟩=some (.int .i64 0):=fun w' h=>(RX w' h).2.2.2
 have hzs:z≤w6.heap.size:=by omega
 have hS0:Below z w6 w6:=Below.refl _ _
 have hS1:Below z w6 w6.drew:=Below.drew (Below.refl _ _)
 have DM1:Hid (∀w',Below z w6 w'→_):=Lib.hid (fun w' (hb:Below z w6 w')=>DN1.out w' (HB6.out.trans (hb.mono (by rw [←hz];exact HB6.out.size))))
 have DM2:Hid (∀w',Below z w6 w'→_):=Lib.hid (fun w' (hb:Below z w6 w')=>DN2.out w' (HB6.out.trans (hb.mono (by rw [←hz];exact HB6.out.size))))
 clear x0 x1 y0 y1 RX DN1 DN2
 have hW0:Inv9 n z N2 w6 ⟨false,none,false,none,none,none,false,false⟩ w6.drew:=⟨hS1,by rw [←hz];exact Nat.le_refl _,by simp,by simp,by simp,by simp,by simp,by simp,by simp⟩
 refine wp_region_inv2 lst9 (act9 (.agg #[.slice (some ⟨a,0,none⟩) n ca,.int .i64 0]) (.agg #[.slice (some ⟨b,0,none⟩) n cb,.int .i64 0]) (.slice (some ⟨a,0,none⟩) n ca) (.slice (some ⟨b,0,none⟩) n cb) b1 b2 n) (Inv9 n z N2 w6) cnt9 ⟨false,none,false,none,none,none,false,false⟩ (by kernel_rfl) rfl rfl (by decide) hW0 ?hz ?hend ?hstep
 case hz=>
  intro v hc
  have e0:v.l0=true:=by cases q:v.l0 with | true=>rfl | false=>simp [cnt9,one30,q] at hc
  have e1:v.e1.isSome=true:=by cases q:v.e1.isSome with | true=>rfl | false=>simp [cnt9,one30,q] at hc
  have e2:v.l2=true:=by cases q:v.l2 with | true=>rfl | false=>simp [cnt9,one30,q] at hc
  have e3:v.e3.isSome=true:=by cases q:v.e3.isSome with | true=>rfl | false=>simp [cnt9,one30,q] at hc
  have e4:v.a4.isSome=true:=by cases q:v.a4.isSome with | true=>rfl | false=>simp [cnt9,one30,q] at hc
  have e5:v.a5.isSome=true:=by cases q:v.a5.isSome with | true=>rfl | false=>simp [cnt9,one30,q] at hc
  have e6:v.s6=true:=by cases q:v.s6 with | true=>rfl | false=>simp [cnt9,one30,q] at hc
  have e7:v.s7=true:=by cases q:v.s7 with | true=>rfl | false=>simp [cnt9,one30,q] at hc
  have e:lst9 v=#[true,true,true,true,true,true,true,true]:=by unfold lst9;rw [e0,e1,e2,e3,e4,e5,e6,e7]
  rw [e]
  show(_:List Nat)=_
  kernel_rfl
 case hend=>
  intro v w2 hI hr
  have r0:v.l0=true:=ready_listed hr 0 _ rfl (by simp)
  have r1:v.e1.isSome=true:=ready_listed hr 1 _ rfl (by intro e he _;simp at he;subst he;exact r0)
  have r2:v.l2=true:=ready_listed hr 2 _ rfl (by simp)
  have r3:v.e3.isSome=true:=ready_listed hr 3 _ rfl (by intro e he hb;simp at he;rcases he with rfl | rfl <;> first | exact absurd hb (by decide) | exact r1 | exact r2)
  have r4:v.a4.isSome=true:=ready_listed hr 4 _ rfl (by simp)
  have r5:v.a5.isSome=true:=ready_listed hr 5 _ rfl (by simp)
  have r6:v.s6=true:=ready_listed hr 6 _ rfl (by intro e he hb;simp at he;rcases he with rfl | rfl | rfl | rfl | rfl | rfl | rfl | rfl | rfl <;> first | exact absurd hb (by decide) | exact r0 | exact r1 | exact r2 | exact r3 | exact r4 | exact r5)
  have r7:v.s7=true:=ready_listed hr 7 _ rfl (by intro e he hb;simp at he;rcases he with rfl | rfl | rfl | rfl | rfl | rfl | rfl | rfl | rfl | rfl <;> first | exact absurd hb (by decide) | exact r0 | exact r1 | exact r2 | exact r3 | exact r4 | exact r5 | exact r6)
  obtain⟨o1,ho1⟩:=Option.isSome_iff_exists.1 r1
  obtain⟨o3,ho3⟩:=Option.isSome_iff_exists.1 r3
  obtain⟨p4,hp4⟩:=Option.isSome_iff_exists.1 r4
  obtain⟨p5,hp5⟩:=Option.isSome_iff_exists.1 r5
  have G1:=Lib.hid (hI.e1 o1 ho1)
  have G3:=Lib.hid (hI.e3 o3 ho3)
  have C4:=(hI.a4 p4 hp4).2
  have C5:=(hI.a5 p5 hp5).2
  have hBl:=Lib.hid hI.bl
  rw [r6,ho1] at C4
  rw [r7,ho3] at C5
  replace C4:Hid (Arr w2 p4 26 [.slice (some ⟨o1,0,none⟩) n n,.int .i64 0]):=C4
  replace C5:Hid (Arr w2 p5 26 [.slice (some ⟨o3,0,none⟩) n n,.int .i64 0]):=C5
  unfold act9
  rw [r0,r2,ho1,ho3,hp4,hp5]
  simp only [bxV,grV,ldV,if_true]
  have c0:=C4.out.cell' (i:=0) rfl
  have d0:=C5.out.cell' (i:=0) rfl
  have DE2:=Lib.hid (DE.out w2 o1 o3 G1.out G3.out)
  clear hI r0 r1 r2 r3 r4 r5 r6 r7 ho1 ho3 hp4 hp5 hr hW0 DM1 DM2 HX0 HX1 HY0 HY1 DE G1 G3 C4 C5 hS0 hS1
  have hsz:w.heap.size≤z:=by rw [←hz,HZ.out];omega
  have HBz:=Lib.hid (HB6.out.trans (hBl.out.mono (by rw [HZ.out];omega)))
  go_wp2_with (go_at_call 28;((with_reducible refine(DE2.out).mono ?_));rintro e w7 ⟨rfl,hb7⟩)
  go_ret
  exact⟨rfl,HBz.out.trans (hb7.mono HBz.out.size)⟩
 case hstep=>
  intro v w2 hI i hi
  obtain⟨hn,oo,ho,hall⟩:=mem_ready.1 hi
  have hi8:i<8:=(Array.getElem?_eq_some_iff.1 ho).1
  clear hi
  rcases(show i=0∨i=1∨i=2∨i=3∨i=4∨i=5∨i=6∨i=7 by omega) with rfl | rfl | rfl | rfl | rfl | rfl | rfl | rfl
  all_goals obtain rfl:=Option.some.inj ho
  ·have hn':v.l0=false:=hn
   have x0:=HX0 w2 hI.bl
   have x1:=HX1 w2 hI.bl
   refine wpOp_run rfl rfl (w':=w2) (v:=.agg #[.slice (some ⟨a,0,none⟩) n ca,.int .i64 0]) ?_ ⟨{ v with l0:=true },rfl,by unfold cnt9 one30;simp [hn'],hI.load0,rfl⟩
   simp only [execOp,Act.eval,act9]
   go_simp
  ·have hn':v.e1=none:=by
    have:v.e1.isSome=false:=hn
    simpa using this
   have hm:v.l0=true:=hall ⟨0,.data⟩ (by simp) rfl
   refine wpOp_enter rfl rfl (w':=w2) ?_ (DM1.out w2 hI.bl) ?_
   ·simp only [execOp,Act.eval,act9,hm,ldV]
    go_simp
   ·rintro e w3 ⟨o,rfl,hb,hg⟩
    exact⟨_,rfl,{ v with e1:=some o },rfl,by unfold cnt9 one30;simp [hn'],hI.call1 hn' hb hg,rfl⟩
  ·have hn':v.l2=false:=hn
   have x0:=HY0 w2 hI.bl
   have x1:=HY1 w2 hI.bl
   refine wpOp_run rfl rfl (w':=w2) (v:=.agg #[.slice (some ⟨b,0,none⟩) n cb,.int .i64 0]) ?_ ⟨{ v with l2:=true },rfl,by unfold cnt9 one30;simp [hn'],hI.load2,rfl⟩
   simp only [execOp,Act.eval,act9]
   go_simp
  ·have hn':v.e3=none:=by
    have:v.e3.isSome=false:=hn
    simpa using this
   have hm:v.l2=true:=hall ⟨2,.data⟩ (by simp) rfl
   refine wpOp_enter rfl rfl (w':=w2) ?_ (DM2.out w2 hI.bl) ?_
   ·simp only [execOp,Act.eval,act9,hm,ldV]
    go_simp
   ·rintro e w3 ⟨o,rfl,hb,hg⟩
    exact⟨_,rfl,{ v with e3:=some o },rfl,by unfold cnt9 one30;simp [hn'],hI.call3 hn' hb hg,rfl⟩
  ·have hn':v.a4=none:=by
    have:v.a4.isSome=false:=hn
    simpa using this
   refine wpOp_run rfl rfl (w':=w2.alloc (.cells #[.slice none 0 0,.int .i64 0] 26)) (v:=.pointer (some ⟨w2.heap.size,0,none⟩)) ?_ ⟨{ v with a4:=some w2.heap.size },rfl,by unfold cnt9 one30;simp [hn'],hI.var4 hn',rfl⟩
   go_simp
  ·have hn':v.a5=none:=by
    have:v.a5.isSome=false:=hn
    simpa using this
   refine wpOp_run rfl rfl (w':=w2.alloc (.cells #[.slice none 0 0,.int .i64 0] 26)) (v:=.pointer (some ⟨w2.heap.size,0,none⟩)) ?_ ⟨{ v with a5:=some w2.heap.size },rfl,by unfold cnt9 one30;simp [hn'],hI.var5 hn',rfl⟩
   go_simp
  ·have hn':v.s6=false:=hn
   have q1:v.e1.isSome=true:=hall ⟨1,.data⟩ (by simp) rfl
   have q2:v.a4.isSome=true:=hall ⟨4,.data⟩ (by simp) rfl
   obtain⟨q,hq⟩:=Option.isSome_iff_exists.1 q1
   obtain⟨p,hp⟩:=Option.isSome_iff_exists.1 q2
   obtain⟨x,y,hxy⟩:=gC9_two n v.s6 v.e1
   have hA:=(hI.a4 p hp).2
   rw [hxy] at hA
   have k1:=hA.cell' (i:=0) rfl
   have k2:=hA.frozen 0
   have k3:=hA.cell' (i:=1) rfl
   have k4:=hA.frozen 1
   refine wpOp_skip rfl rfl (w':=putG w2 p n q) ?_ ⟨{ v with s6:=true },rfl,by unfold cnt9 one30;simp [hn'],hI.put6 hp hq,rfl⟩
   simp only [execOp,Act.eval,act9,hp,hq,bxV,grV]
   unfold putG
   go_simp
  ·have hn':v.s7=false:=hn
   have q1:v.e3.isSome=true:=hall ⟨3,.data⟩ (by simp) rfl
   have q2:v.a5.isSome=true:=hall ⟨5,.data⟩ (by simp) rfl
   obtain⟨q,hq⟩:=Option.isSome_iff_exists.1 q1
   obtain⟨p,hp⟩:=Option.isSome_iff_exists.1 q2
   obtain⟨x,y,hxy⟩:=gC9_two n v.s7 v.e3
   have hA:=(hI.a5 p hp).2
   rw [hxy] at hA
   have k1:=hA.cell' (i:=0) rfl
   have k2:=hA.frozen 0
   have k3:=hA.cell' (i:=1) rfl
   have k4:=hA.frozen 1
   refine wpOp_skip rfl rfl (w':=putG w2 p n q) ?_ ⟨{ v with s7:=true },rfl,by unfold cnt9 one30;simp [hn'],hI.put7 hp hq,rfl⟩
   simp only [execOp,Act.eval,act9,hp,hq,bxV,grV]
   unfold putG
   go_simp
end Go.Proofs.YtnnnagnjikdnnaaGreatDoor
