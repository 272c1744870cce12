/- The walk of graph's indices. -/
import Derived.Test.YtnnnagnjikdnnaaGreatDoorMAm
import Derived.Test.YtnnnagnjikdnnaaGreatDoorMAd
set_option linter.unusedVariables false
set_option linter.unusedSimpArgs false
set_option linter.defProp false
set_option linter.constructorNameAsVariable false
namespace Go.Proofs.YtnnnagnjikdnnaaGreatDoor
open Go.RowKit
theorem inAll_drop {nodes:List GNode} {i:Nat} (n:Nat) (h:i<nodes.length):(nodes.drop i).all (inAll n)=(inAll n (ndAt nodes i) && (nodes.drop (i+1)).all (inAll n)):=by
 rw [List.drop_eq_getElem_cons h,List.all_cons]
 have e:nodes[i]=ndAt nodes i:=by have:=ndAt_get h;rw [List.getElem?_eq_getElem h] at this;exact Option.some.inj this
 rw [e]
theorem allIn_drop {l:List Int} {k:Nat} {x:Int} (n:Nat) (h:l[k]? = some x):(l.drop k).all (inB n)=(inB n x && (l.drop (k+1)).all (inB n)):=by
 rw [drop_cons_at h,List.all_cons]
def twoL (nd:GNode) (j:Nat):List Int:=if j=0 then nd.keys else nd.items
def restOK (n:Nat) (nd:GNode) (j:Nat):Bool:=if j=0 then inAll n nd else if j=1 then nd.items.all (inB n) else true
theorem restOK_step {n:Nat} {nd:GNode} {j:Nat} (h:j<2):restOK n nd j=((twoL nd j).all (inB n) && restOK n nd (j+1)):=by
 rcases(show j=0∨j=1 by omega) with rfl | rfl
 ·rfl
 ·simp [restOK,twoL]
set_option maxRecDepth 20000 in
set_option maxHeartbeats 8000000 in
theorem indices_any {B g o c:Nat} {nodes:List GNode} {root:Int} (hL:NL 65536 nodes) (hN:nodes.length≤65536) (w:World) (hG:GRd w B g o nodes) :
  Calls Tryz.prog 50 #[.agg #[.slice (some ⟨g,o,none⟩) nodes.length c,.int .i64 root]] w fun e w'=>e=.returned (.bool (indicesV nodes root))∧Below w.heap.size w w':=by
 have h1:Hid (Arr (w.alloc (.cells #[.slice (some ⟨g,o,none⟩) nodes.length c,.int .i64 root] 26)) w.heap.size 26 [.slice (some ⟨g,o,none⟩) nodes.length c,.int .i64 root]):=Arr.new w 26 [.slice (some ⟨g,o,none⟩) nodes.length c,.int .i64 root]
 have hB1:Hid (Below w.heap.size w (w.alloc (.cells #[.slice (some ⟨g,o,none⟩) nodes.length c,.int .i64 root] 26))):=(Below.refl _ _).alloc (Nat.le_refl _) _
 have HG:=Lib.hid hG
 clear hG
 go_enter Tryz.func50,Tryz.ntmps50
 go_upto_region 1 with(fail)
 generalize w.alloc (.cells #[.slice (some ⟨g,o,none⟩) nodes.length c,.int .i64 root] 26)=W at *
 obtain⟨n,hn⟩:∃n,nodes.length=n:=⟨_,rfl⟩
 obtain⟨gb,hgb⟩:∃b,w.heap.size=b:=⟨_,rfl⟩
 have hgbl:=h1.out.lt
 rw [hgb] at h1 hgbl hB1 ⊢
 rw [hn] at h1 hN ⊢
 have x0:=h1.out.cell' (i:=0) rfl
 have x1:=h1.out.cell' (i:=1) rfl
 have HN:=Lib.hid hn
 have HGB:=Lib.hid hgb
 have hVV:Hid (indicesV nodes root=(inB n root && (nodes.drop 0).all (inAll n))):=by unfold indicesV;rw [HN.out];rfl
 have hroot:Hid (inB n root=(decide (0≤root) && decide (root<(n:Int)))):=rfl
 clear hn hgb
 generalize inB n root=b0 at *
 obtain⟨V,hVe⟩:∃V,indicesV nodes root=V:=⟨_,rfl⟩
 rw [hVe] at hVV
 have HVE:=Lib.hid hVe
 clear hVe
 have hcases:(0≤root∧root<(n:Int)∧b0=true)∨(0≤root∧¬root<(n:Int)∧b0=false)∨(¬0≤root∧b0=false):=by
  by_cases r0:0≤root
  ·by_cases r1:root<(n:Int)
   ·exact .inl ⟨r0,r1,by rw [hroot.out];simp [r0,r1]⟩
   ·exact .inr (.inl ⟨r0,r1,by rw [hroot.out];simp [r1]⟩)
  ·exact .inr (.inr ⟨r0,by rw [hroot.out];simp [r0]⟩)
 clear hroot
 rcases hcases with⟨r0,r1,hb0⟩ | ⟨r0,r1,hb0⟩ | ⟨r0,hb0⟩
 all_goals
  subst hb0
  go_upto_region 3 with(fail)
  clear r0 x1
  go_loopw [3,24] (fun u v wr=>∃(i:Nat) (b:Bool),i≤n∧v=.int .i64 (i:Int)∧u=.bool b∧Hid (V=(b && (nodes.drop i).all (inAll n)))∧Hid (Below gb w wr)∧Below W.heap.size W wr) (fun _ v _=>n - (intOf v).toNat)
  case atStart=>exact⟨0,_,Nat.zero_le _,rfl,rfl,hVV,hB1,Below.refl _ _⟩
  case round=>
   obtain⟨i,b,hi,rfl,rfl,hv,hBr,hgr⟩:=hrel
   by_cases hin:i=n
   ·have hin':¬(i:Int)<n:=by omega
    have he:b=V:=by
     have:=hv.out
     rw [List.drop_of_length_le (by have:=HN.out;omega)] at this
     simpa using this.symm
    subst he
    go_wp2_with (fail)
    go_ret
    exact⟨by rw [HVE.out];rfl,by rw [HGB.out];exact hBr.out⟩
   ·have hin':(i:Int)<n:=by omega
    have hi2:i<nodes.length:=by have:=HN.out;omega
    have hGr:=(HG.out.below hBr.out (by have:=HG.out.2.1;have:=HGB.out;omega)).of_at hi2
    obtain⟨K,ck,I,ci,c0,c1,c2,c3,c4,⟨hK,hKb⟩,hIt,hIb⟩:=hGr
    have k0:(0:Int)≤i:=by omega
    have hND:Hid (Arr (wr.alloc (.cells #[.int .i64 (ndAt nodes i).kind,.string (mks (ndAt nodes i).text),.bool (ndAt nodes i).ord,.slice K (ndAt nodes i).keys.length ck,.slice I (ndAt nodes i).items.length ci] 30)) wr.heap.size 30 [.int .i64 (ndAt nodes i).kind,.string (mks (ndAt nodes i).text),.bool (ndAt nodes i).ord,.slice K (ndAt nodes i).keys.length ck,.slice I (ndAt nodes i).items.length ci]):=Arr.new wr _ _
    have hbn:Hid (Below wr.heap.size wr (wr.alloc (.cells #[.int .i64 (ndAt nodes i).kind,.string (mks (ndAt nodes i).text),.bool (ndAt nodes i).ord,.slice K (ndAt nodes i).keys.length ck,.slice I (ndAt nodes i).items.length ci] 30))):=(Below.refl _ _).alloc (Nat.le_refl _) _
    have HK:=Lib.hid hK
    have HI:=Lib.hid hIt
    clear hK hKb hIt hIb
    go_upto_region 5 with(fail)
    clear c0 c1 c2 c3 c4
    generalize (wr.alloc (.cells #[.int .i64 (ndAt nodes i).kind,.string (mks (ndAt nodes i).text),.bool (ndAt nodes i).ord,.slice K (ndAt nodes i).keys.length ck,.slice I (ndAt nodes i).items.length ci] 30))=w5 at *
    have hB5:Hid (Below gb w w5):=hBr.out.trans (hbn.out.mono (by have:=hBr.out.size;have:=HGB.out;omega))
    have hW5:Hid (Below W.heap.size W w5):=hgr.trans (hbn.out.mono hgr.size)
    have hK5:=Lib.hid (HK.out.keep hbn.out)
    have hI5:=Lib.hid (HI.out.keep hbn.out)
    obtain⟨nb,hnb⟩:∃b,wr.heap.size=b:=⟨_,rfl⟩
    rw [hnb] at hND ⊢
    obtain⟨hLk,hLi⟩:=hL i hi2
    rw [inAll_drop n hi2] at hv
    have hv0:Hid (V=(b && (restOK n (ndAt nodes i) 0 && (nodes.drop (i+1)).all (inAll n)))):=hv
    clear hnb hBr HK HI hbn hgr hv
    generalize ndAt nodes i=nd at *
    have n3:=hND.out.cell' (i:=3) rfl
    have n4:=hND.out.cell' (i:=4) rfl
    have hS:Hid (Arr (w5.alloc (.cells #[.slice K nd.keys.length ck,.slice I nd.items.length ci] 28)) w5.heap.size 28 [.slice K nd.keys.length ck,.slice I nd.items.length ci]):=Arr.new w5 _ _
    have hbs:Hid (Below w5.heap.size w5 (w5.alloc (.cells #[.slice K nd.keys.length ck,.slice I nd.items.length ci] 28))):=(Below.refl _ _).alloc (Nat.le_refl _) _
    go_upto_region 6 with(fail)
    clear n3 n4
    generalize w5.alloc (.cells #[.slice K nd.keys.length ck,.slice I nd.items.length ci] 28)=w6 at *
    have hB6:Hid (Below gb w w6):=hB5.out.trans (hbs.out.mono (by have:=hB5.out.size;have:=HGB.out;omega))
    have hW6:Hid (Below W.heap.size W w6):=hW5.out.trans (hbs.out.mono hW5.out.size)
    have hK6:=Lib.hid (hK5.out.keep hbs.out)
    have hI6:=Lib.hid (hI5.out.keep hbs.out)
    obtain⟨sb,hsb⟩:∃b,w5.heap.size=b:=⟨_,rfl⟩
    rw [hsb] at hS ⊢
    clear hsb hB5 hW5 hK5 hI5 hbs
    go_loopw [3,34] (fun u v ws=>∃(j:Nat) (b':Bool),j≤2∧v=.int .i64 (j:Int)∧u=.bool b'∧Hid (V=(b' && (restOK n nd j && (nodes.drop (i+1)).all (inAll n))))∧Hid (Below gb w ws)∧Hid (Below W.heap.size W ws)∧Below w6.heap.size w6 ws) (fun _ v _=>2 - (intOf v).toNat)
    case atStart=>exact⟨0,b,by omega,rfl,rfl,hv0,hB6,hW6,Below.refl _ _⟩
    case round=>
     obtain⟨j,b',hj,rfl,rfl,hv1,hB7,hW7,hg7⟩:=hrel
     by_cases hj2:j=2
     ·subst hj2
      have hv2:Hid (V=(b' && (nodes.drop (i+1)).all (inAll n))):=by
       have:=hv1.out
       show _=_
       simpa [restOK] using this
      go_wp2_with (fail)
      go_roundw
      case rel=>exact⟨i+1,b',by omega,i64e (by omega),rfl,hv2,hB7,hW7.out⟩
      case measure=>simp [intOf];omega
     ·have hj':(j:Int)<2:=by omega
      have hj0:(0:Int)≤j:=by omega
      obtain⟨AA,cA,hcA,hRA⟩:∃AA cA,wr.cell? ⟨sb,j,none⟩=some (.slice AA (twoL nd j).length cA)∧Hid (Rd wr AA (I64 (twoL nd j))):=by
       have hSr:=hS.out.keep hg7
       rcases(show j=0∨j=1 by omega) with rfl | rfl
       ·exact⟨K,ck,hSr.cell' (i:=0) rfl,hK6.out.keep hg7⟩
       ·exact⟨I,ci,hSr.cell' (i:=1) rfl,hI6.out.keep hg7⟩
      have hlT:(twoL nd j).length≤65536:=by unfold twoL;split <;> assumption
      rw [restOK_step (show j<2 by omega)] at hv1
      have hv3:Hid (V=(b' && (((twoL nd j).drop 0).all (inB n) && (restOK n nd (j+1) && (nodes.drop (i+1)).all (inAll n))))):=by
       rw [List.drop_zero]
       have:=hv1.out
       rw [Bool.and_assoc] at this
       exact this
      obtain⟨w7,hw7⟩:∃x:World,x=wr:=⟨_,rfl⟩
      subst hw7
      clear hv1
      generalize twoL nd j=L at *
      go_wp2_with (fail)
      go_loopw [3,40] (fun u v ws=>∃(k:Nat) (b'':Bool),k≤L.length∧v=.int .i64 (k:Int)∧u=.bool b''∧Hid (V=(b'' && ((L.drop k).all (inB n) && (restOK n nd (j+1) && (nodes.drop (i+1)).all (inAll n)))))∧w7=ws) (fun _ v _=>L.length - (intOf v).toNat)
      case atStart=>exact⟨0,b',Nat.zero_le _,rfl,rfl,hv3,rfl⟩
      case round=>
       obtain⟨k,b'',hk,rfl,rfl,hv4,rfl⟩:=hrel
       by_cases hkl:k=L.length
       ·have hkl':¬(k:Int)<L.length:=by omega
        have hv5:Hid (V=(b'' && (restOK n nd (j+1) && (nodes.drop (i+1)).all (inAll n)))):=by
         have:=hv4.out
         rw [List.drop_of_length_le (by omega)] at this
         show _=_
         simpa using this
        go_wp2_with (fail)
        go_roundw
        case rel=>exact⟨j+1,b'',by omega,i64e (by omega),rfl,hv5,hB7,hW7,hg7⟩
        case measure=>simp [intOf];omega
       ·have hkl':(k:Int)<L.length:=by omega
        obtain⟨x,hx⟩:∃x,L[k]? = some x:=⟨_,List.getElem?_eq_getElem (by omega)⟩
        obtain⟨ad,rfl,hc⟩:=hRA.out.at_ (I64_get hx)
        have hg0:=((h1.out.keep hW7.out).cell' (i:=0) rfl)
        have hv6:Hid (V=((b'' && inB n x) && ((L.drop (k+1)).all (inB n) && (restOK n nd (j+1) && (nodes.drop (i+1)).all (inAll n))))):=by
         have:=hv4.out
         rw [allIn_drop n hx,Bool.and_assoc (inB n x),←Bool.and_assoc b''] at this
         exact this
        have hbx:Hid (inB n x=(decide (0≤x) && decide (x<(n:Int)))):=rfl
        generalize inB n x=bx at *
        have hcs:(b''=false)∨(b''=true∧0≤x∧x<(n:Int)∧bx=true)∨(b''=true∧0≤x∧¬x<(n:Int)∧bx=false)∨(b''=true∧¬0≤x∧bx=false):=by
         cases b'' with
         | false=>exact .inl rfl
         | true=>
          right
          by_cases r0:0≤x
          ·by_cases r1:x<(n:Int)
           ·exact .inl ⟨rfl,r0,r1,by rw [hbx.out];simp [r0,r1]⟩
           ·exact .inr (.inl ⟨rfl,r0,r1,by rw [hbx.out];simp [r1]⟩)
          ·exact .inr (.inr ⟨rfl,r0,by rw [hbx.out];simp [r0]⟩)
        clear hv4 hbx hx
        rcases hcs with e1 | ⟨e1,e2,e3,e4⟩ | ⟨e1,e2,e3,e4⟩ | ⟨e1,e2,e4⟩
        all_goals
         subst e1
         try subst e4
         go_wp2_with (fail)
         go_roundw
         case rel=>exact⟨k+1,_,by omega,i64e (by omega),rfl,hv6,by first | rfl | trivial⟩
         case measure=>simp [intOf];omega
end Go.Proofs.YtnnnagnjikdnnaaGreatDoor
namespace Go.Proofs.YtnnnagnjikdnnaaGreatDoor
open Go.RowKit
structure TB where
  nx:Nat
  ix:Nat
  lw:Nat
  st:Nat
  on_:Nat
  vi:Nat
  gr:Nat
  sz:Nat
  in_:Nat
  im:Nat
  lm:Nat
  nm:Nat
  om:Nat
def visitFn (e:TB):Value:=.func (.func 116) #[] #[.pointer (some ⟨e.nx,0,none⟩),.pointer (some ⟨e.ix,0,none⟩),.pointer (some ⟨e.lw,0,none⟩),.pointer (some ⟨e.st,0,none⟩),.pointer (some ⟨e.on_,0,none⟩),.pointer (some ⟨e.vi,0,none⟩),.pointer (some ⟨e.gr,0,none⟩),.pointer (some ⟨e.sz,0,none⟩),.pointer (some ⟨e.in_,0,none⟩)]
structure TE (w:World) (B g o c:Nat) (nodes:List GNode) (root:Int) (F:Nat→Prop) (e:TB) (vs vz:Value) (s:TS):Prop where
  gd:GRd w B g o nodes
  ix:Arr w e.ix 28 [.slice (some ⟨e.im,0,none⟩) nodes.length nodes.length]
  lw:Arr w e.lw 28 [.slice (some ⟨e.lm,0,none⟩) nodes.length nodes.length]
  in_:Arr w e.in_ 28 [.slice (some ⟨e.nm,0,none⟩) nodes.length nodes.length]
  on_:Arr w e.on_ 100 [.slice (some ⟨e.om,0,none⟩) nodes.length nodes.length]
  vi:Arr w e.vi 135 [visitFn e]
  gr:Arr w e.gr 26 [.slice (some ⟨g,o,none⟩) nodes.length c,.int .i64 root]
  nx:Arr w e.nx 3 [.int .i64 (s.nx:Int)]
  im:Arr w e.im 3 (I64 s.index)
  lm:Arr w e.lm 3 (I64 s.low)
  nm:Arr w e.nm 3 (I64 s.inn)
  om:Arr w e.om 4 (Bs s.on)
  st:Arr w e.st 28 [vs]
  sz:Arr w e.sz 28 [vz]
  rs:w.ownsRow B 3 1 vs s.stack.length (I64 s.stack)
  rz:w.ownsRow B 3 1 vz s.sizes.length (I64 s.sizes)
  lo:∀b,F b→B≤b
  hi:∀b,F b→b<w.heap.size
  fr:¬F e.ix∧¬F e.lw∧¬F e.in_∧¬F e.on_∧¬F e.vi∧¬F e.gr
  fw:F e.nx∧F e.im∧F e.lm∧F e.nm∧F e.om∧F e.st∧F e.sz
  fs:∀b,vs.ownBlock=some b→F b∧b≠e.nx∧b≠e.im∧b≠e.lm∧b≠e.nm
  fz:∀b,vz.ownBlock=some b→F b∧b≠e.nx∧b≠e.im∧b≠e.lm∧b≠e.nm∧vs.ownBlock≠some b
  d1:e.nx≠e.im∧e.nx≠e.lm∧e.nx≠e.nm∧e.im≠e.lm∧e.im≠e.nm∧e.lm≠e.nm
  d2:e.st≠e.sz
def TC (w:World) (B g o c:Nat) (nodes:List GNode) (root:Int) (F:Nat→Prop) (e:TB) (s':TS) (en:Ending) (w':World):Prop:=
  en=.returned (.tuple #[])∧∃F' vs' vz',Hid (TE w' B g o c nodes root F' e vs' vz' s')∧PStep w w' F F'
section
variable {w w':World} {B g o c:Nat} {nodes:List GNode} {root:Int} {F:Nat→Prop} {e:TB} {vs vz:Value} {s:TS}
theorem kind_ne {b b':Nat} {t t':TypeId} {xs ys:List Value} (h:Arr w b t xs) (h':Arr w b' t' ys) (ht:t≠t'):b≠b':=Arr.ne h h' ht
theorem row_ne {v:Value} {n:Nat} {xs ys:List Value} {b:Nat} {t:TypeId} (h:w.ownsRow B 3 1 v n xs) (h':Arr w b t ys) (ht:3≠t):v.ownBlock≠some b:=own_arr h h' ht
theorem row_grown {v:Value} {n:Nat} {xs:List Value} {r:Nat} (h:w.ownsRow B 3 1 v n xs) (hg:w.grownBy w' (some r)) (hr:v.ownBlock≠some r):w'.ownsRow B 3 1 v n xs:=
  own_same h (fun b hb=>hg.block b (h.lt b hb).2 (by intro e;rw [←e] at hr;exact hr hb))
theorem pstep_grown {r:Nat} (hg:w.grownBy w' (some r)) (hF:F r):PStep w w' F F:=
  ⟨hg.os,hg.tape,hg.output,hg.size,fun k hk hn=>hg.block k hk (by intro e;have:=Option.some.inj e;subst this;exact hn hF),fun _ hk=>.inl hk⟩
theorem TE.kept (h:TE w B g o c nodes root F e vs vz s) (hb:Below w.heap.size w w'):TE w' B g o c nodes root F e vs vz s:=
  { gd:=h.gd.below hb h.gd.2.1
    ix:=h.ix.keep hb
    lw:=h.lw.keep hb
    in_:=h.in_.keep hb
    on_:=h.on_.keep hb
    vi:=h.vi.keep hb
    gr:=h.gr.keep hb
    nx:=h.nx.keep hb
    im:=h.im.keep hb
    lm:=h.lm.keep hb
    nm:=h.nm.keep hb
    om:=h.om.keep hb
    st:=h.st.keep hb
    sz:=h.sz.keep hb
    rs:=own_below h.rs hb
    rz:=own_below h.rz hb
    lo:=h.lo
    hi:=fun b hF=>Nat.lt_of_lt_of_le (h.hi b hF) hb.size
    fr:=h.fr
    fw:=h.fw
    fs:=h.fs
    fz:=h.fz
    d1:=h.d1
    d2:=h.d2 }
theorem TE.neF (h:TE w B g o c nodes root F e vs vz s) {r:Nat} (hF:F r):e.ix≠r∧e.lw≠r∧e.in_≠r∧e.on_≠r∧e.vi≠r∧e.gr≠r:=by
  obtain⟨h1,h2,h3,h4,h5,h6⟩:=h.fr
  exact⟨fun e=>h1 (e▸hF),fun e=>h2 (e▸hF),fun e=>h3 (e▸hF),fun e=>h4 (e▸hF),fun e=>h5 (e▸hF),fun e=>h6 (e▸hF)⟩
theorem some_ne {a b:Nat} (h:a≠b):some a≠some b:=fun e=>h (Option.some.inj e)
theorem TE.set_nx (h:TE w B g o c nodes root F e vs vz s) (v:Nat) (hg:w.grownBy w' (some e.nx)) (hA:Arr w' e.nx 3 [.int .i64 (v:Int)]):TE w' B g o c nodes root F e vs vz { s with nx:=v }:=by
  obtain⟨n1,n2,n3,n4,n5,n6⟩:=h.neF h.fw.1
  exact { gd := h.gd.grown hg (h.lo _ h.fw.1)
          ix:=h.ix.grown hg (some_ne n1)
          lw:=h.lw.grown hg (some_ne n2)
          in_:=h.in_.grown hg (some_ne n3)
          on_:=h.on_.grown hg (some_ne n4)
          vi:=h.vi.grown hg (some_ne n5)
          gr:=h.gr.grown hg (some_ne n6)
          nx:=hA
          im:=h.im.grown hg (some_ne (Ne.symm h.d1.1))
          lm:=h.lm.grown hg (some_ne (Ne.symm h.d1.2.1))
          nm:=h.nm.grown hg (some_ne (Ne.symm h.d1.2.2.1))
          om:=h.om.grown hg (some_ne (kind_ne h.om h.nx (by decide)))
          st:=h.st.grown hg (some_ne (kind_ne h.st h.nx (by decide)))
          sz:=h.sz.grown hg (some_ne (kind_ne h.sz h.nx (by decide)))
          rs:=row_grown h.rs hg (fun e'=>(h.fs _ e').2.1 rfl)
          rz:=row_grown h.rz hg (fun e'=>(h.fz _ e').2.1 rfl)
          lo:=h.lo
          hi:=fun b hF=>Nat.lt_of_lt_of_le (h.hi b hF) hg.size
          fr:=h.fr
          fw:=h.fw
          fs:=h.fs
          fz:=h.fz
          d1:=h.d1
          d2:=h.d2 }
theorem TE.set_im (h:TE w B g o c nodes root F e vs vz s) (v:List Int) (hg:w.grownBy w' (some e.im)) (hA:Arr w' e.im 3 (I64 v)):TE w' B g o c nodes root F e vs vz { s with index:=v }:=by
  obtain⟨n1,n2,n3,n4,n5,n6⟩:=h.neF h.fw.2.1
  exact { gd := h.gd.grown hg (h.lo _ h.fw.2.1)
          ix:=h.ix.grown hg (some_ne n1)
          lw:=h.lw.grown hg (some_ne n2)
          in_:=h.in_.grown hg (some_ne n3)
          on_:=h.on_.grown hg (some_ne n4)
          vi:=h.vi.grown hg (some_ne n5)
          gr:=h.gr.grown hg (some_ne n6)
          nx:=h.nx.grown hg (some_ne h.d1.1)
          im:=hA
          lm:=h.lm.grown hg (some_ne (Ne.symm h.d1.2.2.2.1))
          nm:=h.nm.grown hg (some_ne (Ne.symm h.d1.2.2.2.2.1))
          om:=h.om.grown hg (some_ne (kind_ne h.om h.im (by decide)))
          st:=h.st.grown hg (some_ne (kind_ne h.st h.im (by decide)))
          sz:=h.sz.grown hg (some_ne (kind_ne h.sz h.im (by decide)))
          rs:=row_grown h.rs hg (fun e'=>(h.fs _ e').2.2.1 rfl)
          rz:=row_grown h.rz hg (fun e'=>(h.fz _ e').2.2.1 rfl)
          lo:=h.lo
          hi:=fun b hF=>Nat.lt_of_lt_of_le (h.hi b hF) hg.size
          fr:=h.fr
          fw:=h.fw
          fs:=h.fs
          fz:=h.fz
          d1:=h.d1
          d2:=h.d2 }
theorem TE.set_lm (h:TE w B g o c nodes root F e vs vz s) (v:List Int) (hg:w.grownBy w' (some e.lm)) (hA:Arr w' e.lm 3 (I64 v)):TE w' B g o c nodes root F e vs vz { s with low:=v }:=by
  obtain⟨n1,n2,n3,n4,n5,n6⟩:=h.neF h.fw.2.2.1
  exact { gd := h.gd.grown hg (h.lo _ h.fw.2.2.1)
          ix:=h.ix.grown hg (some_ne n1)
          lw:=h.lw.grown hg (some_ne n2)
          in_:=h.in_.grown hg (some_ne n3)
          on_:=h.on_.grown hg (some_ne n4)
          vi:=h.vi.grown hg (some_ne n5)
          gr:=h.gr.grown hg (some_ne n6)
          nx:=h.nx.grown hg (some_ne h.d1.2.1)
          im:=h.im.grown hg (some_ne h.d1.2.2.2.1)
          lm:=hA
          nm:=h.nm.grown hg (some_ne (Ne.symm h.d1.2.2.2.2.2))
          om:=h.om.grown hg (some_ne (kind_ne h.om h.lm (by decide)))
          st:=h.st.grown hg (some_ne (kind_ne h.st h.lm (by decide)))
          sz:=h.sz.grown hg (some_ne (kind_ne h.sz h.lm (by decide)))
          rs:=row_grown h.rs hg (fun e'=>(h.fs _ e').2.2.2.1 rfl)
          rz:=row_grown h.rz hg (fun e'=>(h.fz _ e').2.2.2.1 rfl)
          lo:=h.lo
          hi:=fun b hF=>Nat.lt_of_lt_of_le (h.hi b hF) hg.size
          fr:=h.fr
          fw:=h.fw
          fs:=h.fs
          fz:=h.fz
          d1:=h.d1
          d2:=h.d2 }
theorem TE.set_nm (h:TE w B g o c nodes root F e vs vz s) (v:List Int) (hg:w.grownBy w' (some e.nm)) (hA:Arr w' e.nm 3 (I64 v)):TE w' B g o c nodes root F e vs vz { s with inn:=v }:=by
  obtain⟨n1,n2,n3,n4,n5,n6⟩:=h.neF h.fw.2.2.2.1
  exact { gd := h.gd.grown hg (h.lo _ h.fw.2.2.2.1)
          ix:=h.ix.grown hg (some_ne n1)
          lw:=h.lw.grown hg (some_ne n2)
          in_:=h.in_.grown hg (some_ne n3)
          on_:=h.on_.grown hg (some_ne n4)
          vi:=h.vi.grown hg (some_ne n5)
          gr:=h.gr.grown hg (some_ne n6)
          nx:=h.nx.grown hg (some_ne h.d1.2.2.1)
          im:=h.im.grown hg (some_ne h.d1.2.2.2.2.1)
          lm:=h.lm.grown hg (some_ne h.d1.2.2.2.2.2)
          nm:=hA
          om:=h.om.grown hg (some_ne (kind_ne h.om h.nm (by decide)))
          st:=h.st.grown hg (some_ne (kind_ne h.st h.nm (by decide)))
          sz:=h.sz.grown hg (some_ne (kind_ne h.sz h.nm (by decide)))
          rs:=row_grown h.rs hg (fun e'=>(h.fs _ e').2.2.2.2 rfl)
          rz:=row_grown h.rz hg (fun e'=>(h.fz _ e').2.2.2.2.1 rfl)
          lo:=h.lo
          hi:=fun b hF=>Nat.lt_of_lt_of_le (h.hi b hF) hg.size
          fr:=h.fr
          fw:=h.fw
          fs:=h.fs
          fz:=h.fz
          d1:=h.d1
          d2:=h.d2 }
theorem TE.set_om (h:TE w B g o c nodes root F e vs vz s) (v:List Bool) (hg:w.grownBy w' (some e.om)) (hA:Arr w' e.om 4 (Bs v)):TE w' B g o c nodes root F e vs vz { s with on:=v }:=by
  obtain⟨n1,n2,n3,n4,n5,n6⟩:=h.neF h.fw.2.2.2.2.1
  exact { gd := h.gd.grown hg (h.lo _ h.fw.2.2.2.2.1)
          ix:=h.ix.grown hg (some_ne n1)
          lw:=h.lw.grown hg (some_ne n2)
          in_:=h.in_.grown hg (some_ne n3)
          on_:=h.on_.grown hg (some_ne n4)
          vi:=h.vi.grown hg (some_ne n5)
          gr:=h.gr.grown hg (some_ne n6)
          nx:=h.nx.grown hg (some_ne (kind_ne h.nx h.om (by decide)))
          im:=h.im.grown hg (some_ne (kind_ne h.im h.om (by decide)))
          lm:=h.lm.grown hg (some_ne (kind_ne h.lm h.om (by decide)))
          nm:=h.nm.grown hg (some_ne (kind_ne h.nm h.om (by decide)))
          om:=hA
          st:=h.st.grown hg (some_ne (kind_ne h.st h.om (by decide)))
          sz:=h.sz.grown hg (some_ne (kind_ne h.sz h.om (by decide)))
          rs:=row_grown h.rs hg (row_ne h.rs h.om (by decide))
          rz:=row_grown h.rz hg (row_ne h.rz h.om (by decide))
          lo:=h.lo
          hi:=fun b hF=>Nat.lt_of_lt_of_le (h.hi b hF) hg.size
          fr:=h.fr
          fw:=h.fw
          fs:=h.fs
          fz:=h.fz
          d1:=h.d1
          d2:=h.d2 }
end
end Go.Proofs.YtnnnagnjikdnnaaGreatDoor
