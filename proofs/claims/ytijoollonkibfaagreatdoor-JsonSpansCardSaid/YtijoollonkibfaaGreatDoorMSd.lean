/- The walk of share's counts. -/
import Derived.Test.YtijoollonkibfaaGreatDoorMGb
import Derived.Test.YtijoollonkibfaaGreatDoorMGc
import Derived.Test.YtijoollonkibfaaGreatDoorMG
import Derived.Test.YtijoollonkibfaaGreatDoorMA
import Derived.Deep.RegionHeld3
import Derived.Test.YtijoollonkibfaaGreatDoorMB
set_option linter.unusedVariables false
set_option linter.unusedSimpArgs false
set_option linter.defProp false
set_option linter.constructorNameAsVariable false
namespace Go.Proofs.YtijoollonkibfaaGreatDoor
open Go.RowKit
theorem items_drop {nodes:List GNode} {i:Nat} (h:i<nodes.length):(nodes.drop i).flatMap GNode.items=(ndAt nodes i).items ++ (nodes.drop (i+1)).flatMap GNode.items:=by
 rw [List.drop_eq_getElem_cons h,List.flatMap_cons]
 have e:nodes[i]=ndAt nodes i:=by have:=ndAt_get h;rw [List.getElem?_eq_getElem h] at this;exact Option.some.inj this
 rw [e]
def countsI (nodes:List GNode) (root:Int):List Int:=(nodes.flatMap GNode.items).foldl bump (bump (List.replicate nodes.length 0) root)
set_option maxRecDepth 20000 in
set_option maxHeartbeats 4000000 in
theorem scounts_any {B g o c:Nat} {nodes:List GNode} {root:Int} (hV:indicesV nodes root=true) (hL:NL 65536 nodes) (hN:nodes.length≤65536) (w:World) (hG:GRd w B g o nodes) :
  Calls Tryz.prog 43 #[.agg #[.slice (some ⟨g,o,none⟩) nodes.length c,.int .i64 root]] w fun e w'=>∃cb,e=.returned (.slice (some ⟨cb,0,none⟩) nodes.length nodes.length)∧w.heap.size≤cb∧Below w.heap.size w w'∧Hid (Arr w' cb 3 (I64 (countsI nodes root))):=by
 obtain⟨⟨hr1,hr2⟩,hI⟩:=idx_of hV
 obtain⟨r,rfl⟩:∃r:Nat,root=(r:Int):=⟨root.toNat,by omega⟩
 have h1:Hid (Arr (w.alloc (.cells #[.slice (some ⟨g,o,none⟩) nodes.length c,.int .i64 (r:Int)] 25)) w.heap.size 25 [.slice (some ⟨g,o,none⟩) nodes.length c,.int .i64 (r:Int)]):=Arr.new w 25 [.slice (some ⟨g,o,none⟩) nodes.length c,.int .i64 (r:Int)]
 have hB1:Hid (Below w.heap.size w (w.alloc (.cells #[.slice (some ⟨g,o,none⟩) nodes.length c,.int .i64 (r:Int)] 25))):=(Below.refl _ _).alloc (Nat.le_refl _) _
 have HV:=Lib.hid hV
 have HG:=Lib.hid hG
 have hI':=Lib.hid hI
 clear hV hG hI
 go_enter Tryz.func43,Tryz.ntmps43
 go_upto_region 1 with(fail)
 generalize w.alloc (.cells #[.slice (some ⟨g,o,none⟩) nodes.length c,.int .i64 (r:Int)] 25)=W at *
 have hGW:Hid (GRd W B g o nodes):=HG.out.below hB1.out (by exact HG.out.2.1)
 obtain⟨n,hn⟩:∃n,nodes.length=n:=⟨_,rfl⟩
 obtain⟨gb,hgb⟩:∃b,w.heap.size=b:=⟨_,rfl⟩
 have hgbl:=h1.out.lt
 rw [hgb] at h1 hgbl hB1 ⊢
 rw [hn] at h1 hr2 hN ⊢
 have x0:=h1.out.cell' (i:=0) rfl
 have x1:=h1.out.cell' (i:=1) rfl
 have HN:=Lib.hid hn
 have HGB:=Lib.hid hgb
 clear hn hgb
 go_upto_region 2 with(at_make;go_loud (refine wpList_mk rfl _ _ 38 rfl 3 _ _ Tryz.underlying38 infoInt rfl _ _ _ _ rfl rfl n n (by omega) (by omega) (by omega) (by omega) (by unfold maxLen;omega) ?_;intro cb w2 hcb hC hb2 hz2))
 have hB2:Hid (Below gb w w2):=hB1.out.trans (hb2.mono (Nat.le_of_lt hgbl))
 have l1:gb<cb:=by have:=hcb.out;omega
 have hX:=h1.out.keep hb2
 have y0:=hX.cell' (i:=0) rfl
 have y1:=hX.cell' (i:=1) rfl
 have hCz:Hid (Arr w2 cb 3 (I64 (List.replicate n 0))):=by rw [←I64_rep];exact hC
 have z0:w2.cell? ⟨cb,r,none⟩=some (.int .i64 0):=by
  have:=hCz.out.cell' (I64_getD (l:=List.replicate n 0) (k:=r) (by simp;omega))
  rw [this,List.getD_eq_getElem?_getD,List.getElem?_replicate];split <;> rfl
 have zf:=hCz.out.frozen r
 have hC3:Hid (Arr (w2.setCell ⟨cb,r,none⟩ (.int .i64 1)) cb 3 (I64 (bump (List.replicate n 0) (r:Int)))):=by
  have h:=hCz.out.store r (.int .i64 1)
  rw [I64_set] at h
  have e:(List.replicate n (0:Int)).set r 1=bump (List.replicate n 0) (r:Int):=by
   unfold bump
   rw [Int.toNat_natCast]
   have:(List.replicate n (0:Int)).getD r 0=0:=by rw [List.getD_eq_getElem?_getD,List.getElem?_replicate];split <;> rfl
   rw [this];rfl
  rw [e] at h
  exact h
 have hB3:=Lib.hid (hB2.out.setCell (p:=⟨cb,r,none⟩) (show gb≤cb by omega) (.int .i64 1))
 have hX3:=Lib.hid (hX.far (p:=⟨cb,r,none⟩) (show gb≠cb by omega) (.int .i64 1))
 clear hC hCz hB2 hb2 hz2 x0 x1 h1 hX
 go_upto_region 3 with(fail)
 clear y0 y1 z0 zf
 generalize w2.setCell ⟨cb,r,none⟩ (.int .i64 1)=w3 at *
 have y0:=hX3.out.cell' (i:=0) rfl
 have HCB:Hid (CB (bump (List.replicate n 0) (r:Int)) 1):=(CB.zero n).bump _
 have HFI:Hid (((nodes.drop 0).flatMap GNode.items).foldl bump (bump (List.replicate n 0) (r:Int))=countsI nodes (r:Int)):=by
  rw [List.drop_zero,←HN.out];exact rfl
 have hlen0:Hid ((bump (List.replicate n 0) (r:Int)).length=n):=by rw [bump_len];exact List.length_replicate
 go_wp2_with (fail)
 go_loopw [22] (fun v wr=>∃(i:Nat) (cur:List Int) (q:Nat),i≤n∧v=.int .i64 (i:Int)∧q≤1+i*65536∧Hid (CB cur q)∧Hid (cur.length=n)∧Hid (((nodes.drop i).flatMap GNode.items).foldl bump cur=countsI nodes (r:Int))∧Hid (Arr wr cb 3 (I64 cur))∧Hid (Below gb w wr)∧w3.grownBy wr (some cb)) (fun v _=>n - (intOf v).toNat)
 case atStart=>exact⟨0,_,1,Nat.zero_le _,rfl,by omega,HCB,hlen0,HFI,hC3,hB3,World.grownBy.refl _ _⟩
 case round=>
  obtain⟨i,cur,q,hi,rfl,hq,hcb1,hcl,hfi,hCr,hBr,hgr⟩:=hrel
  by_cases hin:i=n
  ·have hin':¬(i:Int)<n:=by omega
   have he:cur=countsI nodes (r:Int):=by
    have:=hfi.out
    rw [List.drop_of_length_le (by have:=HN.out;omega)] at this
    exact this
   subst he
   go_wp2_with (fail)
   go_ret
   exact⟨cb,by rw [HN.out];rfl,by have:=HGB.out;omega,by rw [HGB.out];exact hBr,hCr⟩
  ·have hin':(i:Int)<n:=by omega
   have hi2:i<nodes.length:=by have:=HN.out;omega
   have hGr:=(HG.out.below hBr.out (by have:=HG.out.2.1;have:=HGB.out;omega)).of_at hi2
   obtain⟨K,ck,I,ci,c0,c1,c2,c3,c4,⟨hK,hKb⟩,hIt,hIb⟩:=hGr
   have k0:(0:Int)≤i:=by omega
   have hcbl:=hCr.out.lt
   have hND:Hid (Arr (wr.alloc (.cells #[.int .i64 (ndAt nodes i).kind,.string (mks (ndAt nodes i).text),.bool (ndAt nodes i).ord,.slice K (ndAt nodes i).keys.length ck,.slice I (ndAt nodes i).items.length ci] 40)) wr.heap.size 40 [.int .i64 (ndAt nodes i).kind,.string (mks (ndAt nodes i).text),.bool (ndAt nodes i).ord,.slice K (ndAt nodes i).keys.length ck,.slice I (ndAt nodes i).items.length ci]):=Arr.new wr _ _
   have hbn:Hid (Below wr.heap.size wr (wr.alloc (.cells #[.int .i64 (ndAt nodes i).kind,.string (mks (ndAt nodes i).text),.bool (ndAt nodes i).ord,.slice K (ndAt nodes i).keys.length ck,.slice I (ndAt nodes i).items.length ci] 40))):=(Below.refl _ _).alloc (Nat.le_refl _) _
   have HK:=Lib.hid hK
   have HI:=Lib.hid hIt
   have HKB:=Lib.hid hKb
   have HIB:=Lib.hid hIb
   clear hK hIt hKb hIb
   go_upto_region 6 with(fail)
   clear c0 c1 c2 c3 c4
   generalize (wr.alloc (.cells #[.int .i64 (ndAt nodes i).kind,.string (mks (ndAt nodes i).text),.bool (ndAt nodes i).ord,.slice K (ndAt nodes i).keys.length ck,.slice I (ndAt nodes i).items.length ci] 40))=w5 at *
   have hB5:Hid (Below gb w w5):=hBr.out.trans (hbn.out.mono (by have:=hBr.out.size;have:=HGB.out;omega))
   have hC5:=Lib.hid (hCr.out.keep hbn.out)
   have hK5:=Lib.hid (HK.out.keep hbn.out)
   have hI5:=Lib.hid (HI.out.keep hbn.out)
   have hg5:Hid (w3.grownBy w5 (some cb)):=grown_trans hgr ⟨hbn.out.os,hbn.out.tape,hbn.out.output,hbn.out.size,fun j hj _=>hbn.out.block j hj⟩
   have hnbl:=hND.out.lt
   obtain⟨nb,hnb⟩:∃b,wr.heap.size=b:=⟨_,rfl⟩
   rw [hnb] at hND hnbl hcbl ⊢
   have hgbn:gb<nb:=by have:=hBr.out.size;have:=HGB.out;omega
   obtain⟨hLk,hLi⟩:=hL i hi2
   have hrf:=Lib.hid (hI'.out i hi2)
   rw [items_drop hi2,List.foldl_append] at hfi
   clear hnb hBr hCr HK HI hbn hgr
   generalize ndAt nodes i=nd at *
   have n4:=hND.out.cell' (i:=4) rfl
   go_wp2_with (fail)
   go_loopw [29] (fun v ws=>∃(j:Nat) (cu:List Int) (q':Nat),j≤nd.items.length∧v=.int .i64 (j:Int)∧q'≤q+j∧Hid (CB cu q')∧Hid (cu.length=n)∧Hid (((nd.items.drop j)).foldl bump cu=nd.items.foldl bump cur)∧Hid (Arr ws cb 3 (I64 cu))∧Hid (Below gb w ws)∧w5.grownBy ws (some cb)) (fun v _=>nd.items.length - (intOf v).toNat)
   case atStart=>exact⟨0,cur,q,Nat.zero_le _,rfl,by omega,hcb1,hcl,rfl,hC5,hB5,World.grownBy.refl _ _⟩
   case round=>
    obtain⟨j,cu,q',hj,rfl,hq',hcb2,hcl2,hfk,hCs,hBs,hgs⟩:=hrel
    by_cases hjl:j=nd.items.length
    ·have hjl':¬(j:Int)<nd.items.length:=by omega
     have he:cu=nd.items.foldl bump cur:=by
      have:=hfk.out
      rw [List.drop_of_length_le (by omega)] at this
      exact this
     subst he
     have hgo:=Lib.hid (grown_trans hg5.out hgs)
     go_wp2_with (fail)
     go_roundw
     case rel=>exact⟨i+1,_,q',by omega,i64e (by omega),by omega,hcb2,hcl2,hfi,hCs,hBs,hgo.out⟩
     case measure=>simp [intOf];omega
    ·have hjl':(j:Int)<nd.items.length:=by omega
     obtain⟨x,hx⟩:∃x,nd.items[j]? = some x:=⟨_,List.getElem?_eq_getElem (by omega)⟩
     obtain⟨ad,rfl,hc⟩:=(hI5.out.grown hgs (fun ad e h=>by have:=HIB.out ad e;have:=Option.some.inj h;have:=HG.out.2.1;have:=HGB.out;omega)).at_ (I64_get hx)
     have hxr:=hrf.out x (by unfold refs;exact List.mem_append.2 (.inr (List.mem_of_getElem? hx)))
     obtain⟨kx,rfl⟩:∃kx:Nat,x=(kx:Int):=⟨x.toNat,by omega⟩
     have hkn:(kx:Int)<n:=by have:=HN.out;omega
     have p0:=hCs.out.cell' (I64_getD (l:=cu) (k:=kx) (by have:=hcl2.out;omega))
     have pf:=hCs.out.frozen kx
     obtain⟨hv1,hv2⟩:=hcb2.out kx
     have hCt:Hid (Arr (wr.setCell ⟨cb,kx,none⟩ (.int .i64 (cu.getD kx 0+1))) cb 3 (I64 (bump cu (kx:Int)))):=by
      have h:=hCs.out.store kx (.int .i64 (cu.getD kx 0+1))
      rw [I64_set] at h
      exact h
     have hgt:=Lib.hid (grown_trans hgs (grown_set wr ⟨cb,kx,none⟩ (.int .i64 (cu.getD kx 0+1))))
     have hBt:=Lib.hid (hBs.out.setCell (p:=⟨cb,kx,none⟩) (show gb≤cb by omega) (.int .i64 (cu.getD kx 0+1)))
     have hfk2:Hid ((nd.items.drop (j+1)).foldl bump (bump cu (kx:Int))=nd.items.foldl bump cur):=by
      have:=hfk.out
      rw [drop_cons_at hx,List.foldl_cons] at this
      exact this
     have hcl3:Hid ((bump cu (kx:Int)).length=n):=by rw [bump_len];exact hcl2.out
     have hcb3:=Lib.hid (hcb2.out.bump (kx:Int))
     clear hfk hx hxr hCs
     generalize cu.getD kx 0=vx at *
     go_wp2_with (fail)
     go_roundw
     case rel=>exact⟨j+1,bump cu (kx:Int),q'+1,by omega,i64e (by omega),by omega,hcb3,hcl3,hfk2,hCt,hBt,hgt.out⟩
     case measure=>simp [intOf];omega
end Go.Proofs.YtijoollonkibfaaGreatDoor
namespace Go.Proofs.YtijoollonkibfaaGreatDoor
open Go.RowKit
structure OB where
  mt:Nat
  ou:Nat
  en:Nat
  gr:Nat
  vi:Nat
  mm:Nat
  em:Nat
def orderFn (e:OB):Value:=.func (.func 61) #[] #[.pointer (some ⟨e.mt,0,none⟩),.pointer (some ⟨e.ou,0,none⟩),.pointer (some ⟨e.gr,0,none⟩),.pointer (some ⟨e.en,0,none⟩),.pointer (some ⟨e.vi,0,none⟩)]
structure OE (w0 w:World) (B g o c:Nat) (nodes:List GNode) (root:Int) (F:Nat→Prop) (e:OB) (vs:Value) (M:List Bool) (L:List Int) (es:List Value):Prop where
  be:Below B w0 w
  gd:GRd w B g o nodes
  mt:Arr w e.mt 78 [.slice (some ⟨e.mm,0,none⟩) nodes.length nodes.length]
  en:Arr w e.en 85 [.slice (some ⟨e.em,0,none⟩) nodes.length nodes.length]
  gr:Arr w e.gr 25 [.slice (some ⟨g,o,none⟩) nodes.length c,.int .i64 root]
  vi:Arr w e.vi 70 [orderFn e]
  mm:Arr w e.mm 4 (Bs M)
  em:Arr w e.em 38 es
  ou:Arr w e.ou 38 [vs]
  ro:w.ownsRow B 3 1 vs L.length (I64 L)
  lo:∀b,F b→B≤b
  hi:∀b,F b→b<w.heap.size
  fr:¬F e.mt∧¬F e.en∧¬F e.gr∧¬F e.vi
  fw:F e.mm∧F e.em∧F e.ou
  fo:∀b,vs.ownBlock=some b→F b
  d1:e.ou≠e.em
section
variable {w0 w w' w1 w3:World} {B g o c:Nat} {nodes:List GNode} {root:Int} {F:Nat→Prop} {e:OB} {vs v':Value} {M:List Bool} {L:List Int} {es:List Value}
theorem OE.kept (h:OE w0 w B g o c nodes root F e vs M L es) (hb:Below w.heap.size w w'):OE w0 w' B g o c nodes root F e vs M L es:=
  { be:=h.be.trans (hb.mono h.gd.2.1)
    gd:=h.gd.below hb h.gd.2.1
    mt:=h.mt.keep hb
    en:=h.en.keep hb
    gr:=h.gr.keep hb
    vi:=h.vi.keep hb
    mm:=h.mm.keep hb
    em:=h.em.keep hb
    ou:=h.ou.keep hb
    ro:=own_below h.ro hb
    lo:=h.lo
    hi:=fun b hF=>Nat.lt_of_lt_of_le (h.hi b hF) hb.size
    fr:=h.fr
    fw:=h.fw
    fo:=h.fo
    d1:=h.d1 }
theorem OE.neF (h:OE w0 w B g o c nodes root F e vs M L es) {r:Nat} (hF:F r):e.mt≠r∧e.en≠r∧e.gr≠r∧e.vi≠r:=by
  obtain⟨h1,h2,h3,h4⟩:=h.fr
  exact⟨fun e=>h1 (e▸hF),fun e=>h2 (e▸hF),fun e=>h3 (e▸hF),fun e=>h4 (e▸hF)⟩
theorem OE.set_mm (h:OE w0 w B g o c nodes root F e vs M L es) (M':List Bool) (hg:w.grownBy w' (some e.mm)) (hA:Arr w' e.mm 4 (Bs M')):OE w0 w' B g o c nodes root F e vs M' L es:=by
  obtain⟨n1,n2,n3,n4⟩:=h.neF h.fw.1
  exact { be := below_row h.be hg h.gd.2.1 (h.lo _ h.fw.1)
          gd:=h.gd.grown hg (h.lo _ h.fw.1)
          mt:=h.mt.grown hg (some_ne n1)
          en:=h.en.grown hg (some_ne n2)
          gr:=h.gr.grown hg (some_ne n3)
          vi:=h.vi.grown hg (some_ne n4)
          mm:=hA
          em:=h.em.grown hg (some_ne (kind_ne h.em h.mm (by decide)))
          ou:=h.ou.grown hg (some_ne (kind_ne h.ou h.mm (by decide)))
          ro:=row_grown h.ro hg (row_ne h.ro h.mm (by decide))
          lo:=h.lo
          hi:=fun b hF=>Nat.lt_of_lt_of_le (h.hi b hF) hg.size
          fr:=h.fr
          fw:=h.fw
          fo:=h.fo
          d1:=h.d1 }
theorem OE.set_em (h:OE w0 w B g o c nodes root F e vs M L es) (es':List Value) (hg:w.grownBy w' (some e.em)) (hA:Arr w' e.em 38 es'):OE w0 w' B g o c nodes root F e vs M L es':=by
  obtain⟨n1,n2,n3,n4⟩:=h.neF h.fw.2.1
  exact { be := below_row h.be hg h.gd.2.1 (h.lo _ h.fw.2.1)
          gd:=h.gd.grown hg (h.lo _ h.fw.2.1)
          mt:=h.mt.grown hg (some_ne n1)
          en:=h.en.grown hg (some_ne n2)
          gr:=h.gr.grown hg (some_ne n3)
          vi:=h.vi.grown hg (some_ne n4)
          mm:=h.mm.grown hg (some_ne (kind_ne h.mm h.em (by decide)))
          em:=hA
          ou:=h.ou.grown hg (some_ne h.d1)
          ro:=row_grown h.ro hg (row_ne h.ro h.em (by decide))
          lo:=h.lo
          hi:=fun b hF=>Nat.lt_of_lt_of_le (h.hi b hF) hg.size
          fr:=h.fr
          fw:=h.fw
          fo:=h.fo
          d1:=h.d1 }
theorem OE.push (h : OE w0 w B g o c nodes root F e vs M L es) (x : Int) (hb : Below w.heap.size w w1) (hg : w1.grownBy w3 vs.ownBlock) (hown : w3.ownsRow B 3 1 v' (L.length + 1) (I64 L ++ [.int .i64 x])) (hat : v'.ownBlock = vs.ownBlock ∨ v'.ownBlock = some w1.heap.size) :
    ∃F',OE w0 (w3.setCell ⟨e.ou,0,none⟩ v') B g o c nodes root F' e v' M (L ++ [x]) es∧PStep w (w3.setCell ⟨e.ou,0,none⟩ v') F F'∧(∀b,F b→F' b):=by
  have hq:∀b,vs.ownBlock=some b→F b:=h.fo
  have hBw:B≤w1.heap.size:=Nat.le_trans h.gd.2.1 hb.size
  have hst:=arr_row h.ou hb hg (row_ne h.ro h.ou (by decide))
  have far:∀{b:Nat} {t:TypeId} {xs:List Value},Arr w b t xs→vs.ownBlock≠some b→b≠e.ou→Arr (w3.setCell ⟨e.ou,0,none⟩ v') b t xs:=fun ha hn hne=>(arr_row ha hb hg hn).far hne v'
  have hown4:(w3.setCell ⟨e.ou,0,none⟩ v').ownsRow B 3 1 v' (L ++ [x]).length (I64 (L ++ [x])):=by
    rw [I64_append,List.length_append,List.length_singleton]
    exact own_far (p:=⟨e.ou,0,none⟩) hown (own_arr hown hst (by decide)) v'
  have hss:(w3.setCell ⟨e.ou,0,none⟩ v').heap.size=w3.heap.size:=by simp [World.setCell]
  have hsz:w.heap.size≤w3.heap.size:=Nat.le_trans hb.size hg.size
  have hvF:∀b,v'.ownBlock=some b→F b∨w.heap.size≤b:=fun b hb'=>by
    rcases hat with h1 | h1
    · exact .inl (hq b (h1▸hb'))
    · rw [h1] at hb'
      have:=Option.some.inj hb'
      have:=hb.size
      exact .inr (by omega)
  have hvold:∀b,b<w.heap.size→vs.ownBlock≠some b→v'.ownBlock≠some b:=fun b hl hn hb'=>by
    rcases hat with h1 | h1
    · exact hn (h1▸hb')
    · rw [h1] at hb'
      have:=Option.some.inj hb'
      have:=hb.size
      omega
  obtain⟨f1,f2,f3,f4⟩:=h.fr
  obtain⟨n1,n2,n3⟩:=h.fw
  have hb3:Below B w0 w3:=(h.be.trans (hb.mono h.gd.2.1)).trans (below_of_grown hg hBw (fun k e'=>h.lo k (hq k e')))
  refine⟨fun b=>F b∨v'.ownBlock=some b,?_,?_,fun b hF=>.inl hF⟩
  · exact { be := hb3.setCell (p := ⟨e.ou, 0, none⟩) (h.lo _ n3) v'
            gd:=by
              have h1:=h.gd.below hb h.gd.2.1
              have h2:GRd w3 B g o nodes:=⟨h1.1,Nat.le_trans h1.2.1 hg.size,fun i nd hi=>(h1.2.2 i nd hi).same h1.1 fun a ha u hu=>hg.cell hu (fun e'=>by have:=h.lo a.block (hq a.block e'.symm);omega)⟩
              exact h2.grown (grown_set w3 ⟨e.ou,0,none⟩ v') (h.lo _ n3)
            mt:=far h.mt (fun k=>f1 (hq _ k)) (fun k=>f1 (k▸n3))
            en:=far h.en (fun k=>f2 (hq _ k)) (fun k=>f2 (k▸n3))
            gr:=far h.gr (fun k=>f3 (hq _ k)) (fun k=>f3 (k▸n3))
            vi:=far h.vi (fun k=>f4 (hq _ k)) (fun k=>f4 (k▸n3))
            mm:=far h.mm (row_ne h.ro h.mm (by decide)) (kind_ne h.mm h.ou (by decide))
            em:=far h.em (row_ne h.ro h.em (by decide)) (Ne.symm h.d1)
            ou:=hst.store 0 v'
            ro:=hown4
            lo:=fun b hF=>hF.elim (h.lo b) (fun k=>(hown.lt b k).1)
            hi:=fun b hF=>by rw [hss];exact hF.elim (fun k=>Nat.lt_of_lt_of_le (h.hi b k) hsz) (fun k=>(hown.lt b k).2)
            fr:=⟨fun k=>k.elim f1 (hvold _ h.mt.lt (fun k=>f1 (hq _ k))),fun k=>k.elim f2 (hvold _ h.en.lt (fun k=>f2 (hq _ k))),fun k=>k.elim f3 (hvold _ h.gr.lt (fun k=>f3 (hq _ k))),fun k=>k.elim f4 (hvold _ h.vi.lt (fun k=>f4 (hq _ k)))⟩
            fw:=⟨.inl n1,.inl n2,.inl n3⟩
            fo:=fun b k=>.inr k
            d1:=h.d1 }
  · refine⟨hg.os.trans hb.os,hg.tape.trans hb.tape,hg.output.trans hb.output,by rw [hss];exact hsz,fun b hlt hF=>?_,fun b hF=>?_⟩
    · exact(setCell_heap_ne _ _ _ (by rintro rfl;exact hF n3)).trans ((hg.block b (Nat.lt_of_lt_of_le hlt hb.size) (fun e'=>hF (hq b e'.symm))).trans (hb.block b hlt))
    · exact hF.elim .inl (fun k=>hvF b k)
end
def cfB (m:List Bool):Nat:=m.count false
theorem cfB_set {m:List Bool} {k:Nat} (h:m.getD k false=false) (hk:k<m.length):cfB (m.set k true)+1=cfB m:=by
  unfold cfB
  induction m generalizing k with
  | nil=>simp at hk
  | cons a l ih=>
    cases k with
    | zero=>
      have:a=false:=by simpa using h
      subst this
      simp
    | succ k=>
      have:=ih (k:=k) (by simpa using h) (by simpa using hk)
      simp only [List.set_cons_succ,List.count_cons]
      omega
def InL (n:Nat) (xs:List Int):Prop:=∀x∈xs,InN n x
end Go.Proofs.YtijoollonkibfaaGreatDoor
namespace Go.Proofs.YtijoollonkibfaaGreatDoor
open Go.RowKit
theorem own_some {w:World} {b:Nat} {e:TypeId} {k:Nat} {v:Value} {n:Nat} {xs:List Value} (h:w.ownsRow b e k v n xs) (hn:0<n):∃g c,v=.slice (some ⟨g,0,none⟩) n c∧n≤c∧c≤maxLen:=by
 rcases h.2 with⟨rfl,h0⟩ | ⟨g,cap,cur,rfl,_,_,h1,h2,_⟩
 ·omega
 ·exact⟨g,cap,rfl,h1,h2⟩
theorem own_lo {w:World} {b b':Nat} {e:TypeId} {k:Nat} {v:Value} {n:Nat} {xs:List Value} (h:w.ownsRow b e k v n xs) (hb:b'≤b):w.ownsRow b' e k v n xs:=by
 refine⟨h.1,?_⟩
 rcases h.2 with h1 | ⟨g,cap,cur,h1,h2,h3⟩
 ·exact .inl h1
 ·exact .inr ⟨g,cap,cur,h1,Nat.le_trans hb h2,h3⟩
theorem own_set1 {w:World} {b:Nat} {e:TypeId} {k g n cap:Nat} {xs:List Value} (h:w.ownsRow b e k (.slice (some ⟨g,0,none⟩) n cap) n xs) (i:Nat) (u:Value):(w.setCell ⟨g,i,none⟩ u).ownsRow b e k (.slice (some ⟨g,0,none⟩) n cap) n (xs.set i u):=by
 refine⟨by rw [List.length_set];exact h.1,?_⟩
 rcases h.2 with⟨hv,_⟩ | ⟨g',cap',cur,hv,hb,hg,h1,h2,h3,h4⟩
 ·cases hv
 ·injection hv with hv1 _ hv3
  injection hv1 with hv1
  injection hv1 with hv1
  subst hv1
  subst hv3
  refine .inr ⟨g,cap,cur.setIfInBounds i u,rfl,hb,?_,h1,h2,by simpa using h3,?_⟩
  ·simp [World.setCell,Array.getElem?_modify,hg]
  ·rw [Array.toList_setIfInBounds,List.take_set,h4]
theorem own_cell1 {w:World} {b:Nat} {e:TypeId} {k g n cap:Nat} {xs:List Value} (h:w.ownsRow b e k (.slice (some ⟨g,0,none⟩) n cap) n xs) {i:Nat} {u:Value} (hu:xs[i]? = some u):w.cell? ⟨g,i,none⟩=some u∧w.frozen? ⟨g,i,none⟩=false:=by
 have h1:=h.cells (g:=g) rfl i u hu
 rw [Addr.add_mid,Nat.zero_add] at h1
 rcases h.2 with⟨hv,_⟩ | ⟨g',cap',cur,hv,hb,hg,_⟩
 ·cases hv
 ·injection hv with hv1 _ hv3
  injection hv1 with hv1
  injection hv1 with hv1
  subst hv1
  exact⟨h1,frozen_of_row w g i cur e hg⟩
theorem own_grown {w w':World} {b:Nat} {e:TypeId} {k r:Nat} {v:Value} {n:Nat} {xs:List Value} (h:w.ownsRow b e k v n xs) (hg:w.grownBy w' (some r)) (hr:v.ownBlock≠some r):w'.ownsRow b e k v n xs:=
 own_same h (fun b hb=>hg.block b (h.lt b hb).2 (by intro e;rw [←e] at hr;exact hr hb))
theorem I64_drop (xs:List Int) (k:Nat):I64 (xs.drop k)=(I64 xs).drop k:=by unfold I64;rw [List.map_drop]
theorem grown_drw {w w':World} {r:Option Nat} (h:w.grownBy w' r):w.grownBy w'.drew r:=⟨h.os,h.tape,h.output,h.size,h.block⟩
theorem slice_ne {a b n c:Nat} (h:a≠b):(Value.slice (some ⟨a,0,none⟩) n c).ownBlock≠some b:=fun e=>h (Option.some.inj e)
theorem InR_get {N:Nat} {xs:List Int} (h:∀x∈xs,0≤x∧x<(N:Int)) {k:Nat} (hk:k<xs.length):∃a:Nat,xs[k]? = some (a:Int)∧a<N:=by
 obtain⟨h1,h2⟩:=h xs[k] (List.getElem_mem hk)
 exact⟨xs[k].toNat,by rw [List.getElem?_eq_getElem hk];congr 1;omega,by omega⟩
structure KP (N0 g0:Nat) (w w':World):Prop where
 os:w'.os=w.os
 tape:w'.tape=w.tape
 output:w'.output=w.output
 size:w.heap.size≤w'.heap.size
 keep:∀b,b<N0→b≠g0→w'.heap[b]? = w.heap[b]?
theorem KP.of_below {N0 g0 B:Nat} {w w':World} (h:Below B w w') (hB:N0≤B):KP N0 g0 w w':=⟨h.os,h.tape,h.output,h.size,fun b hb _=>h.block b (by omega)⟩
theorem KP.trans {N0 g0:Nat} {a b c:World} (h:KP N0 g0 a b) (k:KP N0 g0 b c):KP N0 g0 a c:=⟨k.os.trans h.os,k.tape.trans h.tape,k.output.trans h.output,Nat.le_trans h.size k.size,fun j hj hn=>(k.keep j hj hn).trans (h.keep j hj hn)⟩
theorem KP.drew {N0 g0:Nat} {w w':World} (h:KP N0 g0 w w'):KP N0 g0 w w'.drew:=⟨h.os,h.tape,h.output,h.size,h.keep⟩
theorem KP.set {N0 g0:Nat} {w w':World} (h:KP N0 g0 w w') {p:Addr} (hp:p.block=g0∨N0≤p.block) (u:Value):KP N0 g0 w (w'.setCell p u):=
 ⟨h.os,h.tape,h.output,by simpa [World.setCell] using h.size,fun b hb hn=>(Below.heap_setCell w' p u b (by rcases hp with e | e <;> omega)).trans (h.keep b hb hn)⟩
theorem KP.grown {N0 g0 r:Nat} {w w' w2:World} (h:KP N0 g0 w w') (hg:w'.grownBy w2 (some r)) (hr:r=g0∨N0≤r) (hN:N0≤w'.heap.size):KP N0 g0 w w2:=
 ⟨hg.os.trans h.os,hg.tape.trans h.tape,hg.output.trans h.output,Nat.le_trans h.size hg.size,fun b hb hn=>(hg.block b (by omega) (fun e=>by have:=Option.some.inj e;rcases hr with e2 | e2 <;> omega)).trans (h.keep b hb hn)⟩
theorem KP.refl (N0 g0:Nat) (w:World):KP N0 g0 w w:=⟨rfl,rfl,rfl,Nat.le_refl _,fun _ _ _=>rfl⟩
theorem KP.below {N0 g0 B:Nat} {w w':World} (h:KP N0 g0 w w') (h1:B≤N0) (h2:B≤g0):Below B w w':=⟨h.os,h.tape,h.output,h.size,fun b hb=>h.keep b (by omega) (by omega)⟩
theorem KP.cell {N0 g0:Nat} {w w':World} (h:KP N0 g0 w w') {a:Addr} {u:Value} (hc:w.cell? a=some u) (h1:a.block<N0) (h2:a.block≠g0):w'.cell? a=some u:=by
 rw [←hc]
 exact World.cell?_of_block (h.keep a.block h1 h2)
theorem KP.own {N0 g0:Nat} {w w':World} (h:KP N0 g0 w w') {b:Nat} {e:TypeId} {k:Nat} {v:Value} {n:Nat} {xs:List Value} (ho:w.ownsRow b e k v n xs) (h1:∀g,v.ownBlock=some g→g<N0∧g≠g0):w'.ownsRow b e k v n xs:=
 own_same ho fun g hg=>h.keep g (h1 g hg).1 (h1 g hg).2
section
variable {P:Program} {w:World} {ops:Array Oper} {rest:List Oper} {o:Oper} {a:Act} {Q:Exit→Act→World→Prop}
theorem wpList_mkN (hg:o.guard=none) (l c:Operand) (t:TypeId) (hop:o.op=.makeSlice t l c) (e:TypeId) (z:Value) (k bytes:Nat) (h1:P.underlying t=some (.slice e))
  (h2:(P.info? e).map (fun i=>(i.zero,i.size,i.bytes))=some (some z,k,bytes)) (kl kc:IntKind) (L C:Int) (hl:a.eval l=.int kl L) (hc:a.eval c=.int kc C)
  (n m:Nat) (hL:L=n) (hC:C=m) (hnm:n≤m) (hb:bytes*m≤281474976710656) (hm:m≤maxLen)
  (hK:∀g w' cs,Hid (g=w.heap.size)→Hid (Arr w' g e cs)→Hid (cs.length=m*k)→Below w.heap.size w w'→Hid (w'.heap.size=g+1) →
   wpList P ops Q rest (a.put o.dst (.slice (some ⟨g,0,none⟩) n m)) w'):wpList P ops Q (o :: rest) a w:=by
 obtain⟨i,hi,hz1,hz2,hz3⟩:=info_parts h2
 refine wpList_plain hg fun K hK'=>?_
 subst hL;subst hC
 have hb':(i.bytes:Int)*(m:Int)≤281474976710656:=by
  have h:((i.bytes*m:Nat):Int)≤281474976710656:=by subst hz3;omega
  rwa [Int.natCast_mul] at h
 have hm':(m:Int)≤9223372036854775807:=by simp [maxLen] at hm;omega
 have hrun:=run_make (P:=P) w t e i z h1 hi hz1 kl kc n m (by omega) (by omega) hb' hm'
 simp only [Int.toNat_natCast,hz2] at hrun
 unfold Oper.wp
 simp [execOp,hop,hl,hc,hrun,Result.andThen]
 have hA:Hid (Arr (w.alloc (.cells (madeCells z.cells (m*k)) e)) w.heap.size e (madeCells z.cells (m*k)).toList):=heap_alloc_new w _
 refine hK' _ _ (hK w.heap.size _ (madeCells z.cells (m*k)).toList rfl hA ?_ ((Below.refl _ _).alloc (Nat.le_refl _) _) ?_)
 ·show _=_
  rw [Array.length_toList,size_madeCells]
 ·show _=_
  simp
end
end Go.Proofs.YtijoollonkibfaaGreatDoor
namespace Go.Proofs.YtijoollonkibfaaGreatDoor
open Go.RowKit
theorem infoNd:(Tryz.prog.info? 40).map (fun i=>(i.zero,i.size,i.bytes))=some (some (.agg #[.int .i64 0,.string ⟨#[]⟩,.bool false,.slice none 0 0,.slice none 0 0]),5,80):=by kernel_rfl
theorem szGr:(Tryz.prog.info? 25).map (·.size)=some 2:=by kernel_rfl
def kleafC (nd:GNode):List Value:=[.int .i64 nd.kind,.string (mks nd.text),.bool nd.ord,.slice none 0 0,.slice none 0 0]
theorem grd_one {w:World} {B nb c:Nat} {nd:GNode} (h:w.ownsRow B 40 5 (.slice (some ⟨nb,0,none⟩) 1 c) 1 (kleafC nd)) (h1:nd.keys = []) (h2:nd.items = []):GRd w w.heap.size nb 0 [nd]:=by
 refine⟨(h.lt nb rfl).2,Nat.le_refl _,fun i x hi=>?_⟩
 cases i with
 | succ i=>simp at hi
 | zero=>
  have hx:nd=x:=by simpa using hi
  subst hx
  refine⟨none,0,none,0,(own_cell1 h rfl).1,(own_cell1 h rfl).1,(own_cell1 h rfl).1,?_,?_,⟨?_,fun ad e=>by cases e⟩,?_,fun ad e=>by cases e⟩
  ·rw [h1];exact(own_cell1 h (i:=3) rfl).1
  ·rw [h2];exact(own_cell1 h (i:=4) rfl).1
  ·rw [h1];exact Rd.nil
  ·rw [h2];exact Rd.nil
def KeyC (w:World) (ob:Nat) (nd:GNode) (e:Ending) (w':World):Prop:=e=.returned (.int .i64 0)∧∃nb c',Hid (Arr w' ob 25 [.slice (some ⟨nb,0,none⟩) 1 c',.int .i64 0])∧w'.ownsRow w.heap.size 40 5 (.slice (some ⟨nb,0,none⟩) 1 c') 1 (kleafC nd)∧w.grownBy w' (some ob)
set_option maxRecDepth 20000 in
set_option maxHeartbeats 8000000 in
theorem key1_any {B g o c ob gb vb:Nat} {nodes:List GNode} {root:Int} (k:Nat) (hk:k<nodes.length) (h1:(ndAt nodes k).keys = []) (h2:(ndAt nodes k).items = []) (w:World) (hG:GRd w B g o nodes)
  (hgb:Arr w gb 25 [.slice (some ⟨g,o,none⟩) nodes.length c,.int .i64 root]) (hob:Arr w ob 25 [.slice none 0 0,.int .i64 0]) :
  Calls Tryz.prog 114 #[.int .i64 (k:Int),.pointer (some ⟨ob,0,none⟩),.pointer (some ⟨gb,0,none⟩),.pointer (some ⟨vb,0,none⟩)] w (KeyC w ob (ndAt nodes k)):=by
 obtain⟨K,ck,I,ci,c0,c1,c2,c3,c4,_,_⟩:=hG.of_at hk
 rw [h1] at c3
 rw [h2] at c4
 simp only [List.length_nil] at c3 c4
 have k0:(0:Int)≤k:=by omega
 have k1:(k:Int)<nodes.length:=by omega
 have x0:=hgb.cell' (i:=0) rfl
 have z0:=hob.cell' (i:=0) rfl
 have H1:=Lib.hid h1
 have H2:=Lib.hid h2
 generalize nodes.length=n at *
 generalize ndAt nodes k=nd at *
 have HOB:=Lib.hid hob
 have hobl:=hob.lt
 have hND:Hid (Arr (w.alloc (.cells #[.int .i64 nd.kind,.string (mks nd.text),.bool nd.ord,.slice K 0 ck,.slice I 0 ci] 40)) w.heap.size 40 [.int .i64 nd.kind,.string (mks nd.text),.bool nd.ord,.slice K 0 ck,.slice I 0 ci]):=Arr.new w _ _
 have hbn:Hid (Below w.heap.size w (w.alloc (.cells #[.int .i64 nd.kind,.string (mks nd.text),.bool nd.ord,.slice K 0 ck,.slice I 0 ci] 40))):=(Below.refl _ _).alloc (Nat.le_refl _) _
 clear h1 h2 hG hgb hob
 go_enter Tryz.func114,Tryz.ntmps114
 go_upto_region 3 with(fail)
 clear c0 c1 c2 c3 c4 x0 z0
 generalize (w.alloc (.cells #[.int .i64 nd.kind,.string (mks nd.text),.bool nd.ord,.slice K 0 ck,.slice I 0 ci] 40))=w1 at *
 have hob1:=Lib.hid (HOB.out.keep hbn.out)
 have z0:=hob1.out.cell' (i:=0) rfl
 have hb2:Hid (Below w1.heap.size w1 (w1.alloc (.cells (kleafC nd).toArray 40))):=(Below.refl _ _).alloc (Nat.le_refl _) _
 have hS:=World.ownsRow_nil (w1.alloc (.cells (kleafC nd).toArray 40)) w1.heap.size 40 5
 unfold kleafC at hS hb2
 obtain⟨eb,heb⟩:∃b,w.heap.size=b:=⟨_,rfl⟩
 rw [heb] at hND hobl hbn ⊢
 have hEB:=Lib.hid heb
 have l1:eb<w1.heap.size:=hND.out.lt
 have n0:=hND.out.cell' (i:=0) rfl
 have n1:=hND.out.cell' (i:=1) rfl
 have n2:=hND.out.cell' (i:=2) rfl
 clear heb
 go_upto_region 4 with(at_builtin;go_loud (refine wpList_apS rfl (.tmp 23) (.tmp 31) 23 rfl w1.heap.size 40 _ 5 _ Tryz.underlying23 infoNd rfl (by decide) _ 0 [] rfl hS ⟨w1.heap.size,0,none⟩ _ [.int .i64 nd.kind,.string (mks nd.text),.bool nd.ord,.slice none 0 0,.slice none 0 0] rfl rfl (cells_new _ _ _) rfl (by unfold maxLen;omega) (by omega) (by simp) ?_;intro v3 w3 hown3 hgr3 hat3;obtain⟨nb,c3,hv3,_,_⟩:=own_some hown3 (by decide);subst hv3;have hob3:=(hob1.out.keep hb2.out).grown (show(w1.alloc (.cells #[.int .i64 nd.kind,.string (mks nd.text),.bool nd.ord,.slice none 0 0,.slice none 0 0] 40)).grownBy w3 none from hgr3) (by simp);have p3:=hob3.cell' (i:=0) rfl;have q3:=hob3.frozen 0))
 have hg3:Hid ((w1.alloc (.cells #[.int .i64 nd.kind,.string (mks nd.text),.bool nd.ord,.slice none 0 0,.slice none 0 0] 40)).grownBy w3 none):=hgr3
 have hB3:Hid (Below w1.heap.size w1 w3):=hb2.out.grown hg3.out (by simp) (fun k e=>by cases e)
 have hown4:Hid ((w3.setCell ⟨ob,0,none⟩ (.slice (some ⟨nb,0,none⟩) 1 c3)).ownsRow w1.heap.size 40 5 (.slice (some ⟨nb,0,none⟩) 1 c3) 1 (kleafC nd)):=own_far (p:=⟨ob,0,none⟩) hown3 (own_arr hown3 hob3 (by decide)) _
 have hob4:Hid (Arr (w3.setCell ⟨ob,0,none⟩ (.slice (some ⟨nb,0,none⟩) 1 c3)) ob 25 [.slice (some ⟨nb,0,none⟩) 1 c3,.int .i64 0]):=hob3.store 0 _
 have hND4:=Lib.hid ((hND.out.keep hB3.out).far (p:=⟨ob,0,none⟩) (show eb≠ob by omega) (.slice (some ⟨nb,0,none⟩) 1 c3))
 have hg4:Hid (w.grownBy (w3.setCell ⟨ob,0,none⟩ (.slice (some ⟨nb,0,none⟩) 1 c3)) (some ob)):=by
  have h1:w.grownBy w1 (some ob):=⟨hbn.out.os,hbn.out.tape,hbn.out.output,hbn.out.size,fun j hj _=>hbn.out.block j (by rw [←hEB.out];exact hj)⟩
  have h2:w1.grownBy w3 (some ob):=⟨hB3.out.os,hB3.out.tape,hB3.out.output,hB3.out.size,fun j hj _=>hB3.out.block j hj⟩
  exact grown_trans (grown_trans h1 h2) (grown_set w3 ⟨ob,0,none⟩ _)
 have l2:w1.heap.size≤nb:=(hown4.out.lt nb rfl).1
 clear p3 q3 hob3 hgr3 hat3 hown3 hS hb2 n0 n1 n2 z0 hob1 hND hg3 hB3
 generalize (w3.setCell ⟨ob,0,none⟩ (.slice (some ⟨nb,0,none⟩) 1 c3))=w4 at *
 have n3:=hND4.out.cell' (i:=3) rfl
 have n4:=hND4.out.cell' (i:=4) rfl
 go_upto_region 6 with(fail)
 go_loop [8,37] (fun a v=>a=.slice none 0 0∧v=.int .i64 0) (fun _ _=>0)
 case atStart=>exact⟨rfl,rfl⟩
 case round=>
  obtain⟨rfl,rfl⟩:=hrel
  go_upto_region 11 with(fail)
  go_loop [9,51] (fun a v=>a=.slice none 0 0∧v=.int .i64 0) (fun _ _=>0)
  case atStart=>exact⟨rfl,rfl⟩
  case round=>
   obtain⟨rfl,rfl⟩:=hrel
   have z0:=hob4.out.cell' (i:=0) rfl
   have z0':w4.drew.cell? ⟨ob,0,none⟩=some (.slice (some ⟨nb,0,none⟩) 1 c3):=z0
   have t3:=own_cell1 hown4.out (i:=3) rfl
   have t4:=own_cell1 hown4.out (i:=4) rfl
   go_upto_region 15 with(fail)
   go_region
   have hown5:Hid (((w4.setCell ⟨nb,3,none⟩ (.slice none 0 0)).setCell ⟨nb,4,none⟩ (.slice none 0 0)).drew.ownsRow w1.heap.size 40 5 (.slice (some ⟨nb,0,none⟩) 1 c3) 1 (kleafC nd)):=own_set1 (own_set1 hown4.out 3 (.slice none 0 0)) 4 (.slice none 0 0)
   have hob5:Hid (Arr ((w4.setCell ⟨nb,3,none⟩ (.slice none 0 0)).setCell ⟨nb,4,none⟩ (.slice none 0 0)).drew ob 25 [.slice (some ⟨nb,0,none⟩) 1 c3,.int .i64 0]):=(hob4.out.far (p:=⟨nb,3,none⟩) (show ob≠nb by omega) (.slice none 0 0)).far (p:=⟨nb,4,none⟩) (show ob≠nb by omega) (.slice none 0 0)
   have hb5:Hid (Below w.heap.size w4 ((w4.setCell ⟨nb,3,none⟩ (.slice none 0 0)).setCell ⟨nb,4,none⟩ (.slice none 0 0)).drew):=(((Below.refl _ _).setCell (p:=⟨nb,3,none⟩) (show w.heap.size≤nb by have:=hEB.out;omega) (.slice none 0 0)).setCell (p:=⟨nb,4,none⟩) (show w.heap.size≤nb by have:=hEB.out;omega) (.slice none 0 0)).drew
   clear t3 t4 z0 z0' n3 n4 hob4 hown4 hND4
   generalize ((w4.setCell ⟨nb,3,none⟩ (.slice none 0 0)).setCell ⟨nb,4,none⟩ (.slice none 0 0)).drew=w5 at *
   have hg5:Hid (w.grownBy w5 (some ob)):=⟨hb5.out.os.trans hg4.out.os,hb5.out.tape.trans hg4.out.tape,hb5.out.output.trans hg4.out.output,Nat.le_trans hg4.out.size hb5.out.size,fun j hj hr=>(hb5.out.block j hj).trans (hg4.out.block j hj hr)⟩
   go_wp2_with (fail)
   go_ret
   exact⟨rfl,nb,c3,hob5,own_lo hown5.out (by have:=hEB.out;omega),hg5.out⟩
set_option maxRecDepth 20000 in
set_option maxHeartbeats 8000000 in
theorem key_any {B g o c:Nat} {nodes:List GNode} {root:Int} (k:Nat) (hk:k<nodes.length) (h1:(ndAt nodes k).keys = []) (h2:(ndAt nodes k).items = []) (w:World) (hG:GRd w B g o nodes) :
  Calls Tryz.prog 85 #[.agg #[.slice (some ⟨g,o,none⟩) nodes.length c,.int .i64 root],.int .i64 (k:Int)] w fun e w'=>∃nb c',e=.returned (.agg #[.slice (some ⟨nb,0,none⟩) 1 c',.int .i64 0])∧w'.ownsRow w.heap.size 40 5 (.slice (some ⟨nb,0,none⟩) 1 c') 1 (kleafC (ndAt nodes k))∧Below w.heap.size w w':=by
 have hmf:∀(fn:Fn) (first cap:Array Value) (w:World),(Instr.makeFunc fn first cap).run Tryz.prog w=.ok (.func fn first cap) w:=fun _ _ _ _=>rfl
 obtain⟨hg1,hr1,hb1,hz1⟩:=box2 w 25 25 [.slice (some ⟨g,o,none⟩) nodes.length c,.int .i64 root] [.slice none 0 0,.int .i64 0]
 have HG:=Lib.hid hG
 have HB1:=Lib.hid hb1
 clear hG hb1
 obtain⟨gb,hgb⟩:∃b,w.heap.size=b:=⟨_,rfl⟩
 obtain⟨rb,hrb⟩:∃b,w.heap.size+1=b:=⟨_,rfl⟩
 go_enter Tryz.func85,Tryz.ntmps85
 go_upto_region 1 with(fail)
 generalize ((w.alloc (.cells #[.slice (some ⟨g,o,none⟩) nodes.length c,.int .i64 root] 25)).alloc (.cells #[.slice none 0 0,.int .i64 0] 25))=w1 at *
 have hgb2:rb=gb+1:=by omega
 rw [hgb] at hg1 HB1
 rw [hrb] at hr1
 have HGB:=Lib.hid hgb
 have HRB:=Lib.hid hgb2
 have l1:rb<w1.heap.size:=hr1.out.lt
 have HZ1:=Lib.hid hz1.out
 rw [hgb] at HZ1
 try rw [hgb]
 rw [←hgb2]
 clear hgb hrb hgb2 hz1
 have hG1:=Lib.hid (HG.out.below HB1.out (by have:=HG.out.2.1;have:=HGB.out;omega))
 have ho2:Hid (Arr (w1.alloc (.cells #[.slice none 0 0,.int .i64 0] 25)) w1.heap.size 25 [.slice none 0 0,.int .i64 0]):=Arr.new w1 _ _
 have hb2:Hid (Below w1.heap.size w1 (w1.alloc (.cells #[.slice none 0 0,.int .i64 0] 25))):=(Below.refl _ _).alloc (Nat.le_refl _) _
 go_upto_region 2 with(fail)
 generalize (w1.alloc (.cells #[.slice none 0 0,.int .i64 0] 25))=w2 at *
 obtain⟨ob,hob⟩:∃b,w1.heap.size=b:=⟨_,rfl⟩
 rw [hob] at ho2 hb2 l1 ⊢
 have HOB:=Lib.hid hob
 clear hob
 have l2:ob<w2.heap.size:=ho2.out.lt
 have hg2:=Lib.hid (hg1.out.below hb2.out (by have:=HRB.out;omega))
 have hr2:=Lib.hid (hr1.out.below hb2.out l1)
 have HB2:=Lib.hid (HB1.out.trans (hb2.out.mono (by have:=HRB.out;omega)))
 have hv3:Hid (Arr (w2.alloc (.cells #[.nilFunc] 139)) w2.heap.size 139 [.nilFunc]):=Arr.new w2 _ _
 have hb3:Hid (Below w2.heap.size w2 (w2.alloc (.cells #[.nilFunc] 139))):=(Below.refl _ _).alloc (Nat.le_refl _) _
 go_upto_region 3 with(fail)
 generalize (w2.alloc (.cells #[.nilFunc] 139))=w3 at *
 obtain⟨vb,hvb⟩:∃b,w2.heap.size=b:=⟨_,rfl⟩
 rw [hvb] at hv3 hb3 l2 ⊢
 have HVB:=Lib.hid hvb
 clear hvb
 have z0:=hv3.out.cell' (i:=0) rfl
 have zf:=hv3.out.frozen 0
 have hg4:=Lib.hid ((hg2.out.below hb3.out (by have:=HRB.out;omega)).far (p:=⟨vb,0,none⟩) (show gb≠vb by have:=HRB.out;omega) (.func (.func 114) #[] #[.pointer (some ⟨ob,0,none⟩),.pointer (some ⟨gb,0,none⟩),.pointer (some ⟨vb,0,none⟩)]))
 have hr4:=Lib.hid ((hr2.out.below hb3.out (by omega)).far (p:=⟨vb,0,none⟩) (show rb≠vb by omega) (.func (.func 114) #[] #[.pointer (some ⟨ob,0,none⟩),.pointer (some ⟨gb,0,none⟩),.pointer (some ⟨vb,0,none⟩)]))
 have ho4:=Lib.hid ((ho2.out.below hb3.out (by omega)).far (p:=⟨vb,0,none⟩) (show ob≠vb by omega) (.func (.func 114) #[] #[.pointer (some ⟨ob,0,none⟩),.pointer (some ⟨gb,0,none⟩),.pointer (some ⟨vb,0,none⟩)]))
 have hv4:Hid (Arr (w3.setCell ⟨vb,0,none⟩ (.func (.func 114) #[] #[.pointer (some ⟨ob,0,none⟩),.pointer (some ⟨gb,0,none⟩),.pointer (some ⟨vb,0,none⟩)])) vb 139 [.func (.func 114) #[] #[.pointer (some ⟨ob,0,none⟩),.pointer (some ⟨gb,0,none⟩),.pointer (some ⟨vb,0,none⟩)]]):=hv3.out.store 0 _
 have HB4:=Lib.hid ((HB2.out.trans (hb3.out.mono (by have:=HRB.out;omega))).setCell (p:=⟨vb,0,none⟩) (show gb≤vb by have:=HRB.out;omega) (.func (.func 114) #[] #[.pointer (some ⟨ob,0,none⟩),.pointer (some ⟨gb,0,none⟩),.pointer (some ⟨vb,0,none⟩)]))
 go_upto_region 4 with(fail)
 clear z0 zf hv3 hg2 hr2 ho2 HB2 hb3 hg1 hr1 HB1 hb2 hmf
 generalize (w3.setCell ⟨vb,0,none⟩ (.func (.func 114) #[] #[.pointer (some ⟨ob,0,none⟩),.pointer (some ⟨gb,0,none⟩),.pointer (some ⟨vb,0,none⟩)]))=w4 at *
 have v0:=hv4.out.cell' (i:=0) rfl
 have hG4:=HG.out.below HB4.out (by have:=HG.out.2.1;have:=HGB.out;omega)
 have D:=Lib.hid (key1_any (vb:=vb) k hk h1 h2 w4 hG4 hg4.out ho4.out)
 have hs4:=HB4.out.size
 have hv4l:=hv4.out.lt
 clear hG4 hg4 ho4
 go_upto_region 5 with(go_at_call 114;((with_reducible refine D.out.mono ?_));rintro e w5 ⟨rfl,nb,c',hob5,hn5,hg5⟩)
 clear v0 D
 have hr5:=Lib.hid (hr4.out.grown hg5 (by intro e;have:=Option.some.inj e;omega))
 have HB5:Hid (Below gb w w5):=HB4.out.grown hg5 (by have:=HRB.out;omega) (fun k e=>by have:=Option.some.inj e;have:=HRB.out;omega)
 have o0:=hob5.out.cell' (i:=0) rfl
 have o1:=hob5.out.cell' (i:=1) rfl
 have HN5:=Lib.hid hn5
 have l5:=hr5.out.lt
 clear hn5 hr4 HB4 hv4
 go_wp2_with (((with_reducible show wpList _ _ _ (Oper.mk none (Op.store 25 (Operand.tmp 4) (Operand.tmp 11)) _ _ _ _ :: _) _ _);go_loud (refine wpList_sr rfl rfl 25 (.tmp 4) (.tmp 11) rfl rb [.slice (some ⟨nb,0,none⟩) 1 c',.int .i64 0] rfl rfl 25 _ hr5.out _ szGr (by first | rfl | simp) (by first | rfl | simp) (by first | rfl | simp [Value.oneCell']) ?_;intro w6 hr6 hg6 hz6)))
 have r0:=hr6.out.cell' (i:=0) rfl
 have r1:=hr6.out.cell' (i:=1) rfl
 refine bodyPost_ret (v:=.agg #[.slice (some ⟨nb,0,none⟩) 1 c',.int .i64 0]) (by simp [results,Tryz.results85,go_sem,r0,r1]) rfl ?_
 have hnl:=(HN5.out.lt nb rfl).1
 have hN6:=own_grown HN5.out hg6 (slice_ne (show nb≠rb by omega))
 exact⟨nb,c',rfl,own_lo hN6 (by have:=HGB.out;have:=HRB.out;omega),by rw [HGB.out];exact below_row HB5.out hg6 (by have:=HB5.out.size;have:=HGB.out;have:=HRB.out;omega) (by have:=HRB.out;omega)⟩
end Go.Proofs.YtijoollonkibfaaGreatDoor
namespace Go.Proofs.YtijoollonkibfaaGreatDoor
open Go.RowKit
def LessOK (Good:World→Prop) (N K kb:Nat):Prop:=∀(W:World) (a b:Nat),Good W→K≤W.heap.size→a<N→b<N→Calls Tryz.prog 87 #[.int .i64 (a:Int),.int .i64 (b:Int),.pointer (some ⟨kb,0,none⟩)] W fun e w'=>∃r,e=.returned (.bool r)∧Below W.heap.size W w'
def InR (N:Nat) (xs:List Int):Prop:=∀x∈xs,0≤x∧x<(N:Int)
def MrgR (N K g c n:Nat) (w:World) (e:Ending) (w':World):Prop:=e=.returned (.tuple #[])∧∃xs',xs'.length=n∧InR N xs'∧w'.ownsRow K 3 1 (.slice (some ⟨g,0,none⟩) n c) n (I64 xs')∧w.grownBy w' (some g)
set_option maxRecDepth 20000 in
set_option maxHeartbeats 8000000 in
theorem merge_any {Good:World→Prop} {N K kb N0 g0:Nat} (hst:∀w w',Good w→KP N0 g0 w w'→Good w') (hL:LessOK Good N N0 kb) (n:Nat):∀(xs:List Int) (g c:Nat) (w:World),xs.length=n→InR N xs→n≤65536→Good w→K≤g→(g=g0∨N0≤g)→N0≤w.heap.size →
  w.ownsRow K 3 1 (.slice (some ⟨g,0,none⟩) n c) n (I64 xs)→Calls Tryz.prog 86 #[.slice (some ⟨g,0,none⟩) n c,.func (.func 87) #[] #[.pointer (some ⟨kb,0,none⟩)]] w (MrgR N K g c n w):=by
 induction n using Nat.strongRecOn with
 | _ n ih=>
  intro xs g c w hlen hin hn hgd hK hG0 hN0 hown
  by_cases h2:n<2
  ·have h2':(n:Int)<2:=by omega
   go_enter Tryz.func86,Tryz.ntmps86
   go_wp2_with (fail)
   go_end0
   exact⟨rfl,xs,hlen,hin,hown,World.grownBy.refl _ _⟩
  ·have h2':¬(n:Int)<2:=by omega
   have HIN:=Lib.hid hin
   have HL:=Lib.hid hlen
   have HO:=Lib.hid hown
   have HGD:=Lib.hid hgd
   have hgl:=(hown.lt g rfl).2
   have hnc:n≤c:=by
    rcases hown.2 with⟨h,_⟩ | ⟨_,cap,_,h,_,_,h3,_⟩
    ·cases h
    ·injection h with _ _ h;omega
   have hq:0≤(n:Int) / 2∧(n:Int) / 2≤(c:Int):=by omega
   have hwk:Hid (Rd w (some ⟨g,0,none⟩) (I64 xs)):=fun j u hj=>⟨_,rfl,hown.cells (g:=g) rfl j u hj⟩
   have hmade:Hid ((w.alloc (.cells #[] 3)).ownsRow w.heap.size 3 1 (.slice (some ⟨w.heap.size,0,none⟩) 0 0) 0 []):=(World.ownsRow_made w #[] 0 (Nat.le_refl _) (by decide) rfl)
   have hb1:Hid (Below w.heap.size w (w.alloc (.cells #[] 3))):=(Below.refl _ _).alloc (Nat.le_refl _) _
   have hr1:Hid (Rd (w.alloc (.cells #[] 3)) (some ⟨g,0,none⟩) (I64 (xs.take (n / 2)))):=fun j u hj=>by
    obtain⟨ad,e,hc⟩:=hwk.out j u (by unfold I64 at hj ⊢;rw [List.map_take,List.getElem?_take] at hj;split at hj;exact hj;cases hj)
    obtain rfl:=Option.some.inj e
    exact⟨_,rfl,by rw [hb1.out.cell (by rw [blk_add];exact hgl)];exact hc⟩
   obtain⟨hf,hhf⟩:∃hf,n / 2=hf:=⟨_,rfl⟩
   have hdiv:(n:Int) / 2=(hf:Int):=by omega
   have hf1:1≤hf∧hf<n:=by omega
   have hfc:(hf:Int)≤(c:Int):=by omega
   have hlA:(I64 (xs.take hf)).length=hf:=by unfold I64;rw [List.length_map,List.length_take,hlen];omega
   rw [hhf] at hr1
   have hcz:(some (⟨g,0,none⟩:Addr)=none→c=0):=fun h=>by cases h
   have hmx:0+hf≤maxLen:=by unfold maxLen;omega
   have hby:(0+hf)*8≤140737488355328:=by omega
   have hbs:w.heap.size≤(w.alloc (.cells #[] 3)).heap.size:=by simp
   have hone:∀u∈I64 (xs.take hf),u.oneCell'=true:=ints_oneCell .i64 (xs.take hf)
   clear hown hin hlen hgd hq hhf
   go_enter Tryz.func86,Tryz.ntmps86
   go_upto_region 1 with(fail)
   go_upto_region 2 with((with_reducible show wpList _ _ _ (Oper.mk _ (Op.call { callee:=Callee.builtin Builtin.append,args:=_,argTypes:=_ }) _ _ _ _ :: _) _ _);go_loud (refine wpList_apl rfl (.tmp 10) (.tmp 15) 38 rfl w.heap.size 3 _ 8 Tryz.underlying38 infoInt rfl _ 0 [] rfl hmade.out _ hf c (I64 (xs.take hf)) rfl hr1.out hlA hcz hone hmx hby hbs ?_;intro v3 w3 hown3 hgr3))
   obtain⟨gl,cl,hv3,hcl,hclm⟩:=own_some hown3 (by omega)
   subst hv3
   rw [Nat.zero_add] at hown3
   have hg3:Hid ((w.alloc (.cells #[] 3)).grownBy w3 (some w.heap.size)):=hgr3
   have hB3:Hid (Below w.heap.size w w3):=hb1.out.grown hg3.out (by simp) (fun k e=>by have:=Option.some.inj e;omega)
   have hL3:Hid (w3.ownsRow w.heap.size 3 1 (.slice (some ⟨gl,0,none⟩) hf cl) hf (I64 (xs.take hf))):=hown3
   have hwk3:=Lib.hid (hwk.out.keep hB3.out)
   clear hgr3 hown3 hr1 hmade hlA hcz hmx hby hbs hone hb1 hg3 hwk
   rw [Nat.zero_add]
   obtain⟨hr,hhr⟩:∃hr,n - hf=hr:=⟨_,rfl⟩
   obtain⟨cr,hcr⟩:∃cr,c - hf=cr:=⟨_,rfl⟩
   have hr1:1≤hr∧hf+hr=n:=by omega
   have hmade:Hid ((w3.alloc (.cells #[] 3)).ownsRow w3.heap.size 3 1 (.slice (some ⟨w3.heap.size,0,none⟩) 0 0) 0 []):=(World.ownsRow_made w3 #[] 0 (Nat.le_refl _) (by decide) rfl)
   have hb1:Hid (Below w3.heap.size w3 (w3.alloc (.cells #[] 3))):=(Below.refl _ _).alloc (Nat.le_refl _) _
   have hq0:(0:Int)≤hf∧(hf:Int)≤n∧(n:Int)≤c:=by omega
   have hlA:(I64 (xs.drop hf)).length=hr:=by unfold I64;rw [List.length_map,List.length_drop,HL.out];omega
   have hra:Hid (Rd (w3.alloc (.cells #[] 3)) (some ⟨g,hf,none⟩) (I64 (xs.drop hf))):=by
    have h:=(hwk3.out.keep hb1.out).drop hf
    rw [←I64_drop,Addr.add_mid,Nat.zero_add] at h
    exact h
   have hcz:(some (⟨g,hf,none⟩:Addr)=none→cr=0):=fun h=>by cases h
   have hmx:0+hr≤maxLen:=by unfold maxLen;omega
   have hby:(0+hr)*8≤140737488355328:=by omega
   have hbs:w3.heap.size≤(w3.alloc (.cells #[] 3)).heap.size:=by simp
   have hone:∀u∈I64 (xs.drop hf),u.oneCell'=true:=ints_oneCell .i64 (xs.drop hf)
   go_upto_region 3 with(((with_reducible show wpList _ _ _ (Oper.mk _ (Op.call { callee:=Callee.builtin Builtin.append,args:=_,argTypes:=_ }) _ _ _ _ :: _) _ _);go_loud (refine wpList_apl rfl (.tmp 17) (.tmp 22) 38 rfl w3.heap.size 3 _ 8 Tryz.underlying38 infoInt rfl _ 0 [] rfl hmade.out _ hr cr (I64 (xs.drop hf)) rfl hra.out hlA hcz hone hmx hby hbs ?_;intro v4 w4 hown4 hgr4)))
   obtain⟨gr,c2,hv4,hcr4,hcrm⟩:=own_some hown4 (by omega)
   subst hv4
   rw [Nat.zero_add] at hown4 ⊢
   have hg4:Hid ((w3.alloc (.cells #[] 3)).grownBy w4 (some w3.heap.size)):=hgr4
   have hB4:Hid (Below w3.heap.size w3 w4):=hb1.out.grown hg4.out (by simp) (fun k e=>by have:=Option.some.inj e;omega)
   have hR4:Hid (w4.ownsRow w3.heap.size 3 1 (.slice (some ⟨gr,0,none⟩) hr c2) hr (I64 (xs.drop hf))):=hown4
   have hL4:=Lib.hid (own_below hL3.out hB4.out)
   have hs3:=hB3.out.size
   have hs4:=hB4.out.size
   have hO4:=Lib.hid (own_below (own_below HO.out hB3.out) hB4.out)
   have hZ4:=Lib.hid (hB3.out.trans (hB4.out.mono hs3))
   have l1:w.heap.size≤gl:=(hL3.out.lt gl rfl).1
   have l2:gl<w3.heap.size:=(hL3.out.lt gl rfl).2
   have l3:w3.heap.size≤gr:=(hR4.out.lt gr rfl).1
   have D1:=Lib.hid (ih hf (by omega) (xs.take hf) gl cl w4 (by rw [List.length_take,HL.out];omega) (fun x hx=>HIN.out x (List.mem_of_mem_take hx)) (by omega) (hst _ _ HGD.out (KP.of_below hZ4.out hN0)) (by omega) (.inr (by omega)) (by omega) (own_lo hL4.out (by omega)))
   clear hgr4 hown4 hra hmade hlA hcz hmx hby hbs hone hb1 hg4 hwk3 hL3 hB3 hB4 hdiv hfc hq0
   go_upto_region 4 with(go_at_call 86;((with_reducible refine D1.out.mono ?_));rintro e w5 ⟨rfl,xl,hxl,hxi,ho5,hg5⟩)
   have hR5:=Lib.hid (own_grown hR4.out hg5 (slice_ne (by omega)))
   have hO5:=Lib.hid (own_grown hO4.out hg5 (slice_ne (by omega)))
   have hs5:=hg5.size
   have hZ5:Hid (Below w.heap.size w w5):=hZ4.out.grown hg5 (by omega) (fun k e=>by have:=Option.some.inj e;omega)
   have HXI:=Lib.hid hxi
   have HXL:=Lib.hid hxl
   have HL5:=Lib.hid ho5
   have D2:=Lib.hid (ih hr (by omega) (xs.drop hf) gr c2 w5 (by rw [List.length_drop,HL.out];omega) (fun x hx=>HIN.out x (List.mem_of_mem_drop hx)) (by omega) (hst _ _ HGD.out (KP.of_below hZ5.out hN0)) (by omega) (.inr (by omega)) (by omega) (own_lo hR5.out (by omega)))
   clear D1 ho5 hg5 hR4 hO4 hL4 hxi hxl
   go_upto_region 5 with(go_at_call 86;((with_reducible refine D2.out.mono ?_));rintro e w6 ⟨rfl,xr,hxr,hxj,ho6,hg6⟩)
   have hL6:=Lib.hid (own_grown HL5.out hg6 (slice_ne (by omega)))
   have hO6:=Lib.hid (own_grown hO5.out hg6 (slice_ne (by omega)))
   have hs6:=hg6.size
   have hZ6:Hid (Below w.heap.size w w6):=hZ5.out.grown hg6 (by omega) (fun k e=>by have:=Option.some.inj e;omega)
   have HXJ:=Lib.hid hxj
   have HXR:=Lib.hid hxr
   have hR6:=Lib.hid ho6
   have hK6:Hid (KP N0 g0 w w6):=KP.of_below hZ6.out hN0
   have hLr:Hid (Rd w6 (some ⟨gl,0,none⟩) (I64 xl)):=fun j u hj=>⟨_,rfl,hL6.out.cells (g:=gl) rfl j u hj⟩
   have hRr:Hid (Rd w6 (some ⟨gr,0,none⟩) (I64 xr)):=fun j u hj=>⟨_,rfl,hR6.out.cells (g:=gr) rfl j u hj⟩
   clear D2 ho6 hg6 hR5 hO5 HL5 hxj hxr
   go_upto_region 6 with(fail)
   go_loopw [4,5,32] (fun a b v wr=>∃(i nl nr ol oR c1 c2:Nat) (ys xl xr:List Int),nl+nr+i=n∧nl≤c1∧nr≤c2∧a=.slice (some ⟨gl,ol,none⟩) nl c1∧b=.slice (some ⟨gr,oR,none⟩) nr c2∧v=.int .i64 (i:Int)∧Hid (xl.length=nl∧xr.length=nr∧ys.length=n∧InR N ys∧InR N xl∧InR N xr)∧Hid (Rd wr (some ⟨gl,ol,none⟩) (I64 xl))∧Hid (Rd wr (some ⟨gr,oR,none⟩) (I64 xr))∧Hid (wr.ownsRow K 3 1 (.slice (some ⟨g,0,none⟩) n c) n (I64 ys))∧Hid (KP N0 g0 w wr)∧w.grownBy wr (some g)) (fun _ _ v _=>n - (intOf v).toNat)
   case atStart=>
    have h1:=HXL.out
    have h2:=HXR.out
    have h3:=HL.out
    have hgk:w.grownBy w6 (some g):=⟨hZ6.out.os,hZ6.out.tape,hZ6.out.output,hZ6.out.size,fun j hj _=>hZ6.out.block j hj⟩
    exact⟨0,hf,hr,0,0,cl,c2,xs,xl,xr,by omega,by omega,by omega,rfl,rfl,rfl,⟨h1,h2,h3,HIN.out,HXI.out,HXJ.out⟩,hLr,hRr,hO6,hK6,hgk⟩
   case round=>
    clear hLr hRr hO6 hK6 hL6 hR6 HXI HXJ HXL HXR HL HO HIN hZ4 hZ5 hZ6 ih hcl hclm hcr4 hcrm hhr hcr h2 h2'
    obtain⟨i,nl,nr,ol,oR,c1,c2,ys,xl,xr,hsum,hc1,hc2,rfl,rfl,rfl,HP,hLr,hRr,hOr,hKr,hgr⟩:=hrel
    by_cases hin:i=n
    ·have hin':¬(i:Int)<n:=by omega
     go_wp2_with (fail)
     go_end0
     exact⟨rfl,ys,HP.out.2.2.1,HP.out.2.2.2.1,hOr,hgr⟩
    ·have hin':(i:Int)<n:=by omega
     have i0:(0:Int)≤i:=by omega
     rcases(show nr=0∨nr≠0∧nl=0∨nr≠0∧nl≠0 by omega) with h | ⟨h,h'⟩ | ⟨h,h'⟩
     ·subst h
      go_upto_region 8 with(fail)
      go_quiet (fail)
      have hb7:Below wr.heap.size wr (wr.drewN nq):=Below.drewN' (Below.refl _ _) nq
      have hL7:=Lib.hid (hLr.out.keep hb7)
      have hR7:=Lib.hid (hRr.out.keep hb7)
      have hO7:=Lib.hid (own_below hOr.out hb7)
      have hK7:=Lib.hid (hKr.out.trans (KP.of_below hb7 (by have:=hKr.out.size;omega)))
      have hg7:Hid (w.grownBy (wr.drewN nq) (some g)):=grown_trans hgr ⟨hb7.os,hb7.tape,hb7.output,hb7.size,fun j hj _=>hb7.block j hj⟩
      clear hLr hRr hOr hKr hgr hb7
      generalize (wr.drewN nq)=w7 at *
      obtain⟨x,hx,hxN⟩:=InR_get HP.out.2.2.2.2.1 (k:=0) (by have:=HP.out.1;omega)
      obtain⟨ad,had,hc0⟩:=hL7.out.at_ (I64_get hx)
      obtain rfl:=Option.some.inj had
      have e0:w7.drew.cell? ⟨gl,ol,none⟩=some (.int .i64 (x:Int)):=hc0
      have hgne:g≠gl:=by omega
      have o1:=own_cell1 hO7.out (i:=i) (I64_getD (l:=ys) (by have:=HP.out.2.2.1;omega))
      have o2:w7.drew.cell? ⟨g,i,none⟩=some (.int .i64 (ys.getD i 0)):=o1.1
      have o3:w7.drew.frozen? ⟨g,i,none⟩=false:=o1.2
      have e1:(w7.drew.setCell ⟨g,i,none⟩ (.int .i64 (x:Int))).cell? ⟨gl,ol,none⟩=some (.int .i64 (x:Int)):=(World.cell?_setCell_far _ _ _ _ hgne).trans e0
      have hO8:Hid ((w7.setCell ⟨g,i,none⟩ (.int .i64 (x:Int))).drew.ownsRow K 3 1 (.slice (some ⟨g,0,none⟩) n c) n (I64 (ys.set i (x:Int)))):=by rw [←I64_set];exact own_set1 hO7.out i _
      have hK8:Hid (KP N0 g0 w (w7.setCell ⟨g,i,none⟩ (.int .i64 (x:Int))).drew):=(hK7.out.set (p:=⟨g,i,none⟩) hG0 _).drew
      have hg8:Hid (w.grownBy (w7.setCell ⟨g,i,none⟩ (.int .i64 (x:Int))).drew (some g)):=grown_drw (grown_trans hg7.out (grown_set w7 ⟨g,i,none⟩ (.int .i64 (x:Int))))
      have hL8:Hid (Rd (w7.setCell ⟨g,i,none⟩ (.int .i64 (x:Int))).drew (some ⟨gl,ol,none⟩) (I64 xl)):=hL7.out.setCell (p:=⟨g,i,none⟩) _ (fun ad e=>by have:=Option.some.inj e;subst this;show gl≠g;omega)
      have hR8:Hid (Rd (w7.setCell ⟨g,i,none⟩ (.int .i64 (x:Int))).drew (some ⟨gr,oR,none⟩) (I64 xr)):=hR7.out.setCell (p:=⟨g,i,none⟩) _ (fun ad e=>by have:=Option.some.inj e;subst this;show gr≠g;omega)
      have hY8:Hid (InR N (ys.set i (x:Int))):=fun y hy=>by
       rcases List.mem_or_eq_of_mem_set hy with h1 | h1
       ·exact HP.out.2.2.2.1 y h1
       ·rw [h1];omega
      have hX8:Hid (InR N (xl.drop 1)):=fun y hy=>HP.out.2.2.2.2.1 y (List.mem_of_mem_drop hy)
      generalize ys.getD i 0=yv at *
      obtain⟨m,hm⟩:∃m,nl - 1=m:=⟨_,rfl⟩
      obtain⟨d,hd⟩:∃d,c1 - 1=d:=⟨_,rfl⟩
      have p0:0<nl:=by omega
      have p1:(1:Int)≤nl∧(nl:Int)≤c1:=by omega
      have p2:(0:Int)<nl:=by omega
      clear o1 hc0 hL7 hR7 hO7 hK7 hg7
      rcases(show c1=1∨c1≠1 by omega) with rfl | hc
      ·have hd0:d=0:=by omega
       have hm0:m=0:=by omega
       subst hd0
       subst hm0
       go_upto_region 9 with(fail)
       go_region_held3 (fun w'=>w'.cell? ⟨gl,ol,none⟩=some (.int .i64 (x:Int))) (first | assumption | go_keep) (fail)
       have hr8:Hid (Rd (w7.setCell ⟨g,i,none⟩ (.int .i64 (x:Int))).drew (some ⟨gl,ol,none⟩) (I64 (xl.drop 1))):=by
        have hq:xl.drop 1 = []:=List.drop_of_length_le (by have:=HP.out.1;omega)
        rw [hq];exact Rd.nil
       have hP8:Hid (((xl.drop 1).length=0∧xr.length=0∧(ys.set i (x:Int)).length=n∧InR N (ys.set i (x:Int))∧InR N (xl.drop 1)∧InR N xr)):=⟨(by rw [List.length_drop];have:=HP.out.1;omega),HP.out.2.1,by rw [List.length_set];exact HP.out.2.2.1,hY8.out,hX8.out,HP.out.2.2.2.2.2⟩
       clear e0 e1 o2 o3 hL8 hX8 hY8 HP
       generalize (w7.setCell ⟨g,i,none⟩ (.int .i64 (x:Int))).drew=w8 at *
       go_wp2_with (fail)
       go_roundw
       case rel=>exact⟨i+1,0,0,ol,oR,0,c2,ys.set i (x:Int),(xl.drop 1),xr,by omega,by omega,by omega,rfl,rfl,i64e (by omega),hP8,hr8,hR8,hO8,hK8,hg8.out⟩
       case measure=>simp [intOf];omega
      ·go_upto_region 9 with(fail)
       go_region_held3 (fun w'=>w'.cell? ⟨gl,ol,none⟩=some (.int .i64 (x:Int))) (first | assumption | go_keep) (fail)
       have hr8:Hid (Rd (w7.setCell ⟨g,i,none⟩ (.int .i64 (x:Int))).drew (some ⟨gl,ol+1,none⟩) (I64 (xl.drop 1))):=by
        have h:=hL8.out.drop 1
        rw [←I64_drop,Addr.add_mid] at h
        exact h
       have hP8:Hid (((xl.drop 1).length=m∧xr.length=0∧(ys.set i (x:Int)).length=n∧InR N (ys.set i (x:Int))∧InR N (xl.drop 1)∧InR N xr)):=⟨(by rw [List.length_drop];have:=HP.out.1;omega),HP.out.2.1,by rw [List.length_set];exact HP.out.2.2.1,hY8.out,hX8.out,HP.out.2.2.2.2.2⟩
       clear e0 e1 o2 o3 hL8 hX8 hY8 HP
       generalize (w7.setCell ⟨g,i,none⟩ (.int .i64 (x:Int))).drew=w8 at *
       go_wp2_with (fail)
       go_roundw
       case rel=>exact⟨i+1,m,0,ol+1,oR,d,c2,ys.set i (x:Int),(xl.drop 1),xr,by omega,by omega,by omega,rfl,rfl,i64e (by omega),hP8,hr8,hR8,hO8,hK8,hg8.out⟩
       case measure=>simp [intOf];omega
     ·subst h'
      have h0:((nr:Int) == 0)=false:=by simp;omega
      go_upto_region 8 with(fail)
      go_quiet (fail)
      have hb7:Below wr.heap.size wr (wr.drewN nq):=Below.drewN' (Below.refl _ _) nq
      have hL7:=Lib.hid (hLr.out.keep hb7)
      have hR7:=Lib.hid (hRr.out.keep hb7)
      have hO7:=Lib.hid (own_below hOr.out hb7)
      have hK7:=Lib.hid (hKr.out.trans (KP.of_below hb7 (by have:=hKr.out.size;omega)))
      have hg7:Hid (w.grownBy (wr.drewN nq) (some g)):=grown_trans hgr ⟨hb7.os,hb7.tape,hb7.output,hb7.size,fun j hj _=>hb7.block j hj⟩
      clear hLr hRr hOr hKr hgr hb7
      generalize (wr.drewN nq)=w7 at *
      obtain⟨x,hx,hxN⟩:=InR_get HP.out.2.2.2.2.2 (k:=0) (by have:=HP.out.2.1;omega)
      obtain⟨ad,had,hc0⟩:=hR7.out.at_ (I64_get hx)
      obtain rfl:=Option.some.inj had
      have e0:w7.drew.cell? ⟨gr,oR,none⟩=some (.int .i64 (x:Int)):=hc0
      have hgne:g≠gr:=by omega
      have o1:=own_cell1 hO7.out (i:=i) (I64_getD (l:=ys) (by have:=HP.out.2.2.1;omega))
      have o2:w7.drew.cell? ⟨g,i,none⟩=some (.int .i64 (ys.getD i 0)):=o1.1
      have o3:w7.drew.frozen? ⟨g,i,none⟩=false:=o1.2
      have e1:(w7.drew.setCell ⟨g,i,none⟩ (.int .i64 (x:Int))).cell? ⟨gr,oR,none⟩=some (.int .i64 (x:Int)):=(World.cell?_setCell_far _ _ _ _ hgne).trans e0
      have hO8:Hid ((w7.setCell ⟨g,i,none⟩ (.int .i64 (x:Int))).drew.ownsRow K 3 1 (.slice (some ⟨g,0,none⟩) n c) n (I64 (ys.set i (x:Int)))):=by rw [←I64_set];exact own_set1 hO7.out i _
      have hK8:Hid (KP N0 g0 w (w7.setCell ⟨g,i,none⟩ (.int .i64 (x:Int))).drew):=(hK7.out.set (p:=⟨g,i,none⟩) hG0 _).drew
      have hg8:Hid (w.grownBy (w7.setCell ⟨g,i,none⟩ (.int .i64 (x:Int))).drew (some g)):=grown_drw (grown_trans hg7.out (grown_set w7 ⟨g,i,none⟩ (.int .i64 (x:Int))))
      have hL8:Hid (Rd (w7.setCell ⟨g,i,none⟩ (.int .i64 (x:Int))).drew (some ⟨gl,ol,none⟩) (I64 xl)):=hL7.out.setCell (p:=⟨g,i,none⟩) _ (fun ad e=>by have:=Option.some.inj e;subst this;show gl≠g;omega)
      have hR8:Hid (Rd (w7.setCell ⟨g,i,none⟩ (.int .i64 (x:Int))).drew (some ⟨gr,oR,none⟩) (I64 xr)):=hR7.out.setCell (p:=⟨g,i,none⟩) _ (fun ad e=>by have:=Option.some.inj e;subst this;show gr≠g;omega)
      have hY8:Hid (InR N (ys.set i (x:Int))):=fun y hy=>by
       rcases List.mem_or_eq_of_mem_set hy with h1 | h1
       ·exact HP.out.2.2.2.1 y h1
       ·rw [h1];omega
      have hX8:Hid (InR N (xr.drop 1)):=fun y hy=>HP.out.2.2.2.2.2 y (List.mem_of_mem_drop hy)
      generalize ys.getD i 0=yv at *
      obtain⟨m,hm⟩:∃m,nr - 1=m:=⟨_,rfl⟩
      obtain⟨d,hd⟩:∃d,c2 - 1=d:=⟨_,rfl⟩
      have p0:0<nr:=by omega
      have p1:(1:Int)≤nr∧(nr:Int)≤c2:=by omega
      have p2:(0:Int)<nr:=by omega
      clear o1 hc0 hL7 hR7 hO7 hK7 hg7
      rcases(show c2=1∨c2≠1 by omega) with rfl | hc
      ·have hd0:d=0:=by omega
       have hm0:m=0:=by omega
       subst hd0
       subst hm0
       go_upto_region 10 with(fail)
       go_region_held3 (fun w'=>w'.cell? ⟨gr,oR,none⟩=some (.int .i64 (x:Int))) (first | assumption | go_keep) (fail)
       have hr8:Hid (Rd (w7.setCell ⟨g,i,none⟩ (.int .i64 (x:Int))).drew (some ⟨gr,oR,none⟩) (I64 (xr.drop 1))):=by
        have hq:xr.drop 1 = []:=List.drop_of_length_le (by have:=HP.out.2.1;omega)
        rw [hq];exact Rd.nil
       have hP8:Hid ((xl.length=0∧(xr.drop 1).length=0∧(ys.set i (x:Int)).length=n∧InR N (ys.set i (x:Int))∧InR N xl∧InR N (xr.drop 1))):=⟨HP.out.1,(by rw [List.length_drop];have:=HP.out.2.1;omega),by rw [List.length_set];exact HP.out.2.2.1,hY8.out,HP.out.2.2.2.2.1,hX8.out⟩
       clear e0 e1 o2 o3 hR8 hX8 hY8 HP
       generalize (w7.setCell ⟨g,i,none⟩ (.int .i64 (x:Int))).drew=w8 at *
       go_wp2_with (fail)
       go_roundw
       case rel=>exact⟨i+1,0,0,ol,oR,c1,0,ys.set i (x:Int),xl,(xr.drop 1),by omega,by omega,by omega,rfl,rfl,i64e (by omega),hP8,hL8,hr8,hO8,hK8,hg8.out⟩
       case measure=>simp [intOf];omega
      ·go_upto_region 10 with(fail)
       go_region_held3 (fun w'=>w'.cell? ⟨gr,oR,none⟩=some (.int .i64 (x:Int))) (first | assumption | go_keep) (fail)
       have hr8:Hid (Rd (w7.setCell ⟨g,i,none⟩ (.int .i64 (x:Int))).drew (some ⟨gr,oR+1,none⟩) (I64 (xr.drop 1))):=by
        have h:=hR8.out.drop 1
        rw [←I64_drop,Addr.add_mid] at h
        exact h
       have hP8:Hid ((xl.length=0∧(xr.drop 1).length=m∧(ys.set i (x:Int)).length=n∧InR N (ys.set i (x:Int))∧InR N xl∧InR N (xr.drop 1))):=⟨HP.out.1,(by rw [List.length_drop];have:=HP.out.2.1;omega),by rw [List.length_set];exact HP.out.2.2.1,hY8.out,HP.out.2.2.2.2.1,hX8.out⟩
       clear e0 e1 o2 o3 hR8 hX8 hY8 HP
       generalize (w7.setCell ⟨g,i,none⟩ (.int .i64 (x:Int))).drew=w8 at *
       go_wp2_with (fail)
       go_roundw
       case rel=>exact⟨i+1,0,m,ol,oR+1,c1,d,ys.set i (x:Int),xl,(xr.drop 1),by omega,by omega,by omega,rfl,rfl,i64e (by omega),hP8,hL8,hr8,hO8,hK8,hg8.out⟩
       case measure=>simp [intOf];omega
     ·have h0:((nr:Int) == 0)=false:=by simp;omega
      have h1:0<nl:=by omega
      have h1':(0:Int)<nl:=by omega
      have h2:0<nr:=by omega
      have h2':(0:Int)<nr:=by omega
      obtain⟨xa,hxa,hxaN⟩:=InR_get HP.out.2.2.2.2.1 (k:=0) (by have:=HP.out.1;omega)
      obtain⟨ad,had,hc0⟩:=hLr.out.at_ (I64_get hxa)
      obtain rfl:=Option.some.inj had
      obtain⟨xb,hxb,hxbN⟩:=InR_get HP.out.2.2.2.2.2 (k:=0) (by have:=HP.out.2.1;omega)
      obtain⟨ad,had,hc1⟩:=hRr.out.at_ (I64_get hxb)
      obtain rfl:=Option.some.inj had
      have q0:wr.drew.cell? ⟨gl,ol,none⟩=some (.int .i64 (xa:Int)):=hc0
      have q1:wr.drew.cell? ⟨gr,oR,none⟩=some (.int .i64 (xb:Int)):=hc1
      have D:=Lib.hid (hL wr.drew xb xa (hst _ _ HGD.out hKr.out.drew) (by have:=hKr.out.size;simp;omega) hxbN hxaN)
      clear hxa hxb hc0 hc1
      go_upto_region 8 with(fail)
      go_region_held3 (fun w'=>w'.cell? ⟨gl,ol,none⟩=some (.int .i64 (xa:Int))∧w'.cell? ⟨gr,oR,none⟩=some (.int .i64 (xb:Int))) (first | exact⟨by assumption,by assumption⟩ | go_keep) ((go_at_call 87;((with_reducible refine D.out.mono ?_));rintro e w7 ⟨r,rfl,hb7'⟩;have k0:=(hb7'.cell (block_lt_of_cell q0)).trans q0;have k1:=(hb7'.cell (block_lt_of_cell q1)).trans q1))
      have hb7:Below wr.heap.size wr w7:=(Below.refl _ _).drew.trans hb7'
      have hL7:=Lib.hid (hLr.out.keep hb7)
      have hR7:=Lib.hid (hRr.out.keep hb7)
      have hO7:=Lib.hid (own_below hOr.out hb7)
      have hK7:=Lib.hid (hKr.out.trans (KP.of_below hb7 (by have:=hKr.out.size;omega)))
      have hg7:Hid (w.grownBy w7 (some g)):=grown_trans hgr ⟨hb7.os,hb7.tape,hb7.output,hb7.size,fun j hj _=>hb7.block j hj⟩
      clear hLr hRr hOr hKr hgr hb7 hb7' D q0 q1 k0 k1
      cases r with
      | true=>
       obtain⟨x,hx,hxN⟩:=InR_get HP.out.2.2.2.2.2 (k:=0) (by have:=HP.out.2.1;omega)
       obtain⟨ad,had,hc0⟩:=hR7.out.at_ (I64_get hx)
       obtain rfl:=Option.some.inj had
       have e0:w7.drew.cell? ⟨gr,oR,none⟩=some (.int .i64 (x:Int)):=hc0
       have hgne:g≠gr:=by omega
       have o1:=own_cell1 hO7.out (i:=i) (I64_getD (l:=ys) (by have:=HP.out.2.2.1;omega))
       have o2:w7.drew.cell? ⟨g,i,none⟩=some (.int .i64 (ys.getD i 0)):=o1.1
       have o3:w7.drew.frozen? ⟨g,i,none⟩=false:=o1.2
       have e1:(w7.drew.setCell ⟨g,i,none⟩ (.int .i64 (x:Int))).cell? ⟨gr,oR,none⟩=some (.int .i64 (x:Int)):=(World.cell?_setCell_far _ _ _ _ hgne).trans e0
       have hO8:Hid ((w7.setCell ⟨g,i,none⟩ (.int .i64 (x:Int))).drew.ownsRow K 3 1 (.slice (some ⟨g,0,none⟩) n c) n (I64 (ys.set i (x:Int)))):=by rw [←I64_set];exact own_set1 hO7.out i _
       have hK8:Hid (KP N0 g0 w (w7.setCell ⟨g,i,none⟩ (.int .i64 (x:Int))).drew):=(hK7.out.set (p:=⟨g,i,none⟩) hG0 _).drew
       have hg8:Hid (w.grownBy (w7.setCell ⟨g,i,none⟩ (.int .i64 (x:Int))).drew (some g)):=grown_drw (grown_trans hg7.out (grown_set w7 ⟨g,i,none⟩ (.int .i64 (x:Int))))
       have hL8:Hid (Rd (w7.setCell ⟨g,i,none⟩ (.int .i64 (x:Int))).drew (some ⟨gl,ol,none⟩) (I64 xl)):=hL7.out.setCell (p:=⟨g,i,none⟩) _ (fun ad e=>by have:=Option.some.inj e;subst this;show gl≠g;omega)
       have hR8:Hid (Rd (w7.setCell ⟨g,i,none⟩ (.int .i64 (x:Int))).drew (some ⟨gr,oR,none⟩) (I64 xr)):=hR7.out.setCell (p:=⟨g,i,none⟩) _ (fun ad e=>by have:=Option.some.inj e;subst this;show gr≠g;omega)
       have hY8:Hid (InR N (ys.set i (x:Int))):=fun y hy=>by
        rcases List.mem_or_eq_of_mem_set hy with h1 | h1
        ·exact HP.out.2.2.2.1 y h1
        ·rw [h1];omega
       have hX8:Hid (InR N (xr.drop 1)):=fun y hy=>HP.out.2.2.2.2.2 y (List.mem_of_mem_drop hy)
       generalize ys.getD i 0=yv at *
       obtain⟨m,hm⟩:∃m,nr - 1=m:=⟨_,rfl⟩
       obtain⟨d,hd⟩:∃d,c2 - 1=d:=⟨_,rfl⟩
       have p0:0<nr:=by omega
       have p1:(1:Int)≤nr∧(nr:Int)≤c2:=by omega
       have p2:(0:Int)<nr:=by omega
       clear o1 hc0 hL7 hR7 hO7 hK7 hg7
       rcases(show c2=1∨c2≠1 by omega) with rfl | hc
       ·have hd0:d=0:=by omega
        have hm0:m=0:=by omega
        subst hd0
        subst hm0
        go_upto_region 10 with(fail)
        go_region_held3 (fun w'=>w'.cell? ⟨gr,oR,none⟩=some (.int .i64 (x:Int))) (first | assumption | go_keep) (fail)
        have hr8:Hid (Rd (w7.setCell ⟨g,i,none⟩ (.int .i64 (x:Int))).drew (some ⟨gr,oR,none⟩) (I64 (xr.drop 1))):=by
         have hq:xr.drop 1 = []:=List.drop_of_length_le (by have:=HP.out.2.1;omega)
         rw [hq];exact Rd.nil
        have hP8:Hid ((xl.length=nl∧(xr.drop 1).length=0∧(ys.set i (x:Int)).length=n∧InR N (ys.set i (x:Int))∧InR N xl∧InR N (xr.drop 1))):=⟨HP.out.1,(by rw [List.length_drop];have:=HP.out.2.1;omega),by rw [List.length_set];exact HP.out.2.2.1,hY8.out,HP.out.2.2.2.2.1,hX8.out⟩
        clear e0 e1 o2 o3 hR8 hX8 hY8 HP
        generalize (w7.setCell ⟨g,i,none⟩ (.int .i64 (x:Int))).drew=w8 at *
        go_wp2_with (fail)
        go_roundw
        case rel=>exact⟨i+1,nl,0,ol,oR,c1,0,ys.set i (x:Int),xl,(xr.drop 1),by omega,by omega,by omega,rfl,rfl,i64e (by omega),hP8,hL8,hr8,hO8,hK8,hg8.out⟩
        case measure=>simp [intOf];omega
       ·go_upto_region 10 with(fail)
        go_region_held3 (fun w'=>w'.cell? ⟨gr,oR,none⟩=some (.int .i64 (x:Int))) (first | assumption | go_keep) (fail)
        have hr8:Hid (Rd (w7.setCell ⟨g,i,none⟩ (.int .i64 (x:Int))).drew (some ⟨gr,oR+1,none⟩) (I64 (xr.drop 1))):=by
         have h:=hR8.out.drop 1
         rw [←I64_drop,Addr.add_mid] at h
         exact h
        have hP8:Hid ((xl.length=nl∧(xr.drop 1).length=m∧(ys.set i (x:Int)).length=n∧InR N (ys.set i (x:Int))∧InR N xl∧InR N (xr.drop 1))):=⟨HP.out.1,(by rw [List.length_drop];have:=HP.out.2.1;omega),by rw [List.length_set];exact HP.out.2.2.1,hY8.out,HP.out.2.2.2.2.1,hX8.out⟩
        clear e0 e1 o2 o3 hR8 hX8 hY8 HP
        generalize (w7.setCell ⟨g,i,none⟩ (.int .i64 (x:Int))).drew=w8 at *
        go_wp2_with (fail)
        go_roundw
        case rel=>exact⟨i+1,nl,m,ol,oR+1,c1,d,ys.set i (x:Int),xl,(xr.drop 1),by omega,by omega,by omega,rfl,rfl,i64e (by omega),hP8,hL8,hr8,hO8,hK8,hg8.out⟩
        case measure=>simp [intOf];omega
      | false=>
       obtain⟨x,hx,hxN⟩:=InR_get HP.out.2.2.2.2.1 (k:=0) (by have:=HP.out.1;omega)
       obtain⟨ad,had,hc0⟩:=hL7.out.at_ (I64_get hx)
       obtain rfl:=Option.some.inj had
       have e0:w7.drew.cell? ⟨gl,ol,none⟩=some (.int .i64 (x:Int)):=hc0
       have hgne:g≠gl:=by omega
       have o1:=own_cell1 hO7.out (i:=i) (I64_getD (l:=ys) (by have:=HP.out.2.2.1;omega))
       have o2:w7.drew.cell? ⟨g,i,none⟩=some (.int .i64 (ys.getD i 0)):=o1.1
       have o3:w7.drew.frozen? ⟨g,i,none⟩=false:=o1.2
       have e1:(w7.drew.setCell ⟨g,i,none⟩ (.int .i64 (x:Int))).cell? ⟨gl,ol,none⟩=some (.int .i64 (x:Int)):=(World.cell?_setCell_far _ _ _ _ hgne).trans e0
       have hO8:Hid ((w7.setCell ⟨g,i,none⟩ (.int .i64 (x:Int))).drew.ownsRow K 3 1 (.slice (some ⟨g,0,none⟩) n c) n (I64 (ys.set i (x:Int)))):=by rw [←I64_set];exact own_set1 hO7.out i _
       have hK8:Hid (KP N0 g0 w (w7.setCell ⟨g,i,none⟩ (.int .i64 (x:Int))).drew):=(hK7.out.set (p:=⟨g,i,none⟩) hG0 _).drew
       have hg8:Hid (w.grownBy (w7.setCell ⟨g,i,none⟩ (.int .i64 (x:Int))).drew (some g)):=grown_drw (grown_trans hg7.out (grown_set w7 ⟨g,i,none⟩ (.int .i64 (x:Int))))
       have hL8:Hid (Rd (w7.setCell ⟨g,i,none⟩ (.int .i64 (x:Int))).drew (some ⟨gl,ol,none⟩) (I64 xl)):=hL7.out.setCell (p:=⟨g,i,none⟩) _ (fun ad e=>by have:=Option.some.inj e;subst this;show gl≠g;omega)
       have hR8:Hid (Rd (w7.setCell ⟨g,i,none⟩ (.int .i64 (x:Int))).drew (some ⟨gr,oR,none⟩) (I64 xr)):=hR7.out.setCell (p:=⟨g,i,none⟩) _ (fun ad e=>by have:=Option.some.inj e;subst this;show gr≠g;omega)
       have hY8:Hid (InR N (ys.set i (x:Int))):=fun y hy=>by
        rcases List.mem_or_eq_of_mem_set hy with h1 | h1
        ·exact HP.out.2.2.2.1 y h1
        ·rw [h1];omega
       have hX8:Hid (InR N (xl.drop 1)):=fun y hy=>HP.out.2.2.2.2.1 y (List.mem_of_mem_drop hy)
       generalize ys.getD i 0=yv at *
       obtain⟨m,hm⟩:∃m,nl - 1=m:=⟨_,rfl⟩
       obtain⟨d,hd⟩:∃d,c1 - 1=d:=⟨_,rfl⟩
       have p0:0<nl:=by omega
       have p1:(1:Int)≤nl∧(nl:Int)≤c1:=by omega
       have p2:(0:Int)<nl:=by omega
       clear o1 hc0 hL7 hR7 hO7 hK7 hg7
       rcases(show c1=1∨c1≠1 by omega) with rfl | hc
       ·have hd0:d=0:=by omega
        have hm0:m=0:=by omega
        subst hd0
        subst hm0
        go_upto_region 9 with(fail)
        go_region_held3 (fun w'=>w'.cell? ⟨gl,ol,none⟩=some (.int .i64 (x:Int))) (first | assumption | go_keep) (fail)
        have hr8:Hid (Rd (w7.setCell ⟨g,i,none⟩ (.int .i64 (x:Int))).drew (some ⟨gl,ol,none⟩) (I64 (xl.drop 1))):=by
         have hq:xl.drop 1 = []:=List.drop_of_length_le (by have:=HP.out.1;omega)
         rw [hq];exact Rd.nil
        have hP8:Hid (((xl.drop 1).length=0∧xr.length=nr∧(ys.set i (x:Int)).length=n∧InR N (ys.set i (x:Int))∧InR N (xl.drop 1)∧InR N xr)):=⟨(by rw [List.length_drop];have:=HP.out.1;omega),HP.out.2.1,by rw [List.length_set];exact HP.out.2.2.1,hY8.out,hX8.out,HP.out.2.2.2.2.2⟩
        clear e0 e1 o2 o3 hL8 hX8 hY8 HP
        generalize (w7.setCell ⟨g,i,none⟩ (.int .i64 (x:Int))).drew=w8 at *
        go_wp2_with (fail)
        go_roundw
        case rel=>exact⟨i+1,0,nr,ol,oR,0,c2,ys.set i (x:Int),(xl.drop 1),xr,by omega,by omega,by omega,rfl,rfl,i64e (by omega),hP8,hr8,hR8,hO8,hK8,hg8.out⟩
        case measure=>simp [intOf];omega
       ·go_upto_region 9 with(fail)
        go_region_held3 (fun w'=>w'.cell? ⟨gl,ol,none⟩=some (.int .i64 (x:Int))) (first | assumption | go_keep) (fail)
        have hr8:Hid (Rd (w7.setCell ⟨g,i,none⟩ (.int .i64 (x:Int))).drew (some ⟨gl,ol+1,none⟩) (I64 (xl.drop 1))):=by
         have h:=hL8.out.drop 1
         rw [←I64_drop,Addr.add_mid] at h
         exact h
        have hP8:Hid (((xl.drop 1).length=m∧xr.length=nr∧(ys.set i (x:Int)).length=n∧InR N (ys.set i (x:Int))∧InR N (xl.drop 1)∧InR N xr)):=⟨(by rw [List.length_drop];have:=HP.out.1;omega),HP.out.2.1,by rw [List.length_set];exact HP.out.2.2.1,hY8.out,hX8.out,HP.out.2.2.2.2.2⟩
        clear e0 e1 o2 o3 hL8 hX8 hY8 HP
        generalize (w7.setCell ⟨g,i,none⟩ (.int .i64 (x:Int))).drew=w8 at *
        go_wp2_with (fail)
        go_roundw
        case rel=>exact⟨i+1,m,nr,ol+1,oR,d,c2,ys.set i (x:Int),(xl.drop 1),xr,by omega,by omega,by omega,rfl,rfl,i64e (by omega),hP8,hr8,hR8,hO8,hK8,hg8.out⟩
        case measure=>simp [intOf];omega
end Go.Proofs.YtijoollonkibfaaGreatDoor
