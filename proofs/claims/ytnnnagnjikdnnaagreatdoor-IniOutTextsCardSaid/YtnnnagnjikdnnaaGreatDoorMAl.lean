/- The walks of graph's counts, inKeys and indices. -/
import Derived.Test.YtnnnagnjikdnnaaGreatDoorMAk
import Derived.Test.YtnnnagnjikdnnaaGreatDoorMAd
import Derived.Deep.DeepCutAuto
import Derived.Test.YtnnnagnjikdnnaaGreatDoorMAg
import Derived.DeepKeys4
set_option linter.unusedVariables false
set_option linter.unusedSimpArgs false
set_option linter.defProp false
set_option linter.constructorNameAsVariable false
namespace Go.Proofs.YtnnnagnjikdnnaaGreatDoor
open Go.RowKit
def CB (l:List Int) (q:Nat):Prop:=∀k,0≤l.getD k 0∧l.getD k 0≤(q:Int)
theorem CB.zero (n:Nat):CB (List.replicate n 0) 0:=fun k=>by
 rw [List.getD_eq_getElem?_getD,List.getElem?_replicate];split <;> simp
theorem CB.bump {l:List Int} {q:Nat} (h:CB l q) (x:Int):CB (bump l x) (q+1):=fun k=>by
 unfold Proofs.YtnnnagnjikdnnaaGreatDoor.bump
 rw [List.getD_eq_getElem?_getD,List.getElem?_set]
 have h1:=h k
 have h2:=h x.toNat
 split
 ·split
  ·simp only [Option.getD_some];omega
  ·simp only [Option.getD_none];omega
 ·rw [←List.getD_eq_getElem?_getD];omega
theorem flat_drop {nodes:List GNode} {i:Nat} (h:i<nodes.length):(nodes.drop i).flatMap refs=(ndAt nodes i).keys ++ ((ndAt nodes i).items ++ (nodes.drop (i+1)).flatMap refs):=by
 rw [List.drop_eq_getElem_cons h,List.flatMap_cons]
 have e:nodes[i]=ndAt nodes i:=by have:=ndAt_get h;rw [List.getElem?_eq_getElem h] at this;exact Option.some.inj this
 rw [e]
 unfold refs
 rw [List.append_assoc]
theorem infoInt:(Tryz.prog.info? 3).map (fun i=>(i.zero,i.size,i.bytes))=some (some (.int .i64 0),1,8):=by kernel_rfl
theorem infoBool:(Tryz.prog.info? 4).map (fun i=>(i.zero,i.size,i.bytes))=some (some (.bool false),1,1):=by kernel_rfl
set_option maxRecDepth 20000 in
set_option maxHeartbeats 4000000 in
theorem counts_any {B g o c:Nat} {nodes:List GNode} {root:Int} (hV:indicesV nodes root=true) (hL:NL 65536 nodes) (hN:nodes.length≤65536) (w:World) (hG:GRd w B g o nodes) :
  Calls Tryz.prog 53 #[.agg #[.slice (some ⟨g,o,none⟩) nodes.length c,.int .i64 root]] w fun e w'=>∃cb,e=.returned (.slice (some ⟨cb,0,none⟩) nodes.length nodes.length)∧w.heap.size≤cb∧Below w.heap.size w w'∧Hid (Arr w' cb 3 (I64 (countsV nodes root))):=by
 obtain⟨⟨hr1,hr2⟩,hI⟩:=idx_of hV
 obtain⟨r,rfl⟩:∃r:Nat,root=(r:Int):=⟨root.toNat,by omega⟩
 have h1:Hid (Arr (w.alloc (.cells #[.slice (some ⟨g,o,none⟩) nodes.length c,.int .i64 (r:Int)] 26)) w.heap.size 26 [.slice (some ⟨g,o,none⟩) nodes.length c,.int .i64 (r:Int)]):=Arr.new w 26 [.slice (some ⟨g,o,none⟩) nodes.length c,.int .i64 (r:Int)]
 have hB1:Hid (Below w.heap.size w (w.alloc (.cells #[.slice (some ⟨g,o,none⟩) nodes.length c,.int .i64 (r:Int)] 26))):=(Below.refl _ _).alloc (Nat.le_refl _) _
 have HV:=Lib.hid hV
 have HG:=Lib.hid hG
 have hI':=Lib.hid hI
 clear hV hG hI
 go_enter Tryz.func53,Tryz.ntmps53
 go_upto_region 1 with(fail)
 generalize w.alloc (.cells #[.slice (some ⟨g,o,none⟩) nodes.length c,.int .i64 (r:Int)] 26)=W at *
 have hGW:Hid (GRd W B g o nodes):=HG.out.below hB1.out (by exact HG.out.2.1)
 obtain⟨n,hn⟩:∃n,nodes.length=n:=⟨_,rfl⟩
 obtain⟨gb,hgb⟩:∃b,w.heap.size=b:=⟨_,rfl⟩
 have hgbl:=h1.out.lt
 rw [hgb] at h1 hgbl hB1 ⊢
 rw [hn] at h1 hr2 hN ⊢
 have x0:=h1.out.cell' (i:=0) rfl
 have x1:=h1.out.cell' (i:=1) rfl
 have HN:=Lib.hid hn
 have HGB:=Lib.hid hgb
 clear hn hgb
 go_upto_region 2 with(at_make;go_loud (refine wpList_mk rfl _ _ 28 rfl 3 _ _ Tryz.underlying28 infoInt rfl _ _ _ _ rfl rfl n n (by omega) (by omega) (by omega) (by omega) (by unfold maxLen;omega) ?_;intro cb w2 hcb hC hb2 hz2))
 have hB2:Hid (Below gb w w2):=hB1.out.trans (hb2.mono (Nat.le_of_lt hgbl))
 have l1:gb<cb:=by have:=hcb.out;omega
 have hX:=h1.out.keep hb2
 have y0:=hX.cell' (i:=0) rfl
 have y1:=hX.cell' (i:=1) rfl
 have hCz:Hid (Arr w2 cb 3 (I64 (List.replicate n 0))):=by rw [←I64_rep];exact hC
 have z0:w2.cell? ⟨cb,r,none⟩=some (.int .i64 0):=by
  have:=hCz.out.cell' (I64_getD (l:=List.replicate n 0) (k:=r) (by simp;omega))
  rw [this,List.getD_eq_getElem?_getD,List.getElem?_replicate];split <;> rfl
 have zf:=hCz.out.frozen r
 have hC3:Hid (Arr (w2.setCell ⟨cb,r,none⟩ (.int .i64 1)) cb 3 (I64 (bump (List.replicate n 0) (r:Int)))):=by
  have h:=hCz.out.store r (.int .i64 1)
  rw [I64_set] at h
  have e:(List.replicate n (0:Int)).set r 1=bump (List.replicate n 0) (r:Int):=by
   unfold bump
   rw [Int.toNat_natCast]
   have:(List.replicate n (0:Int)).getD r 0=0:=by rw [List.getD_eq_getElem?_getD,List.getElem?_replicate];split <;> rfl
   rw [this];rfl
  rw [e] at h
  exact h
 have hB3:=Lib.hid (hB2.out.setCell (p:=⟨cb,r,none⟩) (show gb≤cb by omega) (.int .i64 1))
 have hX3:=Lib.hid (hX.far (p:=⟨cb,r,none⟩) (show gb≠cb by omega) (.int .i64 1))
 clear hC hCz hB2 hb2 hz2 x0 x1 h1 hX
 go_upto_region 3 with(fail)
 clear y0 y1 z0 zf
 generalize w2.setCell ⟨cb,r,none⟩ (.int .i64 1)=w3 at *
 have y0:=hX3.out.cell' (i:=0) rfl
 have HCB:Hid (CB (bump (List.replicate n 0) (r:Int)) 1):=(CB.zero n).bump _
 have HFI:Hid (((nodes.drop 0).flatMap refs).foldl bump (bump (List.replicate n 0) (r:Int))=countsV nodes (r:Int)):=by
  rw [List.drop_zero,←HN.out];exact rfl
 have hlen0:Hid ((bump (List.replicate n 0) (r:Int)).length=n):=by rw [bump_len];exact List.length_replicate
 go_wp2_with (fail)
 go_loopw [24] (fun v wr=>∃(i:Nat) (cur:List Int) (q:Nat),i≤n∧v=.int .i64 (i:Int)∧q≤1+i*131072∧Hid (CB cur q)∧Hid (cur.length=n)∧Hid (((nodes.drop i).flatMap refs).foldl bump cur=countsV nodes (r:Int))∧Hid (Arr wr cb 3 (I64 cur))∧Hid (Below gb w wr)∧w3.grownBy wr (some cb)) (fun v _=>n - (intOf v).toNat)
 case atStart=>exact⟨0,_,1,Nat.zero_le _,rfl,by omega,HCB,hlen0,HFI,hC3,hB3,World.grownBy.refl _ _⟩
 case round=>
  obtain⟨i,cur,q,hi,rfl,hq,hcb1,hcl,hfi,hCr,hBr,hgr⟩:=hrel
  by_cases hin:i=n
  ·have hin':¬(i:Int)<n:=by omega
   have he:cur=countsV nodes (r:Int):=by
    have:=hfi.out
    rw [List.drop_of_length_le (by have:=HN.out;omega)] at this
    exact this
   subst he
   go_wp2_with (fail)
   go_ret
   exact⟨cb,by rw [HN.out];rfl,by have:=HGB.out;omega,by rw [HGB.out];exact hBr,hCr⟩
  ·have hin':(i:Int)<n:=by omega
   have hi2:i<nodes.length:=by have:=HN.out;omega
   have hGr:=(HG.out.below hBr.out (by have:=HG.out.2.1;have:=HGB.out;omega)).of_at hi2
   obtain⟨K,ck,I,ci,c0,c1,c2,c3,c4,⟨hK,hKb⟩,hIt,hIb⟩:=hGr
   have k0:(0:Int)≤i:=by omega
   have hcbl:=hCr.out.lt
   have hND:Hid (Arr (wr.alloc (.cells #[.int .i64 (ndAt nodes i).kind,.string (mks (ndAt nodes i).text),.bool (ndAt nodes i).ord,.slice K (ndAt nodes i).keys.length ck,.slice I (ndAt nodes i).items.length ci] 30)) wr.heap.size 30 [.int .i64 (ndAt nodes i).kind,.string (mks (ndAt nodes i).text),.bool (ndAt nodes i).ord,.slice K (ndAt nodes i).keys.length ck,.slice I (ndAt nodes i).items.length ci]):=Arr.new wr _ _
   have hbn:Hid (Below wr.heap.size wr (wr.alloc (.cells #[.int .i64 (ndAt nodes i).kind,.string (mks (ndAt nodes i).text),.bool (ndAt nodes i).ord,.slice K (ndAt nodes i).keys.length ck,.slice I (ndAt nodes i).items.length ci] 30))):=(Below.refl _ _).alloc (Nat.le_refl _) _
   have HK:=Lib.hid hK
   have HI:=Lib.hid hIt
   have HKB:=Lib.hid hKb
   have HIB:=Lib.hid hIb
   clear hK hIt hKb hIb
   go_upto_region 6 with(fail)
   clear c0 c1 c2 c3 c4
   generalize (wr.alloc (.cells #[.int .i64 (ndAt nodes i).kind,.string (mks (ndAt nodes i).text),.bool (ndAt nodes i).ord,.slice K (ndAt nodes i).keys.length ck,.slice I (ndAt nodes i).items.length ci] 30))=w5 at *
   have hB5:Hid (Below gb w w5):=hBr.out.trans (hbn.out.mono (by have:=hBr.out.size;have:=HGB.out;omega))
   have hC5:=Lib.hid (hCr.out.keep hbn.out)
   have hK5:=Lib.hid (HK.out.keep hbn.out)
   have hI5:=Lib.hid (HI.out.keep hbn.out)
   have hg5:Hid (w3.grownBy w5 (some cb)):=grown_trans hgr ⟨hbn.out.os,hbn.out.tape,hbn.out.output,hbn.out.size,fun j hj _=>hbn.out.block j hj⟩
   have hnbl:=hND.out.lt
   obtain⟨nb,hnb⟩:∃b,wr.heap.size=b:=⟨_,rfl⟩
   rw [hnb] at hND hnbl hcbl ⊢
   have hgbn:gb<nb:=by have:=hBr.out.size;have:=HGB.out;omega
   obtain⟨hLk,hLi⟩:=hL i hi2
   have hrf:=Lib.hid (hI'.out i hi2)
   rw [flat_drop hi2,List.foldl_append,List.foldl_append] at hfi
   clear hnb hBr hCr HK HI hbn hgr
   generalize ndAt nodes i=nd at *
   have n3:=hND.out.cell' (i:=3) rfl
   go_wp2_with (fail)
   go_loopw [31] (fun v ws=>∃(j:Nat) (cu:List Int) (q':Nat),j≤nd.keys.length∧v=.int .i64 (j:Int)∧q'≤q+j∧Hid (CB cu q')∧Hid (cu.length=n)∧Hid (((nd.keys.drop j)).foldl bump cu=nd.keys.foldl bump cur)∧Hid (Arr ws cb 3 (I64 cu))∧Hid (Below gb w ws)∧w5.grownBy ws (some cb)) (fun v _=>nd.keys.length - (intOf v).toNat)
   case atStart=>exact⟨0,cur,q,Nat.zero_le _,rfl,by omega,hcb1,hcl,rfl,hC5,hB5,World.grownBy.refl _ _⟩
   case round=>
    obtain⟨j,cu,q',hj,rfl,hq',hcb2,hcl2,hfk,hCs,hBs,hgs⟩:=hrel
    by_cases hjl:j=nd.keys.length
    ·have hjl':¬(j:Int)<nd.keys.length:=by omega
     have he:cu=nd.keys.foldl bump cur:=by
      have:=hfk.out
      rw [List.drop_of_length_le (by omega)] at this
      exact this
     subst he
     obtain⟨q6,hq6⟩:∃x,x=q':=⟨_,rfl⟩
     subst hq6
     obtain⟨w6,hw6⟩:∃w:World,w=wr:=⟨_,rfl⟩
     subst hw6
     have hg6:=Lib.hid hgs
     have hcb6:=hcb2
     have hcl6:=hcl2
     have hC6:=hCs
     have hB6:=hBs
     have hI6:=Lib.hid (hI5.out.grown hgs (fun ad e h=>by have:=HIB.out ad e;have:=Option.some.inj h;have:=HG.out.2.1;have:=HGB.out;omega))
     have n4:=(hND.out.grown hgs (by intro e;have e':nb=cb:=Option.some.inj e;omega)).cell' (i:=4) rfl
     clear hfk hcb2 hcl2 hCs hBs hgs n3
     go_wp2_with (fail)
     go_loopw [45] (fun v ws=>∃(j:Nat) (cu:List Int) (q':Nat),j≤nd.items.length∧v=.int .i64 (j:Int)∧q'≤q6+j∧Hid (CB cu q')∧Hid (cu.length=n)∧Hid (((nd.items.drop j)).foldl bump cu=nd.items.foldl bump (nd.keys.foldl bump cur))∧Hid (Arr ws cb 3 (I64 cu))∧Hid (Below gb w ws)∧w6.grownBy ws (some cb)) (fun v _=>nd.items.length - (intOf v).toNat)
     case atStart=>exact⟨0,_,q6,Nat.zero_le _,rfl,by omega,hcb6,hcl6,rfl,hC6,hB6,World.grownBy.refl _ _⟩
     case round=>
      obtain⟨j,cu,q',hj,rfl,hq',hcb2,hcl2,hfk,hCs,hBs,hgs⟩:=hrel
      by_cases hjl:j=nd.items.length
      ·have hjl':¬(j:Int)<nd.items.length:=by omega
       have he:cu=nd.items.foldl bump (nd.keys.foldl bump cur):=by
        have:=hfk.out
        rw [List.drop_of_length_le (by omega)] at this
        exact this
       subst he
       have hgo:=Lib.hid (grown_trans hg5.out (grown_trans hg6.out hgs))
       go_wp2_with (fail)
       go_roundw
       case rel=>exact⟨i+1,_,q',by omega,i64e (by omega),by omega,hcb2,hcl2,hfi,hCs,hBs,hgo.out⟩
       case measure=>simp [intOf];omega
      ·have hjl':(j:Int)<nd.items.length:=by omega
       obtain⟨x,hx⟩:∃x,nd.items[j]? = some x:=⟨_,List.getElem?_eq_getElem (by omega)⟩
       obtain⟨ad,rfl,hc⟩:=(hI6.out.grown hgs (fun ad e h=>by have:=HIB.out ad e;have:=Option.some.inj h;have:=HG.out.2.1;have:=HGB.out;omega)).at_ (I64_get hx)
       have hxr:=hrf.out x (by unfold refs;exact List.mem_append.2 (.inr (List.mem_of_getElem? hx)))
       obtain⟨kx,rfl⟩:∃kx:Nat,x=(kx:Int):=⟨x.toNat,by omega⟩
       have hkn:(kx:Int)<n:=by have:=HN.out;omega
       have p0:=hCs.out.cell' (I64_getD (l:=cu) (k:=kx) (by have:=hcl2.out;omega))
       have pf:=hCs.out.frozen kx
       obtain⟨hv1,hv2⟩:=hcb2.out kx
       have hCt:Hid (Arr (wr.setCell ⟨cb,kx,none⟩ (.int .i64 (cu.getD kx 0+1))) cb 3 (I64 (bump cu (kx:Int)))):=by
        have h:=hCs.out.store kx (.int .i64 (cu.getD kx 0+1))
        rw [I64_set] at h
        exact h
       have hgt:=Lib.hid (grown_trans hgs (grown_set wr ⟨cb,kx,none⟩ (.int .i64 (cu.getD kx 0+1))))
       have hBt:=Lib.hid (hBs.out.setCell (p:=⟨cb,kx,none⟩) (show gb≤cb by omega) (.int .i64 (cu.getD kx 0+1)))
       have hfk2:Hid ((nd.items.drop (j+1)).foldl bump (bump cu (kx:Int))=nd.items.foldl bump (nd.keys.foldl bump cur)):=by
        have:=hfk.out
        rw [drop_cons_at hx,List.foldl_cons] at this
        exact this
       have hcl3:Hid ((bump cu (kx:Int)).length=n):=by rw [bump_len];exact hcl2.out
       have hcb3:=Lib.hid (hcb2.out.bump (kx:Int))
       clear hfk hx hxr hCs
       generalize cu.getD kx 0=vx at *
       go_wp2_with (fail)
       go_roundw
       case rel=>exact⟨j+1,bump cu (kx:Int),q'+1,by omega,i64e (by omega),by omega,hcb3,hcl3,hfk2,hCt,hBt,hgt.out⟩
       case measure=>simp [intOf];omega
    ·have hjl':(j:Int)<nd.keys.length:=by omega
     obtain⟨x,hx⟩:∃x,nd.keys[j]? = some x:=⟨_,List.getElem?_eq_getElem (by omega)⟩
     obtain⟨ad,rfl,hc⟩:=(hK5.out.grown hgs (fun ad e h=>by have:=HKB.out ad e;have:=Option.some.inj h;have:=HG.out.2.1;have:=HGB.out;omega)).at_ (I64_get hx)
     have hxr:=hrf.out x (by unfold refs;exact List.mem_append.2 (.inl (List.mem_of_getElem? hx)))
     obtain⟨kx,rfl⟩:∃kx:Nat,x=(kx:Int):=⟨x.toNat,by omega⟩
     have hkn:(kx:Int)<n:=by have:=HN.out;omega
     have p0:=hCs.out.cell' (I64_getD (l:=cu) (k:=kx) (by have:=hcl2.out;omega))
     have pf:=hCs.out.frozen kx
     obtain⟨hv1,hv2⟩:=hcb2.out kx
     have hCt:Hid (Arr (wr.setCell ⟨cb,kx,none⟩ (.int .i64 (cu.getD kx 0+1))) cb 3 (I64 (bump cu (kx:Int)))):=by
      have h:=hCs.out.store kx (.int .i64 (cu.getD kx 0+1))
      rw [I64_set] at h
      exact h
     have hgt:=Lib.hid (grown_trans hgs (grown_set wr ⟨cb,kx,none⟩ (.int .i64 (cu.getD kx 0+1))))
     have hBt:=Lib.hid (hBs.out.setCell (p:=⟨cb,kx,none⟩) (show gb≤cb by omega) (.int .i64 (cu.getD kx 0+1)))
     have hfk2:Hid ((nd.keys.drop (j+1)).foldl bump (bump cu (kx:Int))=nd.keys.foldl bump cur):=by
      have:=hfk.out
      rw [drop_cons_at hx,List.foldl_cons] at this
      exact this
     have hcl3:Hid ((bump cu (kx:Int)).length=n):=by rw [bump_len];exact hcl2.out
     have hcb3:=Lib.hid (hcb2.out.bump (kx:Int))
     clear hfk hx hxr hCs
     generalize cu.getD kx 0=vx at *
     go_wp2_with (fail)
     go_roundw
     case rel=>exact⟨j+1,bump cu (kx:Int),q'+1,by omega,i64e (by omega),by omega,hcb3,hcl3,hfk2,hCt,hBt,hgt.out⟩
     case measure=>simp [intOf];omega
end Go.Proofs.YtnnnagnjikdnnaaGreatDoor
namespace Go.Proofs.YtnnnagnjikdnnaaGreatDoor
open Go.RowKit
def Leaf (nd:GNode):Prop:=nd.keys = []∧nd.items = []
set_option maxRecDepth 20000 in
set_option maxHeartbeats 4000000 in
theorem same_leaf {B g o c:Nat} {nodes:List GNode} {root:Int} (x y:Nat) (hx:x<nodes.length) (hy:y<nodes.length) (hlx:Leaf (ndAt nodes x)) (hly:Leaf (ndAt nodes y)) (htx:By (ndAt nodes x).text) (hty:By (ndAt nodes y).text) (w:World) (hG:GRd w B g o nodes) :
  Calls Tryz.prog 85 #[.agg #[.slice (some ⟨g,o,none⟩) nodes.length c,.int .i64 root],.int .i64 (x:Int),.int .i64 (y:Int)] w fun e w'=>e=.returned (.bool (leafSame (ndAt nodes x) (ndAt nodes y)))∧Below w.heap.size w w':=by
 have h1:Hid (Arr (w.alloc (.cells #[.slice (some ⟨g,o,none⟩) nodes.length c,.int .i64 root] 26)) w.heap.size 26 [.slice (some ⟨g,o,none⟩) nodes.length c,.int .i64 root]):=Arr.new w 26 [.slice (some ⟨g,o,none⟩) nodes.length c,.int .i64 root]
 have hB1:Hid (Below w.heap.size w (w.alloc (.cells #[.slice (some ⟨g,o,none⟩) nodes.length c,.int .i64 root] 26))):=(Below.refl _ _).alloc (Nat.le_refl _) _
 have HG:=Lib.hid hG
 clear hG
 have ht:=eq_mks htx hty
 have HT:=Lib.hid ht
 clear ht
 obtain⟨hkx,hix⟩:=hlx
 obtain⟨hky,hiy⟩:=hly
 generalize hV:leafSame (ndAt nodes x) (ndAt nodes y)=V
 unfold leafSame at hV
 go_enter Tryz.func85,Tryz.ntmps85
 go_upto_region 1 with(fail)
 generalize w.alloc (.cells #[.slice (some ⟨g,o,none⟩) nodes.length c,.int .i64 root] 26)=W at *
 have hGW:=HG.out.below hB1.out HG.out.2.1
 obtain⟨K1,ck1,I1,ci1,a0,a1,a2,a3,a4,_⟩:=hGW.of_at hx
 obtain⟨K2,ck2,I2,ci2,c0,c1,c2,c3,c4,_⟩:=hGW.of_at hy
 rw [hkx] at a3
 rw [hix] at a4
 rw [hky] at c3
 rw [hiy] at c4
 have HV:=Lib.hid hV
 clear hV hkx hix hky hiy htx hty hGW
 generalize ndAt nodes x=A at *
 generalize ndAt nodes y=C at *
 obtain⟨n,hn⟩:∃n,nodes.length=n:=⟨_,rfl⟩
 obtain⟨gb,hgb⟩:∃b,w.heap.size=b:=⟨_,rfl⟩
 have hgbl:=h1.out.lt
 rw [hgb] at h1 hgbl hB1 ⊢
 rw [hn] at h1 hx hy ⊢
 have HGB:=Lib.hid hgb
 have g0:=h1.out.cell' (i:=0) rfl
 clear hn hgb
 have kx0:(0:Int)≤x:=by omega
 have kx1:(x:Int)<n:=by omega
 have ky0:(0:Int)≤y:=by omega
 have ky1:(y:Int)<n:=by omega
 have hgl:g<W.heap.size:=by have:=HG.out.1;have:=HG.out.2.1;have:=hB1.out.size;omega
 have hal:Below W.heap.size W (W.alloc (.cells #[.int .i64 0,.string ⟨#[]⟩,.bool false,.slice none 0 0,.slice none 0 0] 30)):=(Below.refl _ _).alloc (Nat.le_refl _) _
 have hal2:Below W.heap.size W ((W.alloc (.cells #[.int .i64 0,.string ⟨#[]⟩,.bool false,.slice none 0 0,.slice none 0 0] 30)).alloc (.cells #[.int .i64 0,.string ⟨#[]⟩,.bool false,.slice none 0 0,.slice none 0 0] 30)):=hal.alloc (by simp) _
 have a01:=(hal.cell (by exact hgl)).trans a0
 have c01:=(hal.cell (by exact hgl)).trans c0
 have a02:=(hal2.cell (by exact hgl)).trans a0
 have c02:=(hal2.cell (by exact hgl)).trans c0
 have a11:=(hal.cell (by exact hgl)).trans a1
 have c11:=(hal.cell (by exact hgl)).trans c1
 have a12:=(hal2.cell (by exact hgl)).trans a1
 have c12:=(hal2.cell (by exact hgl)).trans c1
 have a21:=(hal.cell (by exact hgl)).trans a2
 have c21:=(hal.cell (by exact hgl)).trans c2
 have a22:=(hal2.cell (by exact hgl)).trans a2
 have c22:=(hal2.cell (by exact hgl)).trans c2
 have a31:=(hal.cell (by exact hgl)).trans a3
 have c31:=(hal.cell (by exact hgl)).trans c3
 have a32:=(hal2.cell (by exact hgl)).trans a3
 have c32:=(hal2.cell (by exact hgl)).trans c3
 have a41:=(hal.cell (by exact hgl)).trans a4
 have c41:=(hal.cell (by exact hgl)).trans c4
 have a42:=(hal2.cell (by exact hgl)).trans a4
 have c42:=(hal2.cell (by exact hgl)).trans c4
 have g01:=(hal.cell (by exact hgbl)).trans g0
 have g02:=(hal2.cell (by exact hgbl)).trans g0
 have n1:g≠W.heap.size:=by omega
 have n2:g≠W.heap.size+1:=by omega
 have n3:gb≠W.heap.size:=by omega
 have n4:gb≠W.heap.size+1:=by omega
 simp only [List.length_nil] at a3 a4 c3 c4 a31 a41 c31 c41 a32 a42 c32 c42
 go_cut [7,8] (fun p q wx=>∃b d:Nat,p=.pointer (some ⟨b,0,none⟩)∧q=.pointer (some ⟨d,0,none⟩)∧Hid (Arr wx b 30 [.int .i64 A.kind,.string (mks A.text),.bool A.ord,.slice K1 0 ck1,.slice I1 0 ci1])∧Hid (Arr wx d 30 [.int .i64 C.kind,.string (mks C.text),.bool C.ord,.slice K2 0 ck2,.slice I2 0 ci2])∧Below W.heap.size W wx)
 case first=>
  go_region
  ·obtain⟨P,Q,R,_⟩:=box2 W 30 30 [.int .i64 A.kind,.string (mks A.text),.bool A.ord,.slice K1 0 ck1,.slice I1 0 ci1] [.int .i64 C.kind,.string (mks C.text),.bool C.ord,.slice K2 0 ck2,.slice I2 0 ci2]
   go_wp2_with (fail)
   go_meet
   exact⟨_,_,rfl,rfl,P,Q,R.drew⟩
  ·obtain⟨P,Q,R,_⟩:=box2 W 30 30 [.int .i64 C.kind,.string (mks C.text),.bool C.ord,.slice K2 0 ck2,.slice I2 0 ci2] [.int .i64 A.kind,.string (mks A.text),.bool A.ord,.slice K1 0 ck1,.slice I1 0 ci1]
   go_wp2_with (fail)
   go_meet
   exact⟨_,_,rfl,rfl,Q,P,R.drew⟩
 case rest=>
  obtain⟨b,d,rfl,rfl,hP,hQ,hR⟩:=hcut
  obtain⟨W2,hW2⟩:∃x,x=wc:=⟨_,rfl⟩
  subst hW2
  clear a0 a01 a02 a1 a11 a12 a2 a21 a22 a3 a31 a32 a4 a41 a42 c0 c01 c02 c1 c11 c12 c2 c21 c22 c3 c31 c32 c4 c41 c42 g0 g01 g02 n1 n2 n3 n4 hal hal2
  have hBf:=Lib.hid (hB1.out.trans (hR.mono (by omega)))
  have s0:=hP.out.cell' (i:=0) rfl
  have r0:=hQ.out.cell' (i:=0) rfl
  have s1:=hP.out.cell' (i:=1) rfl
  have r1:=hQ.out.cell' (i:=1) rfl
  have s2:=hP.out.cell' (i:=2) rfl
  have r2:=hQ.out.cell' (i:=2) rfl
  have s3:=hP.out.cell' (i:=3) rfl
  have r3:=hQ.out.cell' (i:=3) rfl
  have s4:=hP.out.cell' (i:=4) rfl
  have r4:=hQ.out.cell' (i:=4) rfl
  have hVV:=HV.out
  have hTT:=HT.out
  clear HV HT
  by_cases ek:A.kind=C.kind
  ·rw [←ek] at r0 hVV
   by_cases et:A.text=C.text
   ·rw [←et] at r1 hVV
    clear ek et hTT
    cases eo:A.ord with
    | true=>
     cases eo':C.ord with
     | true=>
      have hv:V=true:=by rw [←hVV,eo,eo'];simp
      rw [eo] at s2
      rw [eo'] at r2
      subst hv
      clear hVV eo eo'
      generalize A.kind=kd at *
      by_cases e10:kd=10
      all_goals
       try subst e10
       go_wp2_with (fail)
       refine wp_loop_rounds 1 ?_
       rw [rounds_succ]
       go_wp2_with (fail)
       go_ret
       exact⟨rfl,by rw [HGB.out];exact hBf.out⟩
     | false=>
      have hv:V=false:=by rw [←hVV,eo,eo'];simp
      rw [eo] at s2
      rw [eo'] at r2
      subst hv
      clear hVV eo eo'
      go_wp2_with (fail)
      go_ret
      exact⟨rfl,by rw [HGB.out];exact hBf.out⟩
    | false=>
     cases eo':C.ord with
     | true=>
      have hv:V=false:=by rw [←hVV,eo,eo'];simp
      rw [eo] at s2
      rw [eo'] at r2
      subst hv
      clear hVV eo eo'
      go_wp2_with (fail)
      go_ret
      exact⟨rfl,by rw [HGB.out];exact hBf.out⟩
     | false=>
      have hv:V=true:=by rw [←hVV,eo,eo'];simp
      rw [eo] at s2
      rw [eo'] at r2
      subst hv
      clear hVV eo eo'
      generalize A.kind=kd at *
      by_cases e10:kd=10
      all_goals
       try subst e10
       go_wp2_with (fail)
       refine wp_loop_rounds 1 ?_
       rw [rounds_succ]
       go_wp2_with (fail)
       go_ret
       exact⟨rfl,by rw [HGB.out];exact hBf.out⟩
   ·have hv:V=false:=by rw [←hVV];simp [et]
    subst hv
    rw [decide_eq_false et] at hTT
    have k1:¬(mks A.text).toList=(mks C.text).toList:=by simpa using hTT
    clear hVV ek et
    go_wp2_with (fail)
    go_ret
    exact⟨rfl,by rw [HGB.out];exact hBf.out⟩
  ·have hv:V=false:=by rw [←hVV];simp [ek]
   subst hv
   clear hVV hTT
   go_wp2_with (fail)
   go_ret
   exact⟨rfl,by rw [HGB.out];exact hBf.out⟩
end Go.Proofs.YtnnnagnjikdnnaaGreatDoor
namespace Go.Proofs.YtnnnagnjikdnnaaGreatDoor
open Go.RowKit
open Go.WideMaps (KeyLaw)
def stepFields (P:Program) (t:TypeId):Array Field:=match P.underlying t with | some (.struct fs)=>fs | _=>#[]
theorem under_step:Tryz.prog.underlying 140=some (.struct (stepFields Tryz.prog 140)):=by kernel_rfl
theorem step_fields:(stepFields Tryz.prog 140).toList.map (fun f=>(f.name != "_",f.type,f.offset)) = [(true,3,0),(true,9,1)]:=by kernel_rfl
theorem step_law:KeyLaw Tryz.prog 140:=
 deep_law_laid (m:=3) (by kernel_rfl) (by omega) (of_decide_eq_true (by kernel_rfl)) (by kernel_rfl) (by rw [under_step])
theorem keyOf_two {P:Program} {k i j:TypeId} {fs:Array Field} (hu:P.underlying k=some (.struct fs)) (h0:fs.toList.map (fun f=>(f.name != "_",f.type,f.offset)) = [(true,i,0),(true,j,1)])
  (hc:P.cellsOf k=2) (hci:P.cellsOf i=1) (hcj:P.cellsOf j=1) (ui:P.underlying i=some (.int .i64)) (uj:P.underlying j=some .string) (hkt:P.keyType k=true) (hs1:1≤P.types.size)
  (a:Int) (s:ByteArray) (ha:(Lit.int .i64 a).wf=true) (hs:s.size≤maxLen):∃kl,keyOf P k (.agg #[.int .i64 a,.string s])=some kl:=by
 obtain⟨m,hm⟩:∃m,P.types.size+1=m+2:=⟨P.types.size - 1,by omega⟩
 obtain⟨l⟩:=fs
 have hl2:l.length=2:=by have:=congrArg List.length h0;simpa using this
 obtain⟨f,g,rfl⟩:=(show ∃f g,l = [f,g] from match l,hl2 with | [f,g],_=>⟨f,g,rfl⟩)
 ·simp only [List.map_cons,List.map_nil,List.cons.injEq,Prod.mk.injEq,and_true] at h0
  obtain⟨⟨f1,f2,f3⟩,g1,g2,g3⟩:=h0
  unfold keyOf
  rw [hu,hkt,hm]
  simp only [Value.formed,hu,Value.cells]
  simp [Program.keyLits,hu,hc,f1,f2,f3,g1,g2,g3,hci,hcj,ui,uj,ha,hs]
theorem step_key (a:Int) (s:ByteArray) (ha:(Lit.int .i64 a).wf=true) (hs:s.size≤maxLen):∃kl,keyOf Tryz.prog 140 (.agg #[.int .i64 a,.string s])=some kl:=
 keyOf_two under_step step_fields (by kernel_rfl) (by kernel_rfl) (by kernel_rfl) (by kernel_rfl) (by kernel_rfl) (by kernel_rfl) (of_decide_eq_true (by kernel_rfl)) a s ha hs
theorem groups_lt {H:Type} {P:Program} {w:World} {k:TypeId} {base:Nat} {e:TypeId} {q:IntKind} {b n:Nat} {D:DataW H} (h:w.ownsGroups P k base e q b n D):b<w.heap.size:=by
 obtain⟨es,clock,hb,_⟩:=h
 exact(Array.getElem?_eq_some_iff.1 hb).1
theorem zero_ints (u:World):(zeroValue 28).run Tryz.prog u=.ok (.slice none 0 0) u:=by kernel_rfl
end Go.Proofs.YtnnnagnjikdnnaaGreatDoor
