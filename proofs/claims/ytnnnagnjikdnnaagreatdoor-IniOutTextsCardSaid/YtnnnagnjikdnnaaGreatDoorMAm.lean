/- The walk of graph's twice, where the keys of every node are leaves. -/
import Derived.Test.YtnnnagnjikdnnaaGreatDoorMAl
import Derived.Maps.OwnOps
import Derived.Maps.AppendAt
import Derived.Maps.GroupsBeside
import Derived.Test.YtnnnagnjikdnnaaGreatDoorMAg
set_option linter.unusedVariables false
set_option linter.unusedSimpArgs false
set_option linter.defProp false
set_option linter.constructorNameAsVariable false
namespace Go.Proofs.YtnnnagnjikdnnaaGreatDoor
open Go.RowKit Go.Maps
theorem twice_drop {nodes:List GNode} {i:Nat} (h:i<nodes.length):(nodes.drop i).any (fun nd=>dupF nodes [] nd.keys)=(dupF nodes [] (ndAt nodes i).keys || (nodes.drop (i+1)).any fun nd=>dupF nodes [] nd.keys):=by
 rw [List.drop_eq_getElem_cons h,List.any_cons]
 have e:nodes[i]=ndAt nodes i:=by have:=ndAt_get h;rw [List.getElem?_eq_getElem h] at this;exact Option.some.inj this
 rw [e]
def stepV (nd:GNode):Value:=.agg #[.int .i64 nd.kind,.string (mks nd.text)]
structure TwOK (nodes:List GNode):Prop where
 leaf:∀i,i<nodes.length→∀x∈(ndAt nodes i).keys,Leaf (ndAt nodes x.toNat)
 by_:∀i,i<nodes.length→By (ndAt nodes i).text
 wf:∀i,i<nodes.length→(Lit.int .i64 (ndAt nodes i).kind).wf=true
 len:∀i,i<nodes.length→(mks (ndAt nodes i).text).size≤maxLen
noncomputable def klOf (nodes:List GNode) (x:Int):Lit:=(keyOf Tryz.prog 140 (stepV (ndAt nodes x.toNat))).getD (.bool false)
theorem klOf_eq {nodes:List GNode} (h:TwOK nodes) {x:Int} (hx:x.toNat<nodes.length):keyOf Tryz.prog 140 (stepV (ndAt nodes x.toNat))=some (klOf nodes x):=by
 obtain⟨kl,hk⟩:=step_key _ (mks (ndAt nodes x.toNat).text) (h.wf _ hx) (h.len _ hx)
 unfold klOf stepV
 rw [hk];rfl
theorem klOf_same {nodes:List GNode} {x y:Int} (hs:leafSame (ndAt nodes x.toNat) (ndAt nodes y.toNat)=true):klOf nodes y=klOf nodes x:=by
 unfold leafSame at hs
 simp only [Bool.and_eq_true,decide_eq_true_eq] at hs
 unfold klOf stepV
 rw [hs.1.1,hs.1.2]
theorem dupF_at {nodes:List GNode} {ks:List Int} {j:Nat} {x:Int} (h:ks[j]? = some x):dupF nodes (ks.take j) (ks.drop j)=((ks.take j).any (fun q=>leafSame (ndAt nodes x.toNat) (ndAt nodes q.toNat)) || dupF nodes (ks.take (j+1)) (ks.drop (j+1))):=by
 rw [drop_cons_at h,dupF,List.take_add_one,h]
 rfl
theorem under_groups:Tryz.prog.underlying 138=some (.map 140 28):=by kernel_rfl
set_option maxRecDepth 20000 in
set_option maxHeartbeats 8000000 in
theorem twice_any {B g o c:Nat} {nodes:List GNode} {root:Int} (hI:Idx nodes) (hL:NL 65536 nodes) (hN:nodes.length≤65536) (hT:TwOK nodes) (w:World) (hG:GRd w B g o nodes) :
  Calls Tryz.prog 55 #[.agg #[.slice (some ⟨g,o,none⟩) nodes.length c,.int .i64 root]] w fun e w'=>e=.returned (.bool (twiceV nodes))∧Below w.heap.size w w':=by
 have h1:Hid (Arr (w.alloc (.cells #[.slice (some ⟨g,o,none⟩) nodes.length c,.int .i64 root] 26)) w.heap.size 26 [.slice (some ⟨g,o,none⟩) nodes.length c,.int .i64 root]):=Arr.new w 26 [.slice (some ⟨g,o,none⟩) nodes.length c,.int .i64 root]
 have hB1:Hid (Below w.heap.size w (w.alloc (.cells #[.slice (some ⟨g,o,none⟩) nodes.length c,.int .i64 root] 26))):=(Below.refl _ _).alloc (Nat.le_refl _) _
 have HG:=Lib.hid hG
 have hI':=Lib.hid hI
 have hT':=Lib.hid hT
 have hmm:=@run_makeMap Tryz.prog
 clear hG hT
 go_enter Tryz.func55,Tryz.ntmps55
 go_upto_region 1 with(fail)
 generalize w.alloc (.cells #[.slice (some ⟨g,o,none⟩) nodes.length c,.int .i64 root] 26)=W at *
 obtain⟨n,hn⟩:∃n,nodes.length=n:=⟨_,rfl⟩
 obtain⟨gb,hgb⟩:∃b,w.heap.size=b:=⟨_,rfl⟩
 have hgbl:=h1.out.lt
 rw [hgb] at h1 hgbl hB1 ⊢
 rw [hn] at h1 hN ⊢
 have x0:=h1.out.cell' (i:=0) rfl
 have HN:=Lib.hid hn
 have HGB:=Lib.hid hgb
 obtain⟨V,hVe⟩:∃V,twiceV nodes=V:=⟨_,rfl⟩
 have hV0:Hid ((nodes.drop 0).any (fun nd=>dupF nodes [] nd.keys)=V):=hVe
 have HVE:=Lib.hid hVe
 clear hn hgb hVe
 go_upto_region 2 with(fail)
 clear x0
 go_loopw [14] (fun v wr=>∃i:Nat,i≤n∧v=.int .i64 (i:Int)∧Hid ((nodes.drop i).any (fun nd=>dupF nodes [] nd.keys)=V)∧Hid (Below gb w wr)∧Below W.heap.size W wr) (fun v _=>n - (intOf v).toNat)
 case atStart=>exact⟨0,Nat.zero_le _,rfl,hV0,hB1,Below.refl _ _⟩
 case round=>
  obtain⟨i,hi,rfl,hv,hBr,hgr⟩:=hrel
  by_cases hin:i=n
  ·have hin':¬(i:Int)<n:=by omega
   have he:V=false:=by
    have:=hv.out
    rw [List.drop_of_length_le (by have:=HN.out;omega)] at this
    exact this.symm
   subst he
   go_wp2_with (fail)
   go_ret
   exact⟨by rw [HVE.out];rfl,by rw [HGB.out];exact hBr.out⟩
  ·have hin':(i:Int)<n:=by omega
   have hi2:i<nodes.length:=by have:=HN.out;omega
   have hGr:=(HG.out.below hBr.out (by have:=HG.out.2.1;have:=HGB.out;omega)).of_at hi2
   obtain⟨K,ck,I,ci,c0,c1,c2,c3,c4,⟨hK,hKb⟩,_⟩:=hGr
   have k0:(0:Int)≤i:=by omega
   have hND:Hid (Arr (wr.alloc (.cells #[.int .i64 (ndAt nodes i).kind,.string (mks (ndAt nodes i).text),.bool (ndAt nodes i).ord,.slice K (ndAt nodes i).keys.length ck,.slice I (ndAt nodes i).items.length ci] 30)) wr.heap.size 30 [.int .i64 (ndAt nodes i).kind,.string (mks (ndAt nodes i).text),.bool (ndAt nodes i).ord,.slice K (ndAt nodes i).keys.length ck,.slice I (ndAt nodes i).items.length ci]):=Arr.new wr _ _
   have hbn:Hid (Below wr.heap.size wr (wr.alloc (.cells #[.int .i64 (ndAt nodes i).kind,.string (mks (ndAt nodes i).text),.bool (ndAt nodes i).ord,.slice K (ndAt nodes i).keys.length ck,.slice I (ndAt nodes i).items.length ci] 30))):=(Below.refl _ _).alloc (Nat.le_refl _) _
   have HK:=Lib.hid hK
   have HKB:=Lib.hid hKb
   clear hK hKb
   go_upto_region 4 with(fail)
   clear c0 c1 c2 c3 c4
   generalize (wr.alloc (.cells #[.int .i64 (ndAt nodes i).kind,.string (mks (ndAt nodes i).text),.bool (ndAt nodes i).ord,.slice K (ndAt nodes i).keys.length ck,.slice I (ndAt nodes i).items.length ci] 30))=w5 at *
   have hB5:Hid (Below gb w w5):=hBr.out.trans (hbn.out.mono (by have:=hBr.out.size;have:=HGB.out;omega))
   have hW5:Hid (Below W.heap.size W w5):=hgr.trans (hbn.out.mono hgr.size)
   have hK5:=Lib.hid (HK.out.keep hbn.out)
   obtain⟨nb,hnb⟩:∃b,wr.heap.size=b:=⟨_,rfl⟩
   rw [hnb] at hND ⊢
   obtain⟨hLk,_⟩:=hL i hi2
   have hrf:=Lib.hid (hI'.out i hi2)
   have hlf:=Lib.hid (hT'.out.leaf i hi2)
   rw [twice_drop hi2] at hv
   generalize ndAt nodes i=nd at *
   have n3:=hND.out.cell' (i:=3) rfl
   go_upto_region 5 with(fail)
   clear n3
   obtain⟨mb,hmb⟩:∃b,w5.heap.size=b:=⟨_,rfl⟩
   have hM0:Hid (∃D:DataW Unit,(w5.alloc (.map #[] 0)).ownsGroups Tryz.prog 140 (mb+1) 3 .i64 mb 0 D∧GrpR D (klOf nodes) (nd.keys.take 0)):=by
    rw [←hmb]
    exact⟨_,World.ownsGroups_made _ _ _ _ _,GrpR.nil _⟩
   have hb6:Hid (Below w5.heap.size w5 (w5.alloc (.map #[] 0))):=(Below.refl _ _).alloc (Nat.le_refl _) _
   have hv0:Hid ((dupF nodes (nd.keys.take 0) (nd.keys.drop 0) || (nodes.drop (i+1)).any fun nd=>dupF nodes [] nd.keys)=V):=hv
   obtain⟨R,hR⟩:∃R,(nodes.drop (i+1)).any (fun nd=>dupF nodes [] nd.keys)=R:=⟨_,rfl⟩
   rw [hR] at hv0
   have HR:=Lib.hid hR
   clear hR
   generalize w5.alloc (.map #[] 0)=w6 at *
   have n3:=(hND.out.keep hb6.out).cell' (i:=3) rfl
   rw [hmb] at hb6 ⊢
   have HMB:=Lib.hid hmb
   clear hmb hv hbn hBr hgr HK
   go_upto_region 6 with(fail)
   clear n3
   go_loopw [22] (fun v ws=>∃j:Nat,j≤nd.keys.length∧v=.int .i64 (j:Int)∧Hid (∃D:DataW Unit,ws.ownsGroups Tryz.prog 140 (mb+1) 3 .i64 mb j D∧GrpR D (klOf nodes) (nd.keys.take j))∧Hid ((dupF nodes (nd.keys.take j) (nd.keys.drop j) || R)=V)∧Below mb w5 ws) (fun v _=>nd.keys.length - (intOf v).toNat)
   case atStart=>exact⟨0,Nat.zero_le _,rfl,hM0,hv0,hb6.out⟩
   case round=>
    obtain⟨j,hj,rfl,hM,hv1,hg6⟩:=hrel
    have hBw:=Lib.hid (hB5.out.trans (hg6.mono (by have:=hB5.out.size;have:=HGB.out;have:=HMB.out;omega)))
    have hWw:=Lib.hid (hW5.out.trans (hg6.mono (by have:=hW5.out.size;have:=HMB.out;omega)))
    by_cases hjn:j=nd.keys.length
    ·have hj':¬(j:Int)<nd.keys.length:=by omega
     have hv2:Hid ((nodes.drop (i+1)).any (fun nd=>dupF nodes [] nd.keys)=V):=by
      have:=hv1.out
      rw [←HR.out] at this
      rw [List.drop_of_length_le (by omega)] at this
      exact this
     go_wp2_with (fail)
     go_roundw
     case rel=>exact⟨i+1,by omega,i64e (by omega),hv2,hBw,hWw.out⟩
     case measure=>simp [intOf];omega
    ·have hj':(j:Int)<nd.keys.length:=by omega
     have hj0:(0:Int)≤j:=by omega
     obtain⟨x,hx⟩:∃x,nd.keys[j]? = some x:=⟨_,List.getElem?_eq_getElem (by omega)⟩
     obtain⟨ad,rfl,hc⟩:=(hK5.out.keep (by rw [HMB.out];exact hg6)).at_ (I64_get hx)
     have hxm:=List.mem_of_getElem? hx
     have hxr:=hrf.out x (by unfold refs;exact List.mem_append.2 (.inl hxm))
     obtain⟨kx,rfl⟩:∃kx:Nat,x=(kx:Int):=⟨x.toNat,by omega⟩
     have hkx:kx<nodes.length:=by omega
     have q0:(0:Int)≤kx:=by omega
     have q1:(kx:Int)<n:=by have:=HN.out;omega
     have hGs:=Lib.hid (HG.out.below hBw.out (by have:=HG.out.2.1;have:=HGB.out;omega))
     obtain⟨Kk,ckk,Ik,cik,d0,d1,_⟩:=hGs.out.of_at hkx
     have g0:=(h1.out.keep hWw.out).cell' (i:=0) rfl
     have hal:Below wr.heap.size wr (wr.alloc (.cells #[.int .i64 0,.string ⟨#[]⟩] 140)):=(Below.refl _ _).alloc (Nat.le_refl _) _
     have g01:=(hal.cell (block_lt_of_cell g0)).trans g0
     have d01:=(hal.cell (block_lt_of_cell d0)).trans d0
     have d11:=(hal.cell (block_lt_of_cell d1)).trans d1
     have n1:g≠wr.heap.size:=by have:=block_lt_of_cell d0;simp only at this;omega
     have n2:gb≠wr.heap.size:=by have:=block_lt_of_cell g0;simp only at this;omega
     go_upto_region 8 with(fail)
     clear hc
     go_region
     have hS:Hid (Arr (wr.alloc (.cells #[.int .i64 (ndAt nodes kx).kind,.string (mks (ndAt nodes kx).text)] 140)).drew wr.heap.size 140 [.int .i64 (ndAt nodes kx).kind,.string (mks (ndAt nodes kx).text)]):=Arr.new wr _ _
     have hb7:Hid (Below wr.heap.size wr (wr.alloc (.cells #[.int .i64 (ndAt nodes kx).kind,.string (mks (ndAt nodes kx).text)] 140)).drew):=((Below.refl _ _).alloc (Nat.le_refl _) _).drew
     clear g0 g01 d0 d01 d1 d11 n1 n2 hal
     generalize (wr.alloc (.cells #[.int .i64 (ndAt nodes kx).kind,.string (mks (ndAt nodes kx).text)] 140)).drew=w7 at *
     obtain⟨D,hown,hgrp⟩:=hM.out
     have hown7:=hown.kept (row:=none) ⟨hb7.out.os,hb7.out.tape,hb7.out.output,hb7.out.size,fun j hj _=>hb7.out.block j hj⟩ (by simp) (fun es clock _ x _=>by cases x.val.ownBlock <;> simp)
     have hkey:=klOf_eq (nodes:=nodes) hT'.out (x:=(kx:Int)) hkx
     obtain⟨sb,hsb⟩:∃b,wr.heap.size=b:=⟨_,rfl⟩
     rw [hsb] at hS ⊢
     have s0:=hS.out.cell' (i:=0) rfl
     have s1:=hS.out.cell' (i:=1) rfl
     have hjm:j<maxLen:=by unfold maxLen;omega
     go_upto_region 10 with(at_lookup;go_loud (refine wpList_lookup_groups _ rfl _ _ 138 rfl 140 28 3 .i64 (Keyed.of_law step_law) under_groups (zero_ints _) (mb+1) mb j _ rfl hown7 hjm _ _ rfl hkey ?_;intro v zs hat hoi hzl hback;obtain⟨A,cv,rfl,hAr,hAb⟩:=ints_shape hoi))
     have hzs:Hid (∀q∈zs,q∈nd.keys.take j∧klOf nodes q=klOf nodes kx):=by
      have h2:=hgrp.2 (kx:Int)
      rw [hat,itsOf_row hoi] at h2
      intro q hq
      rw [h2] at hq
      have:=List.mem_filter.1 hq
      exact⟨this.1,by simpa using this.2⟩
     have hany:Hid (zs.any (fun q=>leafSame (ndAt nodes kx) (ndAt nodes q.toNat))=(nd.keys.take j).any fun q=>leafSame (ndAt nodes kx) (ndAt nodes q.toNat)):=by
      have h2:=hgrp.2 (kx:Int)
      rw [hat,itsOf_row hoi] at h2
      show _=_
      rw [h2]
      exact dup_group (k:=(kx:Int)) fun q _ hs=>klOf_same (x:=(kx:Int)) hs
     have hv3:Hid (((zs.drop 0).any (fun q=>leafSame (ndAt nodes kx) (ndAt nodes q.toNat)) || (dupF nodes (nd.keys.take (j+1)) (nd.keys.drop (j+1)) || R))=V):=by
      have:=hv1.out
      rw [dupF_at hx,Bool.or_assoc] at this
      show _=_
      rw [List.drop_zero,hany.out]
      exact this
     clear s0 s1 hjm
     go_loopw [43] (fun v ws=>∃t:Nat,t≤zs.length∧v=.int .i64 (t:Int)∧Hid (((zs.drop t).any (fun q=>leafSame (ndAt nodes kx) (ndAt nodes q.toNat)) || (dupF nodes (nd.keys.take (j+1)) (nd.keys.drop (j+1)) || R))=V)∧Below w7.heap.size w7 ws) (fun v _=>zs.length - (intOf v).toNat)
     case atStart=>exact⟨0,Nat.zero_le _,rfl,hv3,Below.refl _ _⟩
     case round=>
      obtain⟨t,ht,rfl,hv4,hg8⟩:=hrel
      have hB8:=Lib.hid (hBw.out.trans ((hb7.out.trans (hg8.mono hb7.out.size)).mono (by have:=hBw.out.size;have:=HGB.out;omega)))
      by_cases htn:t=zs.length
      ·have ht':¬(t:Int)<zs.length:=by omega
       have hT2:Hid ((dupF nodes (nd.keys.take (j+1)) (nd.keys.drop (j+1)) || R)=V):=by
        have:=hv4.out
        rw [htn,List.drop_of_length_le (Nat.le_refl _)] at this
        exact this
       have hmb6:mb≤w6.heap.size:=by have:=hb6.out.size;have:=HMB.out;omega
       have HB6:=Lib.hid (hg6.trans ((hb7.out.trans (hg8.mono hb7.out.size)).mono (by have:=hg6.size;have:=HMB.out;omega)))
       have hS8:=hS.out.keep hg8
       have hsbl:=hS8.lt
       have hmbs:mb<wr.heap.size:=by have:=groups_lt hown7;have:=hg8.size;omega
       have s0:=hS8.cell' (i:=0) rfl
       have s1:=hS8.cell' (i:=1) rfl
       have hjm:j<maxLen:=by unfold maxLen;omega
       have hgr0:wr.grownBy (wr.alloc (.cells #[.int .i64 (kx:Int)] 3)) none:=World.grownBy_alloc _ _ _
       have hownA:=((hown7.kept (row:=none) ⟨hg8.os,hg8.tape,hg8.output,hg8.size,fun j hj _=>hg8.block j hj⟩ (by simp) (fun es clock _ x _=>by cases x.val.ownBlock <;> simp)).kept (row:=none) hgr0 (by simp) (fun es clock _ x _=>by cases x.val.ownBlock <;> simp))
       have hcA:=cell_one_new wr (.int .i64 (kx:Int)) 3
       have hsA:(wr.alloc (.cells #[.int .i64 (kx:Int)] 3)).heap.size=wr.heap.size+1:=by simp
       have HSA:=Lib.hid hsA
       obtain⟨i0,hi0,hz0,hz1,hz2⟩:=info_parts Tryz.info3
       clear hsA hM0 hM hown hown7
       go_upto_region 16 with(first
        | ((with_reducible show wpList _ _ _ (Oper.mk _ (Op.mapEntry _ _ _) _ _ _ _ :: _) _ _);go_loud (refine wpList_mapEntry_groups _ rfl _ _ 138 rfl 140 28 3 .i64 step_law under_groups zero_ints (mb+1) mb j D rfl hownA hjm _ _ rfl hkey ?_;intro ve ze stamp wA hatE hoiE hzlE hgrE hszE hbackE))
        | (at_builtin;go_loud (refine wpList_append_own_at _ rfl _ _ 28 rfl (mb+1) 3 i0 (.int .i64 0) 1 8 Tryz.underlying28 hi0 hz0 hz1 hz2 rfl (by decide) _ _ _ rfl hoiE.1 ⟨wr.heap.size,0,none⟩ 1 1 [.int .i64 (kx:Int)] rfl rfl (fun jj u hu=>hgrE.cell (hcA jj u hu) (fun e=>absurd (Option.some.inj e) (by rw [blk_add];show wr.heap.size≠mb;omega))) (ints_oneCell .i64 [(kx:Int)]) (by unfold maxLen;omega) (by omega) (by have:=HSA.out;omega) ?_;intro v' w1 hown' hgrow hnil hloc))
        | ((with_reducible show wpList _ _ _ (Oper.mk none (Op.entryStore _ _ _ _) _ _ _ _ :: _) _ _);go_loud (refine wpList_entryStore_back _ rfl _ _ _ 138 rfl hbackE rfl rfl rfl hgrow (hoiE.appended hown' (WalkArith.wf_i64 (by omega))) (by simp;omega) (hloc.imp id (fun h=>⟨_,h,by omega⟩)) ?_;intro w2 hown2 hgrow2)))
       have hb16:Below mb w5 w2:=below_row (((HB6.out.alloc (Nat.le_of_lt hmbs) _).trans ⟨hgrE.os,hgrE.tape,hgrE.output,hgrE.size,fun j hj=>hgrE.block j (by have:=HSA.out;omega) (by intro e;have:=Option.some.inj e;omega)⟩).grown hgrow (by have:=HSA.out;omega) (fun k e=>by have:=(hoiE.1.lt k e).1;omega)) hgrow2 (by have:=hgrow.size;have:=HSA.out;omega) (Nat.le_refl _)
       have hM2:Hid (∃D:DataW Unit,w2.ownsGroups Tryz.prog 140 (mb+1) 3 .i64 mb (j+1) D∧GrpR D (klOf nodes) (nd.keys.take (j+1))):=by
        refine⟨_,hown2,?_⟩
        rw [List.take_add_one,hx]
        exact hgrp.put ((Keyed.of_law step_law).key hkey) (hoiE.appended hown' (WalkArith.wf_i64 (by omega))) (by have h2:=hgrp.2 (kx:Int);rw [hatE,itsOf_row hoiE] at h2;rw [h2])
       go_wp2_with (fail)
       go_roundw
       case rel=>exact⟨j+1,by omega,i64e (by omega),hM2,hT2,hb16⟩
       case measure=>simp [intOf];omega
      ·have ht':(t:Int)<zs.length:=by omega
       have ht0:(0:Int)≤t:=by omega
       obtain⟨q,hq⟩:∃q,zs[t]? = some q:=⟨_,List.getElem?_eq_getElem (by omega)⟩
       obtain⟨a2,rfl,hc2⟩:=(Rd.keep hAr hg8).at_ (u:=.int .i64 q) (k:=t) (by rw [List.getElem?_map,hq];rfl)
       obtain⟨hqj,_⟩:=hzs.out q (List.mem_of_getElem? hq)
       have hqm:=List.mem_of_mem_take hqj
       have hqr:=hrf.out q (by unfold refs;exact List.mem_append.2 (.inl hqm))
       obtain⟨qx,rfl⟩:∃qx:Nat,q=(qx:Int):=⟨q.toNat,by omega⟩
       have hG8:=HG.out.below hB8.out (by have:=HG.out.2.1;have:=HGB.out;omega)
       have D:=same_leaf (c:=c) (root:=root) kx qx hkx (by omega) (hlf.out _ hxm) (hlf.out _ hqm) (hT'.out.by_ _ hkx) (hT'.out.by_ _ (by omega)) wr hG8
       rw [HN.out] at D
       have D':=Lib.hid D
       have hX8:=(h1.out.keep hWw.out).below (hb7.out.trans (hg8.mono hb7.out.size)) (by have:=(h1.out.keep hWw.out).lt;exact this)
       have y0:=hX8.cell' (i:=0) rfl
       have y1:=hX8.cell' (i:=1) rfl
       have hv5:Hid ((leafSame (ndAt nodes kx) (ndAt nodes qx) || ((zs.drop (t+1)).any (fun q=>leafSame (ndAt nodes kx) (ndAt nodes q.toNat)) || (dupF nodes (nd.keys.take (j+1)) (nd.keys.drop (j+1)) || R)))=V):=by
        have h:=hv4.out
        have hz:zs[t]'(by omega)=(qx:Int):=by have:=hq;rw [List.getElem?_eq_getElem (by omega)] at this;exact Option.some.inj this
        rw [List.drop_eq_getElem_cons (by omega),List.any_cons,hz,Int.toNat_natCast,Bool.or_assoc] at h
        exact h
       clear D hG8 hv4 hq
       generalize leafSame (ndAt nodes kx) (ndAt nodes qx)=ls at *
       cases ls with
       | true=>
        have hV:V=true:=by have:=hv5.out;simpa using this.symm
        subst hV
        go_wp2_with (go_at_call 85;((with_reducible refine D'.out.mono ?_));rintro e w9 ⟨rfl,hb9⟩)
        go_ret
        exact⟨by rw [HVE.out];rfl,by rw [HGB.out];exact hB8.out.trans (hb9.mono (by have:=hB8.out.size;have:=HGB.out;have:=hg8.size;omega))⟩
       | false=>
        have hv6:Hid (((zs.drop (t+1)).any (fun q=>leafSame (ndAt nodes kx) (ndAt nodes q.toNat)) || (dupF nodes (nd.keys.take (j+1)) (nd.keys.drop (j+1)) || R))=V):=hv5.out
        go_wp2_with (go_at_call 85;((with_reducible refine D'.out.mono ?_));rintro e w9 ⟨rfl,hb9⟩)
        go_roundw
        case rel=>exact⟨t+1,by omega,i64e (by omega),hv6,hg8.trans (hb9.mono hg8.size)⟩
        case measure=>simp [intOf];omega
end Go.Proofs.YtnnnagnjikdnnaaGreatDoor
namespace Go.Proofs.YtnnnagnjikdnnaaGreatDoor
structure TOK (n:Nat) (s:TS):Prop where
 li:s.index.length=n
 ll:s.low.length=n
 ln:s.inn.length=n
 lo:s.on.length=n
 cn:s.nx+s.index.count 0=n
 sz:s.sizes.length+s.stack.length≤s.nx
 st:∀x∈s.stack,InN n x
theorem count_set {l:List Int} {k:Nat} {v:Int} (h:l.getD k 0=0) (hk:k<l.length) (hv:v≠0):(l.set k v).count 0+1=l.count 0:=by
 induction l generalizing k with
 | nil=>simp at hk
 | cons a l ih=>
  cases k with
  | zero=>
   have:a=0:=by simpa using h
   subst this
   simp only [List.set_cons_zero,List.count_cons]
   simp [hv]
  | succ k=>
   have:=ih (k:=k) (by simpa using h) (by simpa using hk)
   simp only [List.set_cons_succ,List.count_cons]
   omega
theorem TOK.push {n:Nat} {s:TS} {x:Int} (h:TOK n s) (hx:InN n x) (h0:gI s.index x=0):TOK n (pushT x s)∧s.nx+1≤n:=by
 obtain⟨h1,h2⟩:=hx
 have hc:=count_set (l:=s.index) (k:=x.toNat) (v:=((s.nx+1:Nat):Int)) h0 (by have:=h.li;omega) (by omega)
 have h3:=h.cn
 refine⟨⟨by show(sI _ _ _).length=_;rw [len_sI];exact h.li,by show(sI _ _ _).length=_;rw [len_sI];exact h.ll,h.ln,by show(List.set _ _ _).length=_;rw [List.length_set];exact h.lo,?_,?_,?_⟩,by omega⟩
 ·show s.nx+1+(s.index.set x.toNat ((s.nx+1:Nat):Int)).count 0=n
  omega
 ·show s.sizes.length+(s.stack ++ [x]).length≤s.nx+1
  have:=h.sz
  rw [List.length_append,List.length_singleton];omega
 ·intro y hy
  rcases List.mem_append.1 hy with hy | hy
  ·exact h.st y hy
  ·rw [List.mem_singleton.1 hy];exact⟨h1,h2⟩
theorem TOK.low {n:Nat} {s:TS} (h:TOK n s) (x v:Int):TOK n { s with low:=sI s.low x v }:=
 ⟨h.li,by show(sI _ _ _).length=_;rw [len_sI];exact h.ll,h.ln,h.lo,h.cn,h.sz,h.st⟩
def offT (x:Int) (s:TS):TS:={ s with stack:=s.stack.dropLast,on:=s.on.set x.toNat false,inn:=sI s.inn x (s.sizes.length:Nat) }
theorem popT_succ (at_:Int) (f k:Nat) (s:TS):popT at_ (f+1) k s=match s.stack.getLast? with
  | none=>none
  | some x=>if x=at_ then some { offT x s with sizes:=s.sizes ++ [((k+1:Nat):Int)] } else popT at_ f (k+1) (offT x s):=rfl
theorem TOK.off {n:Nat} {s:TS} {x:Int} (h:TOK n s) (hl:s.stack.getLast? = some x):TOK n (offT x s)∧InN n x∧(offT x s).stack.length+1=s.stack.length:=by
 have hm:=List.mem_of_getLast? hl
 have hne:s.stack.length≠0:=by intro e;rw [List.length_eq_zero_iff.1 e] at hm;cases hm
 have hd:(offT x s).stack.length+1=s.stack.length:=by show s.stack.dropLast.length+1=_;rw [List.length_dropLast];omega
 have hz:=h.sz
 refine⟨⟨h.li,h.ll,by show(sI _ _ _).length=_;rw [len_sI];exact h.ln,by show(List.set _ _ _).length=_;rw [List.length_set];exact h.lo,h.cn,?_,fun y hy=>h.st y (List.dropLast_subset _ hy)⟩,h.st x hm,hd⟩
 show s.sizes.length+(offT x s).stack.length≤s.nx
 omega
theorem TOK.pop {n:Nat} {at_:Int} (f:Nat):∀(k:Nat) (s s':TS),TOK n s→popT at_ f k s=some s'→TOK n s':=by
 induction f with
 | zero=>intro k s s' _ h;cases h
 | succ f ih=>
  intro k s s' h e
  rw [popT_succ] at e
  split at e
  ·cases e
  ·rename_i x hx
   obtain⟨h1,_,h3⟩:=h.off hx
   split at e
   ·rw [←Option.some.inj e]
    refine⟨h1.li,h1.ll,h1.ln,h1.lo,h1.cn,?_,h1.st⟩
    show(s.sizes ++ [((k+1:Nat):Int)]).length+(offT x s).stack.length≤s.nx
    have:=h.sz
    rw [List.length_append,List.length_singleton];omega
   ·exact ih (k+1) _ s' h1 e
theorem TOK.done {n:Nat} {at_:Int} {s s':TS} (h:TOK n s) (e:doneT at_ s=some s'):TOK n s':=by
 unfold doneT at e
 split at e
 ·exact TOK.pop _ _ _ _ h e
 ·rw [←Option.some.inj e];exact h
theorem TOK.step {n:Nat} {g:Int→TS→Option TS} {at_ x:Int} {s s':TS} (hg:∀s s',TOK n s→gI s.index x=0→g x s=some s'→TOK n s') (h:TOK n s) (e:stepT g at_ x s=some s'):TOK n s':=by
 unfold stepT at e
 split at e
 ·rename_i h0
  split at e
  ·cases e
  ·rename_i s1 e1
   rw [←Option.some.inj e]
   exact(hg s s1 h h0 e1).low _ _
 ·split at e
  ·rw [←Option.some.inj e];exact h.low _ _
  ·rw [←Option.some.inj e];exact h
theorem TOK.run {n:Nat} {g:Int→TS→Option TS} (hg:∀x s s',InN n x→TOK n s→g x s=some s'→TOK n s') (xs:List Int) (hx:∀x∈xs,InN n x) (s s':TS) (h:TOK n s) (e:runG g xs s=some s'):TOK n s':=by
 induction xs generalizing s with
 | nil=>rw [←Option.some.inj e];exact h
 | cons x xs ih=>
  rw [runG] at e
  split at e
  ·cases e
  ·rename_i s1 e1
   exact ih (fun y hy=>hx y (by simp [hy])) s1 (hg x s s1 (hx x (by simp)) h e1) e
theorem TOK.visit {nodes:List GNode} (hI:Idx nodes) (f:Nat):∀(x:Int) (s s':TS),InN nodes.length x→gI s.index x=0→TOK nodes.length s→visitT nodes f x s=some s'→TOK nodes.length s':=by
 induction f with
 | zero=>intro x s s' _ _ _ h;cases h
 | succ f ih=>
  intro x s s' hx h0 h e
  rw [visitT] at e
  have hst:∀y s s',InN nodes.length y→TOK nodes.length s→stepT (visitT nodes f) x y s=some s'→TOK nodes.length s':=fun y s s' hy hs e=>TOK.step (fun a b ha h0 hb=>ih y a b hy h0 ha hb) hs e
  have hrf:=hI x.toNat (by have:=hx.1;have:=hx.2;omega)
  split at e
  ·cases e
  ·rename_i s1 e1
   split at e
   ·cases e
   ·rename_i s2 e2
    refine TOK.done ?_ e
    refine TOK.run hst _ (fun y hy=>hrf y (by unfold refs;exact List.mem_append.2 (.inr hy))) s1 s2 ?_ e2
    exact TOK.run hst _ (fun y hy=>hrf y (by unfold refs;exact List.mem_append.2 (.inl hy))) _ s1 (h.push hx h0).1 e1
theorem TOK.start (n:Nat):TOK n (startT n):=⟨by simp [startT],by simp [startT],by simp [startT],by simp [startT],by simp [startT],by simp [startT],by simp [startT]⟩
end Go.Proofs.YtnnnagnjikdnnaaGreatDoor
namespace Go.Proofs.YtnnnagnjikdnnaaGreatDoor
open Go.RowKit
theorem keys_drop {nodes:List GNode} {i:Nat} (h:i<nodes.length):(nodes.drop i).flatMap GNode.keys=(ndAt nodes i).keys ++ (nodes.drop (i+1)).flatMap GNode.keys:=by
 rw [List.drop_eq_getElem_cons h,List.flatMap_cons]
 have e:nodes[i]=ndAt nodes i:=by have:=ndAt_get h;rw [List.getElem?_eq_getElem h] at this;exact Option.some.inj this
 rw [e]
def markK (nodes:List GNode) (m:List Bool) (k:Int):List Bool:=reachedV nodes k m
set_option maxRecDepth 20000 in
set_option maxHeartbeats 4000000 in
theorem inKeys_any {B g o c:Nat} {nodes:List GNode} {root:Int} (hI:Idx nodes) (hL:NL 65536 nodes) (hN:nodes.length≤65536) (w:World) (hG:GRd w B g o nodes) :
  Calls Tryz.prog 54 #[.agg #[.slice (some ⟨g,o,none⟩) nodes.length c,.int .i64 root]] w fun e w'=>∃mb,e=.returned (.slice (some ⟨mb,0,none⟩) nodes.length nodes.length)∧w.heap.size≤mb∧Below w.heap.size w w'∧Hid (Arr w' mb 4 (Bs (inKeysV nodes))):=by
 have h1:Hid (Arr (w.alloc (.cells #[.slice (some ⟨g,o,none⟩) nodes.length c,.int .i64 root] 26)) w.heap.size 26 [.slice (some ⟨g,o,none⟩) nodes.length c,.int .i64 root]):=Arr.new w 26 [.slice (some ⟨g,o,none⟩) nodes.length c,.int .i64 root]
 have hB1:Hid (Below w.heap.size w (w.alloc (.cells #[.slice (some ⟨g,o,none⟩) nodes.length c,.int .i64 root] 26))):=(Below.refl _ _).alloc (Nat.le_refl _) _
 have HG:=Lib.hid hG
 have hI':=Lib.hid hI
 clear hG
 go_enter Tryz.func54,Tryz.ntmps54
 go_upto_region 1 with(fail)
 generalize w.alloc (.cells #[.slice (some ⟨g,o,none⟩) nodes.length c,.int .i64 root] 26)=W at *
 obtain⟨n,hn⟩:∃n,nodes.length=n:=⟨_,rfl⟩
 obtain⟨gb,hgb⟩:∃b,w.heap.size=b:=⟨_,rfl⟩
 have hgbl:=h1.out.lt
 rw [hgb] at h1 hgbl hB1 ⊢
 rw [hn] at h1 hN ⊢
 have x0:=h1.out.cell' (i:=0) rfl
 have HN:=Lib.hid hn
 have HGB:=Lib.hid hgb
 clear hn hgb
 go_upto_region 2 with(at_make;go_loud (refine wpList_mk rfl _ _ 100 rfl 4 _ _ Tryz.underlying100 infoBool rfl _ _ _ _ rfl rfl n n (by omega) (by omega) (by omega) (by omega) (by unfold maxLen;omega) ?_;intro mb w2 hmb hM hb2 hz2))
 have hB2:Hid (Below gb w w2):=hB1.out.trans (hb2.mono (Nat.le_of_lt hgbl))
 have l1:gb<mb:=by have:=hmb.out;omega
 have hX:=Lib.hid (h1.out.keep hb2)
 have y0:=hX.out.cell' (i:=0) rfl
 have hMz:Hid (Arr w2 mb 4 (Bs (noMarks n))):=by rw [←Bs_rep];exact hM
 have HFI:Hid (((nodes.drop 0).flatMap GNode.keys).foldl (markK nodes) (noMarks n)=inKeysV nodes):=by
  rw [List.drop_zero,←HN.out];exact rfl
 have hlen0:Hid ((noMarks n).length=n):=by unfold noMarks;exact List.length_replicate
 clear hM hb2 hz2 h1 x0
 go_wp2_with (fail)
 go_loopw [15] (fun v wr=>∃(i:Nat) (cur:List Bool),i≤n∧v=.int .i64 (i:Int)∧Hid (cur.length=n)∧Hid (((nodes.drop i).flatMap GNode.keys).foldl (markK nodes) cur=inKeysV nodes)∧Hid (Arr wr mb 4 (Bs cur))∧Hid (Below gb w wr)∧w2.grownBy wr (some mb)) (fun v _=>n - (intOf v).toNat)
 case atStart=>exact⟨0,_,Nat.zero_le _,rfl,hlen0,HFI,hMz,hB2,World.grownBy.refl _ _⟩
 case round=>
  obtain⟨i,cur,hi,rfl,hcl,hfi,hCr,hBr,hgr⟩:=hrel
  by_cases hin:i=n
  ·have hin':¬(i:Int)<n:=by omega
   have he:cur=inKeysV nodes:=by
    have:=hfi.out
    rw [List.drop_of_length_le (by have:=HN.out;omega)] at this
    exact this
   subst he
   go_wp2_with (fail)
   go_ret
   exact⟨mb,by rw [HN.out];rfl,by have:=HGB.out;omega,by rw [HGB.out];exact hBr,hCr⟩
  ·have hin':(i:Int)<n:=by omega
   have hi2:i<nodes.length:=by have:=HN.out;omega
   have hGr:=(HG.out.below hBr.out (by have:=HG.out.2.1;have:=HGB.out;omega)).of_at hi2
   obtain⟨K,ck,I,ci,c0,c1,c2,c3,c4,⟨hK,hKb⟩,_⟩:=hGr
   have k0:(0:Int)≤i:=by omega
   have hcbl:=hCr.out.lt
   have hND:Hid (Arr (wr.alloc (.cells #[.int .i64 (ndAt nodes i).kind,.string (mks (ndAt nodes i).text),.bool (ndAt nodes i).ord,.slice K (ndAt nodes i).keys.length ck,.slice I (ndAt nodes i).items.length ci] 30)) wr.heap.size 30 [.int .i64 (ndAt nodes i).kind,.string (mks (ndAt nodes i).text),.bool (ndAt nodes i).ord,.slice K (ndAt nodes i).keys.length ck,.slice I (ndAt nodes i).items.length ci]):=Arr.new wr _ _
   have hbn:Hid (Below wr.heap.size wr (wr.alloc (.cells #[.int .i64 (ndAt nodes i).kind,.string (mks (ndAt nodes i).text),.bool (ndAt nodes i).ord,.slice K (ndAt nodes i).keys.length ck,.slice I (ndAt nodes i).items.length ci] 30))):=(Below.refl _ _).alloc (Nat.le_refl _) _
   have HK:=Lib.hid hK
   have HKB:=Lib.hid hKb
   clear hK hKb
   go_upto_region 5 with(fail)
   clear c0 c1 c2 c3 c4
   generalize (wr.alloc (.cells #[.int .i64 (ndAt nodes i).kind,.string (mks (ndAt nodes i).text),.bool (ndAt nodes i).ord,.slice K (ndAt nodes i).keys.length ck,.slice I (ndAt nodes i).items.length ci] 30))=w5 at *
   have hB5:Hid (Below gb w w5):=hBr.out.trans (hbn.out.mono (by have:=hBr.out.size;have:=HGB.out;omega))
   have hC5:=Lib.hid (hCr.out.keep hbn.out)
   have hK5:=Lib.hid (HK.out.keep hbn.out)
   have hg5:Hid (w2.grownBy w5 (some mb)):=grown_trans hgr ⟨hbn.out.os,hbn.out.tape,hbn.out.output,hbn.out.size,fun j hj _=>hbn.out.block j hj⟩
   obtain⟨nb,hnb⟩:∃b,wr.heap.size=b:=⟨_,rfl⟩
   rw [hnb] at hND hcbl ⊢
   have hgbn:gb<nb:=by have:=hBr.out.size;have:=HGB.out;omega
   obtain⟨hLk,_⟩:=hL i hi2
   have hrf:=Lib.hid (hI'.out i hi2)
   rw [keys_drop hi2,List.foldl_append] at hfi
   clear hnb hBr hCr HK hbn hgr
   generalize ndAt nodes i=nd at *
   have n3:=hND.out.cell' (i:=3) rfl
   go_wp2_with (fail)
   go_loopw [22] (fun v ws=>∃(j:Nat) (cu:List Bool),j≤nd.keys.length∧v=.int .i64 (j:Int)∧Hid (cu.length=n)∧Hid (((nd.keys.drop j)).foldl (markK nodes) cu=nd.keys.foldl (markK nodes) cur)∧Hid (Arr ws mb 4 (Bs cu))∧Hid (Below gb w ws)∧w5.grownBy ws (some mb)) (fun v _=>nd.keys.length - (intOf v).toNat)
   case atStart=>exact⟨0,cur,Nat.zero_le _,rfl,hcl,rfl,hC5,hB5,World.grownBy.refl _ _⟩
   case round=>
    obtain⟨j,cu,hj,rfl,hcl2,hfk,hCs,hBs,hgs⟩:=hrel
    by_cases hjl:j=nd.keys.length
    ·have hjl':¬(j:Int)<nd.keys.length:=by omega
     have he:cu=nd.keys.foldl (markK nodes) cur:=by
      have:=hfk.out
      rw [List.drop_of_length_le (by omega)] at this
      exact this
     subst he
     have hgo:=Lib.hid (grown_trans hg5.out hgs)
     go_wp2_with (fail)
     go_roundw
     case rel=>exact⟨i+1,_,by omega,i64e (by omega),hcl2,hfi,hCs,hBs,hgo.out⟩
     case measure=>simp [intOf];omega
    ·have hjl':(j:Int)<nd.keys.length:=by omega
     obtain⟨x,hx⟩:∃x,nd.keys[j]? = some x:=⟨_,List.getElem?_eq_getElem (by omega)⟩
     obtain⟨ad,rfl,hc⟩:=(hK5.out.grown hgs (fun ad e h=>by have:=HKB.out ad e;have:=Option.some.inj h;have:=HG.out.2.1;have:=HGB.out;omega)).at_ (I64_get hx)
     have hxr:=hrf.out x (by unfold refs;exact List.mem_append.2 (.inl (List.mem_of_getElem? hx)))
     obtain⟨kx,rfl⟩:∃kx:Nat,x=(kx:Int):=⟨x.toNat,by omega⟩
     have hGs:=HG.out.below hBs.out (by have:=HG.out.2.1;have:=HGB.out;omega)
     have D:=reached_any (c:=c) (root:=root) hI hL kx (by omega) cu wr (by have:=hcl2.out;have:=HN.out;omega) hGs (by have:=HG.out.2.1;have:=HGB.out;omega) hCs.out
     rw [HN.out] at D
     have D':=Lib.hid D
     have hXs:=(hX.out.grown (grown_trans hg5.out hgs) (by intro e;have e':gb=mb:=Option.some.inj e;omega))
     have x0:=hXs.cell' (i:=0) rfl
     have x1:=hXs.cell' (i:=1) rfl
     have hfk2:Hid ((nd.keys.drop (j+1)).foldl (markK nodes) (reachedV nodes (kx:Int) cu)=nd.keys.foldl (markK nodes) cur):=by
      have:=hfk.out
      rw [drop_cons_at hx,List.foldl_cons] at this
      exact this
     have hcl3:Hid ((reachedV nodes (kx:Int) cu).length=n):=by
      have:=(reachedV_ok hI (at_:=(kx:Int)) (m:=cu) hxr (by have:=hcl2.out;have:=HN.out;omega)).2.len
      show _=n
      rw [this];exact hcl2.out
     clear hfk hx hxr D hXs hGs
     go_wp2_with (go_at_call 51;((with_reducible refine D'.out.mono ?_));rintro e w6 ⟨rfl,hg6,hM6⟩)
     go_roundw
     case rel=>exact⟨j+1,reachedV nodes (kx:Int) cu,by omega,i64e (by omega),hcl3,hfk2,hM6,below_row hBs.out hg6 (by have:=HGB.out;have:=hBs.out.size;omega) (by omega),grown_trans hgs hg6⟩
     case measure=>simp [intOf];omega
end Go.Proofs.YtnnnagnjikdnnaaGreatDoor
