/- The walk of graph.Check, for graphs whose keys are leaves; of Depth and Size. -/
import Derived.Test.YtnnnagnjikdnnaaGreatDoorMAh
import Derived.Test.YtnnnagnjikdnnaaGreatDoorMAm
import Derived.Test.YtnnnagnjikdnnaaGreatDoorMAs
import Derived.Test.YtnnnagnjikdnnaaGreatDoorMAn
import Derived.Test.YtnnnagnjikdnnaaGreatDoorMAk
import Derived.Test.YtnnnagnjikdnnaaGreatDoorMAf
import Derived.Deep.CutRange
import Derived.Recover
import Derived.Defers
import Derived.StillTailTactics
import Derived.Test.YtnnnagnjikdnnaaGreatDoorMAj
import Derived.Test.YtnnnagnjikdnnaaGreatDoorMAl
set_option linter.unusedVariables false
set_option linter.unusedSimpArgs false
set_option linter.defProp false
set_option linter.constructorNameAsVariable false
namespace Go.Proofs.YtnnnagnjikdnnaaGreatDoor
open Go.RowKit
def scV (nd:GNode):Bool:=
 if nd.kind=0 then nd.text.isEmpty else if nd.kind=1 then decide (nd.text=litTrue∨nd.text=litFalse) else if nd.kind=2 then (parseC nd.text).isSome
 else if nd.kind=3 then validD nd.text else if nd.kind=5 then decide (ckErr (checkV nd.text)=0) else decide (nd.kind=6)
def depD (nodes:List GNode) (root:Int):Int:=match depthV nodes root with | some p=>p.1 | none=>0
def okN (nodes:List GNode) (root:Int) (i:Nat):Bool:=(reachedV nodes root (noMarks nodes.length)).getD i false && formV (ndAt nodes i) (scV (ndAt nodes i))
def okK (nodes:List GNode) (root:Int) (i:Nat):Bool:=!((inKeysV nodes).getD i false) || decide ((countsV nodes root).getD i 0=1)
def chkV (nodes:List GNode) (root:Int):Int:=
 if indicesV nodes root=false then 3
 else if (List.range nodes.length).all (okN nodes root)=false then 3
 else if (List.range nodes.length).all (okK nodes root)=false then 3
 else if twiceV nodes=true then 8
 else if 32<depD nodes root then 5 else 0
theorem all_no {f:Nat→Bool} {n i:Nat} (hi:i<n) (h:f i=false):(List.range n).all f=false:=by
 rw [Bool.eq_false_iff]
 intro e
 rw [List.all_eq_true] at e
 rw [e i (List.mem_range.2 hi)] at h
 cases h
theorem all_yes {f:Nat→Bool} {n:Nat} (h:∀j,j<n→f j=true):(List.range n).all f=true:=by
 rw [List.all_eq_true]
 exact fun j hj=>h j (List.mem_range.1 hj)
theorem below_succ {f:Nat→Bool} {i:Nat} (h:∀j,j<i→f j=true) (hi:f i=true):∀j,j<i+1→f j=true:=fun j hj=>by
 by_cases e:j=i
 ·rw [e];exact hi
 ·exact h j (by omega)
structure ChkOK (nodes:List GNode) (root:Int):Prop where
 n0:0<nodes.length
 n1:nodes.length≤4096
 nl:NL 65536 nodes
 tw:TwOK nodes
 sc:∀i,i<nodes.length→(ndAt nodes i).kind≠11∧((ndAt nodes i).kind≠9→(ndAt nodes i).kind≠10→ScalC (ndAt nodes i).kind (ndAt nodes i).text (scV (ndAt nodes i)))
 dp:indicesV nodes root=true→(List.range nodes.length).all (okN nodes root)=true→∃s,compV nodes root=some s∧EndT nodes s
set_option maxRecDepth 20000 in
set_option maxHeartbeats 16000000 in
theorem gcheck_any {B g o c:Nat} {nodes:List GNode} {root:Int} (hO:ChkOK nodes root) (w:World) (hw:LibE w) (hG:GRd w B g o nodes) :
  Calls Tryz.prog 26 #[.agg #[.slice (some ⟨g,o,none⟩) nodes.length c,.int .i64 root]] w fun e w'=>e=.returned (.int .i64 (chkV nodes root))∧Below w.heap.size w w':=by
 have h1:Hid (Arr (w.alloc (.cells #[.slice (some ⟨g,o,none⟩) nodes.length c,.int .i64 root] 26)) w.heap.size 26 [.slice (some ⟨g,o,none⟩) nodes.length c,.int .i64 root]):=Arr.new w 26 [.slice (some ⟨g,o,none⟩) nodes.length c,.int .i64 root]
 have hB1:Hid (Below w.heap.size w (w.alloc (.cells #[.slice (some ⟨g,o,none⟩) nodes.length c,.int .i64 root] 26))):=(Below.refl _ _).alloc (Nat.le_refl _) _
 have HG:=Lib.hid hG
 obtain⟨hN0,hN1,hNL,hTw,hSc,hDp⟩:=hO
 have HTw:=Lib.hid hTw
 have HSc:=Lib.hid hSc
 have HDp:=Lib.hid hDp
 have HNL:=Lib.hid hNL
 clear hG hTw hSc hDp hNL
 obtain⟨V,hVe⟩:∃V,chkV nodes root=V:=⟨_,rfl⟩
 have HV:=Lib.hid hVe
 rw [hVe]
 clear hVe
 go_enter Tryz.func26,Tryz.ntmps26
 go_upto_region 1 with(fail)
 have HW:=Lib.hid hw
 generalize w.alloc (.cells #[.slice (some ⟨g,o,none⟩) nodes.length c,.int .i64 root] 26)=W at *
 have HGW:=Lib.hid (HG.out.below hB1.out HG.out.2.1)
 have DI:=Lib.hid (indices_any (c:=c) (root:=root) HNL.out (by omega) W HGW.out)
 obtain⟨n,hn⟩:∃n,nodes.length=n:=⟨_,rfl⟩
 obtain⟨gb,hgb⟩:∃b,w.heap.size=b:=⟨_,rfl⟩
 have hgbl:=h1.out.lt
 rw [hgb] at h1 hgbl hB1 ⊢
 rw [hn] at h1 hN0 hN1 DI ⊢
 have x0:=h1.out.cell' (i:=0) rfl
 have x1:=h1.out.cell' (i:=1) rfl
 have HN:=Lib.hid hn
 have HGB:=Lib.hid hgb
 clear hn hgb hw
 have hz:((n:Int) == 0)=false:=by simp;omega
 cases hIx:indicesV nodes root with
 | false=>
  have hv:V=3:=by rw [←HV.out];unfold chkV;rw [if_pos hIx]
  subst hv
  rw [hIx] at DI
  clear hIx
  go_wp2_with (go_at_call 50;((with_reducible refine DI.out.mono ?_));rintro e w2 ⟨rfl,hb2⟩)
  go_ret
  exact⟨rfl,by rw [HGB.out];exact hB1.out.trans (hb2.mono (by omega))⟩
 | true=>
  rw [hIx] at DI
  have HIx:=Lib.hid hIx
  obtain⟨⟨hr1,hr2⟩,hI⟩:=idx_of hIx
  have HI:=Lib.hid hI
  obtain⟨r,rfl⟩:∃r:Nat,root=(r:Int):=⟨root.toNat,by omega⟩
  have hrn:r<n:=by have:=HN.out;omega
  clear hIx hI hr1 hr2
  go_upto_region 5 with(go_at_call 50;((with_reducible refine DI.out.mono ?_));rintro e w2 ⟨rfl,hb2⟩)
  have hX2:=Lib.hid (h1.out.keep hb2)
  have hB2:Hid (Below gb w w2):=hB1.out.trans (hb2.mono (by omega))
  have hs2:=hb2.size
  have hz0:=hX2.out.cell' (i:=0) rfl
  have hz1:=hX2.out.cell' (i:=1) rfl
  clear x0 x1 DI
  go_upto_region 6 with(at_make;go_loud (refine wpList_mk rfl _ _ 100 rfl 4 _ _ Tryz.underlying100 infoBool rfl _ _ _ _ rfl rfl n n (by omega) (by omega) (by omega) (by omega) (by unfold maxLen;omega) ?_;intro mb w3 hmb hM hb3 hz3))
  have hX3:=Lib.hid (hX2.out.keep hb3)
  have hB3:Hid (Below gb w w3):=hB2.out.trans (hb3.mono (by have:=hB2.out.size;have:=HGB.out;omega))
  have l3:gb<mb:=by have:=hmb.out;omega
  have hMz:Hid (Arr w3 mb 4 (Bs (noMarks n))):=by rw [←Bs_rep];exact hM
  have hlen0:Hid ((noMarks n).length=n):=by unfold noMarks;exact List.length_replicate
  clear hM hz0 hz1
  have y0:=hX3.out.cell' (i:=0) rfl
  have y1:=hX3.out.cell' (i:=1) rfl
  have hG3:=HG.out.below hB3.out (by have:=HG.out.2.1;have:=HGB.out;omega)
  have DR:=reached_any (c:=c) (root:=(r:Int)) HI.out HNL.out r (by have:=HN.out;omega) (noMarks n) w3 (by have:=hlen0.out;have:=HN.out;omega) hG3 (by have:=HG.out.2.1;have:=HGB.out;omega) hMz.out
  rw [HN.out] at DR
  have DR':=Lib.hid DR
  clear DR hG3
  obtain⟨mk,hmk⟩:∃mk,reachedV nodes (r:Int) (noMarks n)=mk:=⟨_,rfl⟩
  rw [hmk] at DR'
  have HMK:Hid (reachedV nodes (r:Int) (noMarks nodes.length)=mk):=by rw [HN.out];exact hmk
  have hmkl:Hid (mk.length=n):=by
   have:=(reachedV_ok HI.out (at_:=(r:Int)) (m:=noMarks nodes.length) ⟨by omega,by have:=HN.out;omega⟩ (by simp [noMarks])).2.len
   rw [HMK.out] at this
   show _=_
   rw [this];simp [noMarks];exact HN.out
  clear hmk
  go_upto_region 7 with(go_at_call 51;((with_reducible refine DR'.out.mono ?_));rintro e w4 ⟨rfl,hg4,hM4⟩)
  have hX4:=Lib.hid (hX3.out.grown hg4 (by intro e;have e':gb=mb:=Option.some.inj e;omega))
  have hB4:Hid (Below gb w w4):=below_row hB3.out hg4 (by have:=HGB.out;have:=hB3.out.size;omega) (by omega)
  clear y0 y1 DR' hMz hb3 hg4
  have y0:=hX4.out.cell' (i:=0) rfl
  go_upto_region 8 with(fail)
  clear y0
  have hF0:Hid (∀j,j<0→okN nodes (r:Int) j=true):=fun j hj=>by omega
  go_loopw [36] (fun v wr=>∃i:Nat,i≤n∧v=.int .i64 (i:Int)∧Hid (∀j,j<i→okN nodes (r:Int) j=true)∧Below w4.heap.size w4 wr) (fun v _=>n - (intOf v).toNat)
  case atStart=>exact⟨0,Nat.zero_le _,rfl,hF0,Below.refl _ _⟩
  case round=>
   obtain⟨i,hi,rfl,hF,hgr⟩:=hrel
   have hBr:=Lib.hid (hB4.out.trans (hgr.mono (by have:=hB4.out.size;have:=HGB.out;omega)))
   by_cases hin:i=n
   ·have hin':¬(i:Int)<n:=by omega
    have hAll:Hid ((List.range nodes.length).all (okN nodes (r:Int))=true):=all_yes fun j hj=>hF.out j (by have:=HN.out;omega)
    have hXr:=Lib.hid (hX4.out.keep hgr)
    have a0:=hXr.out.cell' (i:=0) rfl
    have a1:=hXr.out.cell' (i:=1) rfl
    have hGr:=HG.out.below hBr.out (by have:=HG.out.2.1;have:=HGB.out;omega)
    have DC:=counts_any (c:=c) HIx.out HNL.out (by have:=HN.out;omega) wr hGr
    rw [HN.out] at DC
    have DC':=Lib.hid DC
    clear DC hGr
    go_upto_region 14 with(go_at_call 53;((with_reducible refine DC'.out.mono ?_));rintro e w5 ⟨cb,rfl,hcbl,hb5,hC5⟩)
    have hB5:Hid (Below gb w w5):=hBr.out.trans (hb5.mono (by have:=hBr.out.size;have:=HGB.out;omega))
    have hX5:=Lib.hid (hXr.out.keep hb5)
    clear a0 a1 DC'
    have a0:=hX5.out.cell' (i:=0) rfl
    have a1:=hX5.out.cell' (i:=1) rfl
    have hGr:=HG.out.below hB5.out (by have:=HG.out.2.1;have:=HGB.out;omega)
    have DK:=inKeys_any (c:=c) (root:=(r:Int)) HI.out HNL.out (by have:=HN.out;omega) w5 hGr
    rw [HN.out] at DK
    have DK':=Lib.hid DK
    clear DK hGr
    go_upto_region 15 with(go_at_call 54;((with_reducible refine DK'.out.mono ?_));rintro e w6 ⟨kb,rfl,hkbl,hb6,hK6⟩)
    have hB6:Hid (Below gb w w6):=hB5.out.trans (hb6.mono (by have:=hB5.out.size;have:=HGB.out;omega))
    have hX6:=Lib.hid (hX5.out.keep hb6)
    have hC6:=Lib.hid (hC5.out.keep hb6)
    have hcl:Hid ((countsV nodes (r:Int)).length=n):=by
     unfold countsV
     show _=_
     rw [bumps_len,bump_len,List.length_replicate];exact HN.out
    have hkl:Hid ((inKeysV nodes).length=n):=by
     have:=(inKeys_fold HI.out (nodes.flatMap GNode.keys) (fun k hk=>by
      obtain⟨nd,hnd,hk⟩:=List.mem_flatMap.1 hk
      obtain⟨q,hq,rfl⟩:=List.getElem_of_mem hnd
      have e:ndAt nodes q=nodes[q]:=by have:=ndAt_get hq;rw [List.getElem?_eq_getElem hq] at this;exact(Option.some.inj this).symm
      exact HI.out q hq k (by rw [e];unfold refs;exact List.mem_append.2 (.inl hk))) (noMarks nodes.length) (by simp [noMarks]) (noMarks_closed nodes _)).1
     show _=_
     unfold inKeysV
     rw [this];exact HN.out
    clear a0 a1 DK'
    have hF0':Hid (∀j,j<0→okK nodes (r:Int) j=true):=fun j hj=>by omega
    go_loopw [57] (fun v ws=>∃q:Nat,q≤n∧v=.int .i64 (q:Int)∧Hid (∀j,j<q→okK nodes (r:Int) j=true)∧Below w6.heap.size w6 ws) (fun v _=>n - (intOf v).toNat)
    case atStart=>exact⟨0,Nat.zero_le _,rfl,hF0',Below.refl _ _⟩
    case round=>
     obtain⟨q,hq,rfl,hFq,hgq⟩:=hrel
     have hBq:=Lib.hid (hB6.out.trans (hgq.mono (by have:=hB6.out.size;have:=HGB.out;omega)))
     by_cases hqn:q=n
     ·have hqn':¬(q:Int)<n:=by omega
      have hAllK:Hid ((List.range nodes.length).all (okK nodes (r:Int))=true):=all_yes fun j hj=>hFq.out j (by have:=HN.out;omega)
      have hXq:=Lib.hid (hX6.out.keep hgq)
      have b0:=hXq.out.cell' (i:=0) rfl
      have b1:=hXq.out.cell' (i:=1) rfl
      have hGq:=HG.out.below hBq.out (by have:=HG.out.2.1;have:=HGB.out;omega)
      have DT:=twice_any (c:=c) (root:=(r:Int)) HI.out HNL.out (by have:=HN.out;omega) HTw.out wr hGq
      rw [HN.out] at DT
      have DT':=Lib.hid DT
      clear DT hGq
      cases htw:twiceV nodes with
      | true=>
       have hv:V=8:=by
        rw [←HV.out];unfold chkV
        rw [if_neg (by rw [HIx.out];simp),if_neg (by rw [hAll.out];simp),if_neg (by rw [hAllK.out];simp),if_pos htw]
       subst hv
       rw [htw] at DT'
       clear htw
       go_wp2_with (go_at_call 55;((with_reducible refine DT'.out.mono ?_));rintro e w7 ⟨rfl,hb7⟩)
       go_ret
       exact⟨rfl,by rw [HGB.out];exact hBq.out.trans (hb7.mono (by have:=hBq.out.size;have:=HGB.out;omega))⟩
      | false=>
       rw [htw] at DT'
       have HTF:=Lib.hid htw
       clear htw
       obtain⟨s,hs,hE⟩:=HDp.out HIx.out hAll.out
       have hdep:Hid (depD nodes (r:Int)=gI (belowV nodes s.inn s.sizes).1 (gI s.inn (r:Int)) - 1):=by
        unfold depD depthV
        rw [hs];exact rfl
       have DD:Hid (∀w7,GRd w7 B g o nodes→Calls Tryz.prog 56 #[.agg #[.slice (some ⟨g,o,none⟩) n c,.int .i64 (r:Int)]] w7 fun en w'=>en=.returned (.tuple #[.int .i64 (gI (belowV nodes s.inn s.sizes).1 (gI s.inn (r:Int)) - 1),.bool (belowV nodes s.inn s.sizes).2])∧Below w7.heap.size w7 w'):=fun w7 h7=>by
        have:=depth_any (c:=c) (root:=(r:Int)) HI.out HNL.out (by have:=HN.out;omega) ⟨by omega,by have:=HN.out;omega⟩ s hs hE w7 h7
        rw [HN.out] at this
        exact this
       generalize gI (belowV nodes s.inn s.sizes).1 (gI s.inn (r:Int)) - 1=dv at *
       generalize (belowV nodes s.inn s.sizes).2=ab at *
       clear hs hE
       have hvv:Hid (V=if 32<dv then 5 else 0):=by
        show _=_
        rw [←HV.out];unfold chkV
        rw [if_neg (by rw [HIx.out];simp),if_neg (by rw [hAll.out];simp),if_neg (by rw [hAllK.out];simp),if_neg (by rw [HTF.out];simp),hdep.out]
       go_upto_region 22 with(go_at_call 55;((with_reducible refine DT'.out.mono ?_));rintro e w7 ⟨rfl,hb7⟩)
       have hB7:Hid (Below gb w w7):=hBq.out.trans (hb7.mono (by have:=hBq.out.size;have:=HGB.out;omega))
       have hX7:=Lib.hid (hXq.out.keep hb7)
       clear b0 b1
       have b0:=hX7.out.cell' (i:=0) rfl
       have b1:=hX7.out.cell' (i:=1) rfl
       have hG7:=Lib.hid (HG.out.below hB7.out (by have:=HG.out.2.1;have:=HGB.out;omega))
       by_cases hdv:32<dv
       ·have hv:V=5:=by rw [hvv.out,if_pos hdv]
        subst hv
        go_wp2_with (go_at_call 56;((with_reducible refine(DD.out _ hG7.out).mono ?_));rintro e w8 ⟨rfl,hb8⟩)
        go_ret
        exact⟨rfl,by rw [HGB.out];exact hB7.out.trans (hb8.mono (by have:=hB7.out.size;have:=HGB.out;omega))⟩
       ·have hv:V=0:=by rw [hvv.out,if_neg hdv]
        subst hv
        go_wp2_with (go_at_call 56;((with_reducible refine(DD.out _ hG7.out).mono ?_));rintro e w8 ⟨rfl,hb8⟩)
        go_ret
        exact⟨rfl,by rw [HGB.out];exact hB7.out.trans (hb8.mono (by have:=hB7.out.size;have:=HGB.out;omega))⟩
     ·have hqn':(q:Int)<n:=by omega
      have hq0:(0:Int)≤q:=by omega
      have hq2:q<nodes.length:=by have:=HN.out;omega
      have m0:=(hK6.out.keep hgq).cell' (Bs_get (m:=inKeysV nodes) (k:=q) (by have:=hkl.out;omega))
      have c0:=(hC6.out.keep hgq).cell' (I64_getD (l:=countsV nodes (r:Int)) (k:=q) (by have:=hcl.out;omega))
      have hok:Hid (okK nodes (r:Int) q=(!((inKeysV nodes).getD q false) || decide ((countsV nodes (r:Int)).getD q 0=1))):=rfl
      generalize (inKeysV nodes).getD q false=ib at *
      generalize (countsV nodes (r:Int)).getD q 0=cv at *
      cases ib with
      | false=>
       have hF2:Hid (∀j,j<q+1→okK nodes (r:Int) j=true):=below_succ hFq.out (by rw [hok.out];rfl)
       go_wp2_with (fail)
       go_roundw
       case rel=>exact⟨q+1,by omega,i64e (by omega),hF2,hgq⟩
       case measure=>simp [intOf];omega
      | true=>
       by_cases hc1:cv=1
       ·subst hc1
        have hF2:Hid (∀j,j<q+1→okK nodes (r:Int) j=true):=below_succ hFq.out (by rw [hok.out];rfl)
        go_wp2_with (fail)
        go_roundw
        case rel=>exact⟨q+1,by omega,i64e (by omega),hF2,hgq⟩
        case measure=>simp [intOf];omega
       ·have hv:V=3:=by
         rw [←HV.out];unfold chkV
         rw [if_neg (by rw [HIx.out];simp),if_neg (by rw [hAll.out];simp),if_pos (all_no hq2 (by rw [hok.out];simp [hc1]))]
        subst hv
        have hc2:(cv != 1)=true:=by simpa using hc1
        go_wp2_with (fail)
        go_ret
        exact⟨rfl,by rw [HGB.out];exact hBq.out⟩
   ·have hin':(i:Int)<n:=by omega
    have hi2:i<nodes.length:=by have:=HN.out;omega
    have hGr:=(HG.out.below hBr.out (by have:=HG.out.2.1;have:=HGB.out;omega)).of_at hi2
    obtain⟨K,ck,I,ci,c0,c1,c2,c3,c4,_,_⟩:=hGr
    have k0:(0:Int)≤i:=by omega
    have hND:Hid (Arr (wr.alloc (.cells #[.int .i64 (ndAt nodes i).kind,.string (mks (ndAt nodes i).text),.bool (ndAt nodes i).ord,.slice K (ndAt nodes i).keys.length ck,.slice I (ndAt nodes i).items.length ci] 30)) wr.heap.size 30 [.int .i64 (ndAt nodes i).kind,.string (mks (ndAt nodes i).text),.bool (ndAt nodes i).ord,.slice K (ndAt nodes i).keys.length ck,.slice I (ndAt nodes i).items.length ci]):=Arr.new wr _ _
    have hbn:Hid (Below wr.heap.size wr (wr.alloc (.cells #[.int .i64 (ndAt nodes i).kind,.string (mks (ndAt nodes i).text),.bool (ndAt nodes i).ord,.slice K (ndAt nodes i).keys.length ck,.slice I (ndAt nodes i).items.length ci] 30))):=(Below.refl _ _).alloc (Nat.le_refl _) _
    go_upto_region 10 with(fail)
    clear c0 c1 c2 c3 c4
    generalize (wr.alloc (.cells #[.int .i64 (ndAt nodes i).kind,.string (mks (ndAt nodes i).text),.bool (ndAt nodes i).ord,.slice K (ndAt nodes i).keys.length ck,.slice I (ndAt nodes i).items.length ci] 30))=w5 at *
    have hB5:Hid (Below gb w w5):=hBr.out.trans (hbn.out.mono (by have:=hBr.out.size;have:=HGB.out;omega))
    have hM5:=Lib.hid ((hM4.out.keep hgr).keep hbn.out)
    have hg5:=Lib.hid (hgr.trans (hbn.out.mono hgr.size))
    obtain⟨nb,hnb⟩:∃b,wr.heap.size=b:=⟨_,rfl⟩
    rw [hnb] at hND ⊢
    obtain⟨hLk,hLi⟩:=HNL.out i hi2
    obtain⟨h11,hsc⟩:=HSc.out i hi2
    have hw5:LibE w5:=HW.out.keep (by rw [HGB.out];exact hB5.out)
    have DF:=Lib.hid (form_any (ndAt nodes i) hLk hLi h11 (scV (ndAt nodes i)) hsc K I ck ci w5 hw5)
    have hok:Hid (okN nodes (r:Int) i=(mk.getD i false && formV (ndAt nodes i) (scV (ndAt nodes i)))):=by unfold okN;rw [HMK.out];exact rfl
    have m0:=hM5.out.cell' (Bs_get (m:=mk) (k:=i) (by have:=hmkl.out;omega))
    clear hsc hbn hBr hgr hLk hLi h11 hw5
    generalize formV (ndAt nodes i) (scV (ndAt nodes i))=fv at *
    generalize ndAt nodes i=nd at *
    have n0:=hND.out.cell' (i:=0) rfl
    have n1:=hND.out.cell' (i:=1) rfl
    have n2:=hND.out.cell' (i:=2) rfl
    have n3:=hND.out.cell' (i:=3) rfl
    have n4:=hND.out.cell' (i:=4) rfl
    generalize mk.getD i false=mb1 at *
    cases mb1 with
    | false=>
     have hv:V=3:=by
      rw [←HV.out];unfold chkV
      rw [if_neg (by rw [HIx.out];simp),if_pos (all_no hi2 (by rw [hok.out];rfl))]
     subst hv
     go_wp2_with (fail)
     go_ret
     exact⟨rfl,by rw [HGB.out];exact hB5.out⟩
    | true=>
     cases fv with
     | false=>
      have hv:V=3:=by
       rw [←HV.out];unfold chkV
       rw [if_neg (by rw [HIx.out];simp),if_pos (all_no hi2 (by rw [hok.out];rfl))]
      subst hv
      go_wp2_with (go_at_call 52;((with_reducible refine DF.out.mono ?_));rintro e w6 ⟨rfl,hb6⟩)
      go_ret
      exact⟨rfl,by rw [HGB.out];exact hB5.out.trans (hb6.mono (by have:=hB5.out.size;have:=HGB.out;omega))⟩
     | true=>
      have hF2:Hid (∀j,j<i+1→okN nodes (r:Int) j=true):=below_succ hF.out (by rw [hok.out];rfl)
      go_wp2_with (go_at_call 52;((with_reducible refine DF.out.mono ?_));rintro e w6 ⟨rfl,hb6⟩)
      go_roundw
      case rel=>exact⟨i+1,by omega,i64e (by omega),hF2,hg5.out.trans (hb6.mono hg5.out.size)⟩
      case measure=>simp [intOf];omega
theorem chkV_zero {nodes:List GNode} {root:Int} (h:chkV nodes root=0):indicesV nodes root=true∧(List.range nodes.length).all (okN nodes root)=true:=by
 unfold chkV at h
 split at h
 ·cases h
 split at h
 ·cases h
 rename_i h1 h2
 exact⟨by simpa using h1,by simpa using h2⟩
def depthR (nodes:List GNode) (root:Int):Int×Bool:=if chkV nodes root=0 then (match depthV nodes root with | some p=>p | none=>(0,false)) else (0,false)
set_option maxRecDepth 20000 in
set_option maxHeartbeats 4000000 in
theorem gdepth_any {B g o c:Nat} {nodes:List GNode} {root:Int} (hO:ChkOK nodes root) (w:World) (hw:LibE w) (hG:GRd w B g o nodes) :
  Calls Tryz.prog 96 #[.agg #[.slice (some ⟨g,o,none⟩) nodes.length c,.int .i64 root]] w fun e w'=>e=.returned (.tuple #[.int .i64 (depthR nodes root).1,.bool (depthR nodes root).2])∧Below w.heap.size w w':=by
 have h1:Hid (Arr (w.alloc (.cells #[.slice (some ⟨g,o,none⟩) nodes.length c,.int .i64 root] 26)) w.heap.size 26 [.slice (some ⟨g,o,none⟩) nodes.length c,.int .i64 root]):=Arr.new w 26 [.slice (some ⟨g,o,none⟩) nodes.length c,.int .i64 root]
 have hB1:Hid (Below w.heap.size w (w.alloc (.cells #[.slice (some ⟨g,o,none⟩) nodes.length c,.int .i64 root] 26))):=(Below.refl _ _).alloc (Nat.le_refl _) _
 have HG:=Lib.hid hG
 have HO:=Lib.hid hO
 have hwW:=hw.keep hB1.out
 have hGW:=HG.out.below hB1.out HG.out.2.1
 have DC:=Lib.hid (gcheck_any (c:=c) hO _ hwW hGW)
 obtain⟨R,hR⟩:∃R,depthR nodes root=R:=⟨_,rfl⟩
 have HR:=Lib.hid hR
 rw [hR]
 clear hR hO hG hw
 go_enter Tryz.func96,Tryz.ntmps96
 go_upto_region 1 with(fail)
 generalize w.alloc (.cells #[.slice (some ⟨g,o,none⟩) nodes.length c,.int .i64 root] 26)=W at *
 have x0:=h1.out.cell' (i:=0) rfl
 have x1:=h1.out.cell' (i:=1) rfl
 have hgl:=h1.out.lt
 by_cases hc:chkV nodes root=0
 ·rw [hc] at DC
  obtain⟨c1,c2⟩:=chkV_zero hc
  obtain⟨s,hs,hE⟩:=HO.out.dp c1 c2
  obtain⟨⟨r1,r2⟩,hI⟩:=idx_of c1
  have hn1:=HO.out.n1
  have DD:Hid (∀w7,GRd w7 B g o nodes→Calls Tryz.prog 56 #[.agg #[.slice (some ⟨g,o,none⟩) nodes.length c,.int .i64 root]] w7 fun en w'=>en=.returned (.tuple #[.int .i64 R.1,.bool R.2])∧Below w7.heap.size w7 w'):=fun w7 h7=>by
   have e:R=(gI (belowV nodes s.inn s.sizes).1 (gI s.inn root) - 1,(belowV nodes s.inn s.sizes).2):=by
    rw [←HR.out];unfold depthR depthV
    rw [if_pos hc,hs];rfl
   rw [e]
   exact depth_any (c:=c) hI HO.out.nl (by omega) ⟨r1,r2⟩ s hs hE w7 h7
  clear hs hE hc c1 c2 hI r1 r2
  generalize nodes.length=n at *
  go_upto_region 3 with(go_at_call 26;((with_reducible refine DC.out.mono ?_));rintro e w2 ⟨rfl,hb2⟩)
  have hX2:=h1.out.keep hb2
  clear x0 x1
  have x0:=hX2.cell' (i:=0) rfl
  have x1:=hX2.cell' (i:=1) rfl
  have hB2:=Lib.hid (hB1.out.trans (hb2.mono hB1.out.size))
  have hG2:=Lib.hid (HG.out.below hB2.out HG.out.2.1)
  go_wp2_with (go_at_call 56;((with_reducible refine(DD.out _ hG2.out).mono ?_));rintro e w3 ⟨rfl,hb3⟩)
  go_ret2
  exact⟨rfl,hB2.out.trans (hb3.mono hB2.out.size)⟩
 ·have e:R=(0,false):=by rw [←HR.out];unfold depthR;rw [if_neg hc]
  subst e
  generalize chkV nodes root=cv at *
  generalize nodes.length=n at *
  have hc2:(cv != 0)=true:=by simpa using hc
  go_wp2_with (go_at_call 26;((with_reducible refine DC.out.mono ?_));rintro e w2 ⟨rfl,hb2⟩)
  go_ret2
  exact⟨rfl,hB1.out.trans (hb2.mono hB1.out.size)⟩
end Go.Proofs.YtnnnagnjikdnnaaGreatDoor
namespace Go.Proofs.YtnnnagnjikdnnaaGreatDoor
open Go.RowKit
theorem ndAt_of {N:List GNode} {i:Nat} {nd:GNode} (h:N[i]? = some nd):ndAt N i=nd:=by
 unfold ndAt;rw [List.getD_eq_getElem?_getD,h];rfl
theorem JG.at_ {N:List GNode} (h:JG N) {i:Nat} (hi:i<N.length):NodeJ N i (ndAt N i):=h i _ (ndAt_get hi)
theorem JG.idx {N:List GNode} (h:JG N):Idx N:=fun i hi x hx=>by
 have:=(h.at_ hi).ref x hx
 omega
theorem JG.ranks {N:List GNode} (h:JG N):Ranks N (fun x=>N.length - x.toNat):=fun x hx y hy=>by
 obtain⟨h1,h2⟩:=hx
 have:=(h.at_ (i:=x.toNat) (by omega)).ref y hy
 show N.length - y.toNat<N.length - x.toNat
 omega
theorem endT_dag {nodes:List GNode} {s:TS} (h:DI nodes [] s) (hall:∀x,InN nodes.length x→0≤gI s.inn x) (hT:TOK nodes.length s) (hn:nodes.length≤65536):EndT nodes s:=by
 have hsl:s.sizes.length≤65536:=by have:=hT.sz;have:=hT.cn;omega
 refine⟨h.ln,fun i hi=>?_,fun c=>?_,hsl⟩
 ·have hx:InN nodes.length (i:Int):=⟨by omega,by omega⟩
  have h1:=hall (i:Int) hx
  have h2:=(h.dn (i:Int) hx h1).1
  unfold gI at h1 h2
  rw [Int.toNat_natCast] at h1 h2
  exact⟨h1,h2⟩
 ·by_cases hc:c<s.sizes.length
  ·rw [h.one c hc];omega
  ·rw [List.getD_eq_getElem?_getD,List.getElem?_eq_none (by omega)];simp
theorem JG.dp {N:List GNode} (h:JG N) (hn:N.length≤4096) {root:Int} (hr:InN N.length root) (hall:∀i,i<N.length→Reach N root.toNat i):∃s,compV N root=some s∧EndT N s:=by
 obtain⟨s,e,d,hin⟩:=compV_dag h.idx h.ranks hr (by show N.length - root.toNat≤N.length;omega) hall
 refine⟨s,e,endT_dag d hin ?_ (by omega)⟩
 refine TOK.visit h.idx _ root _ s hr ?_ (TOK.start _) e
 show(List.replicate N.length (0:Int)).getD _ _=0
 rw [List.getD_eq_getElem?_getD,List.getElem?_replicate];split <;> rfl
theorem reach_of {N:List GNode} (hI:Idx N) {root:Int} (hr:0≤root∧root<(N.length:Int)) (h:(List.range N.length).all (okN N root)=true):∀i,i<N.length→Reach N root.toNat i:=fun i hi=>by
 rw [List.all_eq_true] at h
 have:=h i (List.mem_range.2 hi)
 unfold okN at this
 rw [Bool.and_eq_true] at this
 exact(reached_iff hI hr i).1 this.1
theorem JG.chk {N:List GNode} (h:JG N) (h0:0<N.length) (h1:N.length≤4096) (hb:NB 65536 N):ChkOK N 0 where
 n0:=h0
 n1:=h1
 nl:=fun i hi=>hb _ (ndAt_mem hi)
 tw:={
  leaf:=fun i hi x hx=>by
   obtain⟨nk,k1,k2⟩:=(h.at_ hi).key x hx
   rw [ndAt_of k1]
   exact(h _ _ k1).leaf (by omega) (by omega)
  by_:=fun i hi=>(h.at_ hi).tx
  wf:=fun i hi=>by
   have:=(h.at_ hi).kind
   unfold kindJ at this
   rcases this with e | e | e | e | e | e | e <;> rw [e] <;> decide
  len:=fun i hi=>by
   have:=(h.at_ hi).len
   rw [size_mks];unfold maxLen;omega }
 sc:=fun i hi=>by
  have hk:=(h.at_ hi).kind
  have ht:=(h.at_ hi).tx
  have hl:=(h.at_ hi).len
  generalize ndAt N i=nd at *
  unfold kindJ at hk
  refine⟨by omega,fun h9 h10=>?_⟩
  unfold scV
  rcases hk with e | e | e | e | e | e | e
  ·rw [e];exact scal_null _
  ·rw [e];exact scal_bool _ ht
  ·rw [e];exact scal_int _ ht
  ·rw [e];exact scal_dec _ ht (by omega)
  ·rw [e];exact scal_text _ (by omega)
  ·exact absurd e h9
  ·exact absurd e h10
 dp:=fun hi ha=>by
  obtain⟨hr,hI⟩:=idx_of hi
  exact h.dp h1 hr (reach_of hI hr ha)
/-! ### Nested values -/
def hgt:List Bool→List Int | []=>[1] | false :: sh=>((sh.length:Int)+2) :: hgt sh | true :: sh=>((sh.length:Int)+2) :: 1 :: hgt sh
end Go.Proofs.YtnnnagnjikdnnaaGreatDoor
namespace Go.Proofs.YtnnnagnjikdnnaaGreatDoor
open Go.RowKit
end Go.Proofs.YtnnnagnjikdnnaaGreatDoor
namespace Go.Proofs.YtnnnagnjikdnnaaGreatDoor
open Go.RowKit
end Go.Proofs.YtnnnagnjikdnnaaGreatDoor
namespace Go.Proofs.YtnnnagnjikdnnaaGreatDoor
open Go.RowKit
end Go.Proofs.YtnnnagnjikdnnaaGreatDoor
namespace Go.Proofs.YtnnnagnjikdnnaaGreatDoor
open Go.RowKit
end Go.Proofs.YtnnnagnjikdnnaaGreatDoor
namespace Go.Proofs.YtnnnagnjikdnnaaGreatDoor
open Go.RowKit
end Go.Proofs.YtnnnagnjikdnnaaGreatDoor
namespace Go.Proofs.YtnnnagnjikdnnaaGreatDoor
open Go.RowKit
end Go.Proofs.YtnnnagnjikdnnaaGreatDoor
namespace Go.Proofs.YtnnnagnjikdnnaaGreatDoor
open Go.RowKit
end Go.Proofs.YtnnnagnjikdnnaaGreatDoor
namespace Go.Proofs.YtnnnagnjikdnnaaGreatDoor
open Go.RowKit
end Go.Proofs.YtnnnagnjikdnnaaGreatDoor
namespace Go.Proofs.YtnnnagnjikdnnaaGreatDoor
open Go.RowKit
end Go.Proofs.YtnnnagnjikdnnaaGreatDoor
namespace Go.Proofs.YtnnnagnjikdnnaaGreatDoor
open Go.RowKit
end Go.Proofs.YtnnnagnjikdnnaaGreatDoor
namespace Go.Proofs.YtnnnagnjikdnnaaGreatDoor
open Go.RowKit
end Go.Proofs.YtnnnagnjikdnnaaGreatDoor
namespace Go.Proofs.YtnnnagnjikdnnaaGreatDoor
open Go.RowKit
end Go.Proofs.YtnnnagnjikdnnaaGreatDoor
namespace Go.Proofs.YtnnnagnjikdnnaaGreatDoor
open Go.RowKit
end Go.Proofs.YtnnnagnjikdnnaaGreatDoor
namespace Go.Proofs.YtnnnagnjikdnnaaGreatDoor
open Go.RowKit
section
variable {en f0 d:Nat} {st:PSt} {s:JSpan} {t:JTok} {r:List JTok}
end
end Go.Proofs.YtnnnagnjikdnnaaGreatDoor
namespace Go.Proofs.YtnnnagnjikdnnaaGreatDoor
open Go.RowKit
theorem arr_drew {w:World} {g:Nat} {t:TypeId} {xs:List Value} (h:Arr w g t xs):Arr w.drew g t xs:=h
end Go.Proofs.YtnnnagnjikdnnaaGreatDoor
namespace Go.Proofs.YtnnnagnjikdnnaaGreatDoor
open Go.RowKit
end Go.Proofs.YtnnnagnjikdnnaaGreatDoor
namespace Go.Proofs.YtnnnagnjikdnnaaGreatDoor
open Go.RowKit
theorem grd_own {w:World} {B g c:Nat} {nodes:List GNode} {ncs:List Value} (hN:w.ownsRow B 30 5 (.slice (some ⟨g,0,none⟩) nodes.length c) nodes.length ncs) (hNr:NodesRd w (fun _=>True) ncs nodes):GRd w w.heap.size g 0 nodes:=by
 refine⟨(hN.lt g rfl).2,Nat.le_refl _,fun i nd hi=>?_⟩
 obtain⟨K,nk,ck,I,ni,ci,hcs,⟨hk1,hk2,hk3⟩,⟨hi1,hi2,hi3⟩⟩:=hNr.2 i nd hi
 subst hk1
 subst hi1
 obtain⟨e0,e1,e2,e3,e4⟩:=node_cells hcs
 have hb:∀{A:Option Addr},(∀ad,A=some ad→True∧∃C fz,w.heap[ad.block]? = some (.cells C 3 fz))→∀ad,A=some ad→ad.block<w.heap.size:=fun h ad e=>by
  obtain⟨_,C,fz,hc⟩:=h ad e
  exact(Array.getElem?_eq_some_iff.1 hc).1
 rw [Nat.zero_add]
 exact⟨K,ck,I,ci,(own_cell hN e0).1,(own_cell hN e1).1,(own_cell hN e2).1,(own_cell hN e3).1,(own_cell hN e4).1,⟨hk2,hb hk3⟩,hi2,hb hi3⟩
end Go.Proofs.YtnnnagnjikdnnaaGreatDoor
namespace Go.Proofs.YtnnnagnjikdnnaaGreatDoor
open Go.RowKit
end Go.Proofs.YtnnnagnjikdnnaaGreatDoor
