/- The walk of share's sorted, where the keys of unordered maps are texts. -/
import Derived.Test.YtnnnagnjikdnnaaGreatDoorMAx
set_option linter.unusedVariables false
set_option linter.unusedSimpArgs false
set_option linter.defProp false
set_option linter.constructorNameAsVariable false
namespace Go.Proofs.YtnnnagnjikdnnaaGreatDoor
open Go.RowKit
def rngI (n:Nat):List Int:=(List.range n).map Int.ofNat
theorem rngI_len (n:Nat):(rngI n).length=n:=by simp [rngI]
theorem rngI_succ (n:Nat):rngI (n+1)=rngI n ++ [(n:Int)]:=by unfold rngI;rw [List.range_succ,List.map_append];rfl
theorem rngI_in (n:Nat):InR n (rngI n):=fun x hx=>by
 unfold rngI at hx
 obtain⟨i,hi,rfl⟩:=List.mem_map.1 hx
 have:=List.mem_range.1 hi
 exact⟨Int.natCast_nonneg _,by show(i:Int)<n;omega⟩
theorem rng_set {n i:Nat} (h:i<n):(rngI i ++ List.replicate (n - i) 0).set i (i:Int)=rngI (i+1) ++ List.replicate (n - (i+1)) 0:=by
 have hl:=rngI_len i
 rw [show n - i=(n - (i+1))+1 by omega,List.replicate_succ,List.set_append_right _ _ (by omega),hl,Nat.sub_self,List.set_cons_zero,rngI_succ]
 simp
theorem infoGr:(Tryz.prog.info? 26).map (fun i=>(i.zero,i.size,i.bytes))=some (some (.agg #[.slice none 0 0,.int .i64 0]),2,32):=by kernel_rfl
def KeyL (w:World) (G m i:Nat) (cs:List Value):Prop:=cs.length=m*2∧∀j,j<i→∃nd nb c,LeafT nd∧cs[j*2]? = some (.slice (some ⟨nb,0,none⟩) 1 c)∧cs[j*2+1]? = some (.int .i64 0)∧w.ownsRow G 30 5 (.slice (some ⟨nb,0,none⟩) 1 c) 1 (kleafC nd)
theorem KeyL.keep {w w':World} {G m i:Nat} {cs:List Value} (h:KeyL w G m i cs) (hb:Below w.heap.size w w'):KeyL w' G m i cs:=
 ⟨h.1,fun j hj=>by
  obtain⟨nd,nb,c,h1,h2,h3,h4⟩:=h.2 j hj
  exact⟨nd,nb,c,h1,h2,h3,own_below h4 hb⟩⟩
theorem KeyL.put {w:World} {G m i ks nb c:Nat} {cs us:List Value} {nd:GNode} (h:KeyL w G m i cs) (hi:i<m) (hk:Arr w ks 26 us) (hl:LeafT nd) (ho:w.ownsRow G 30 5 (.slice (some ⟨nb,0,none⟩) 1 c) 1 (kleafC nd)) :
  KeyL ((w.setCell ⟨ks,i*2,none⟩ (.slice (some ⟨nb,0,none⟩) 1 c)).setCell ⟨ks,i*2+1,none⟩ (.int .i64 0)) G m (i+1) ((cs.set (i*2) (.slice (some ⟨nb,0,none⟩) 1 c)).set (i*2+1) (.int .i64 0)):=by
 have hlen:=h.1
 have far:∀{v:Value} {n:Nat} {xs:List Value},w.ownsRow G 30 5 v n xs→((w.setCell ⟨ks,i*2,none⟩ (.slice (some ⟨nb,0,none⟩) 1 c)).setCell ⟨ks,i*2+1,none⟩ (.int .i64 0)).ownsRow G 30 5 v n xs:=fun ho=>by
  have hn:=own_arr ho hk (by decide)
  exact own_far (p:=⟨ks,i*2+1,none⟩) (own_far (p:=⟨ks,i*2,none⟩) ho hn _) hn _
 refine⟨by rw [List.length_set,List.length_set];exact hlen,fun j hj=>?_⟩
 by_cases e:j=i
 ·subst e
  refine⟨nd,nb,c,hl,?_,?_,far ho⟩
  ·rw [List.getElem?_set_ne (by omega),List.getElem?_set_self (by omega)]
  ·rw [List.getElem?_set_self (by rw [List.length_set];omega)]
 ·obtain⟨nd',nb',c',h1,h2,h3,h4⟩:=h.2 j (by omega)
  refine⟨nd',nb',c',h1,?_,?_,far h4⟩
  ·rw [List.getElem?_set_ne (by omega),List.getElem?_set_ne (by omega)];exact h2
  ·rw [List.getElem?_set_ne (by omega),List.getElem?_set_ne (by omega)];exact h3
def SortR (w:World) (M:Nat) (e:Ending) (w':World):Prop:=∃(lb:Nat) (xs:List Int),e=.returned (.slice (some ⟨lb,0,none⟩) M M)∧w.heap.size≤lb∧lb<w'.heap.size∧Below w.heap.size w w'∧xs.length=M∧InR M xs∧Hid (Rd w' (some ⟨lb,0,none⟩) (I64 xs))
structure SortN (nodes:List GNode) (nd:GNode):Prop where
 len:nd.keys.length=nd.items.length
 key:∀x∈nd.keys,0≤x∧x<(nodes.length:Int)∧LeafT (ndAt nodes x.toNat)
set_option maxRecDepth 20000 in
set_option maxHeartbeats 16000000 in
theorem sorted_any {B g o c:Nat} {nodes:List GNode} {root:Int} (hL:NL 65536 nodes) (k:Nat) (hk:k<nodes.length) (hT:(ndAt nodes k).kind=10→SortN nodes (ndAt nodes k)) (w:World) (hw:LibE w) (hG:GRd w B g o nodes) :
  Calls Tryz.prog 66 #[.agg #[.slice (some ⟨g,o,none⟩) nodes.length c,.int .i64 root],.int .i64 (k:Int)] w (SortR w (ndAt nodes k).items.length):=by
 have h1:Hid (Arr (w.alloc (.cells #[.slice (some ⟨g,o,none⟩) nodes.length c,.int .i64 root] 26)) w.heap.size 26 [.slice (some ⟨g,o,none⟩) nodes.length c,.int .i64 root]):=Arr.new w _ _
 have hB1:Hid (Below w.heap.size w (w.alloc (.cells #[.slice (some ⟨g,o,none⟩) nodes.length c,.int .i64 root] 26))):=(Below.refl _ _).alloc (Nat.le_refl _) _
 have HG:=Lib.hid hG
 have HW:=Lib.hid hw
 have HT:=Lib.hid hT
 have HLk:=Lib.hid (hL k hk)
 have DK:=Lib.hid (fun(w':World) (h':GRd w' B g o nodes) (x:Nat) (hx:x<nodes.length) (h1:(ndAt nodes x).keys = []) (h2:(ndAt nodes x).items = [])=>key_any (c:=c) (root:=root) x hx h1 h2 w' h')
 have hmf:∀(fn:Fn) (first cap:Array Value) (w:World),(Instr.makeFunc fn first cap).run Tryz.prog w=.ok (.func fn first cap) w:=fun _ _ _ _=>rfl
 clear hG hw hT
 go_enter Tryz.func66,Tryz.ntmps66
 go_upto_region 1 with(fail)
 generalize w.alloc (.cells #[.slice (some ⟨g,o,none⟩) nodes.length c,.int .i64 root] 26)=W at *
 obtain⟨n,hn⟩:∃n,nodes.length=n:=⟨_,rfl⟩
 obtain⟨gb,hgb⟩:∃b,w.heap.size=b:=⟨_,rfl⟩
 have hgbl:=h1.out.lt
 rw [hgb] at h1 hgbl hB1 ⊢
 rw [hn] at h1 hk DK
 have HN:=Lib.hid hn
 have HGB:=Lib.hid hgb
 clear hn hgb
 have k0:(0:Int)≤k:=by omega
 have k1:(k:Int)<n:=by omega
 have hG1:=Lib.hid (HG.out.below hB1.out (by have:=HG.out.2.1;have:=HGB.out;omega))
 obtain⟨K,ck,I,ci,c0,c1,c2,c3,c4,⟨hK,hKb⟩,_⟩:=hG1.out.of_at (i:=k) (by have:=HN.out;omega)
 have x0:=h1.out.cell' (i:=0) rfl
 obtain⟨hlk,hli⟩:=HLk.out
 have HK:=Lib.hid hK
 have HKB:=Lib.hid hKb
 clear hK hKb HLk
 generalize hnd:ndAt nodes k=nd at *
 clear hnd
 have hND:Hid (Arr (W.alloc (.cells #[.int .i64 nd.kind,.string (mks nd.text),.bool nd.ord,.slice K nd.keys.length ck,.slice I nd.items.length ci] 30)) W.heap.size 30 [.int .i64 nd.kind,.string (mks nd.text),.bool nd.ord,.slice K nd.keys.length ck,.slice I nd.items.length ci]):=Arr.new W _ _
 have hbn:Hid (Below W.heap.size W (W.alloc (.cells #[.int .i64 nd.kind,.string (mks nd.text),.bool nd.ord,.slice K nd.keys.length ck,.slice I nd.items.length ci] 30))):=(Below.refl _ _).alloc (Nat.le_refl _) _
 go_upto_region 2 with(fail)
 clear c0 c1 c2 c3 c4 x0
 generalize (W.alloc (.cells #[.int .i64 nd.kind,.string (mks nd.text),.bool nd.ord,.slice K nd.keys.length ck,.slice I nd.items.length ci] 30))=w2 at *
 obtain⟨nb,hnb⟩:∃b,W.heap.size=b:=⟨_,rfl⟩
 rw [hnb] at hND hgbl ⊢
 have hB2:=Lib.hid (hB1.out.trans (hbn.out.mono (by omega)))
 have h2:=Lib.hid (h1.out.keep hbn.out)
 have HK2:=Lib.hid (HK.out.keep hbn.out)
 clear hnb hbn h1 hB1 HK hG1
 obtain⟨M,hM⟩:∃M,nd.items.length=M:=⟨_,rfl⟩
 rw [hM] at hND hli ⊢
 have HMM:=Lib.hid hM
 clear hM
 have n4:=hND.out.cell' (i:=4) rfl
 go_upto_region 3 with(at_make;go_loud (refine wpList_mk rfl _ _ 28 rfl 3 _ _ Tryz.underlying28 infoInt rfl _ _ _ _ rfl rfl M M (by omega) (by omega) (by omega) (by omega) (by unfold maxLen;omega) ?_;intro lb w3 hlb hLb hb3 hz3))
 clear n4
 have hlz:Hid (Arr w3 lb 3 (I64 (rngI 0 ++ List.replicate (M - 0) 0))):=by rw [Nat.sub_zero];show Hid (Arr w3 lb 3 (I64 (List.replicate M 0)));rw [←I64_rep];exact hLb
 have hB3:=Lib.hid (hB2.out.trans (hb3.mono (by have:=hB2.out.size;have:=HGB.out;omega)))
 have h3:=Lib.hid (h2.out.keep hb3)
 have hND3:=Lib.hid (hND.out.keep hb3)
 have HK3:=Lib.hid (HK2.out.keep hb3)
 have l1:nb<lb:=by have:=hND.out.lt;have:=hlb.out;omega
 clear hLb hz3 hb3 h2 hND HK2 hlb hB2
 go_upto_region 4 with(fail)
 go_loopw [22] (fun v wr=>∃(i:Nat),i≤M∧v=.int .i64 (i:Int)∧Hid (Arr wr lb 3 (I64 (rngI i ++ List.replicate (M - i) 0)))∧Hid (Below gb w wr)∧w3.grownBy wr (some lb)) (fun v _=>M - (intOf v).toNat)
 case atStart=>exact⟨0,Nat.zero_le _,rfl,hlz,hB3,World.grownBy.refl _ _⟩
 case round=>
  obtain⟨i,hi,rfl,hLr,hBr,hgr⟩:=hrel
  by_cases him:i=M
  ·have hi':¬(i:Int)<M:=by omega
   have hL4:Hid (Arr wr lb 3 (I64 (rngI M))):=by
    have:=hLr.out
    rw [him,Nat.sub_self,List.replicate_zero,List.append_nil] at this
    exact this
   have h4:=Lib.hid (h3.out.grown hgr (some_ne (by omega)))
   have hND4:=Lib.hid (hND3.out.grown hgr (some_ne (by omega)))
   have HK4:=Lib.hid (HK3.out.grown hgr (fun ad e e2=>by have:=HKB.out ad e;have:=Option.some.inj e2;have:=HG.out.2.1;have:=HGB.out;omega))
   have l2:lb<wr.heap.size:=hL4.out.lt
   obtain⟨w4,hw4⟩:∃x:World,x=wr:=⟨_,rfl⟩
   subst hw4
   clear hLr hgr him hi hlz hB3 h3 hND3 HK3
   have hRet:Hid (SortR w nd.items.length (.returned (.slice (some ⟨lb,0,none⟩) M M)) w4):=by
    show SortR _ _ _ _
    rw [HMM.out]
    exact⟨lb,rngI M,rfl,by have:=HGB.out;omega,l2,by rw [HGB.out];exact hBr.out,rngI_len M,rngI_in M,hL4.out.rd⟩
   have n0:=hND4.out.cell' (i:=0) rfl
   have n2:=hND4.out.cell' (i:=2) rfl
   by_cases hkd:nd.kind=10
   ·cases hod:nd.ord with
    | true=>
     rw [hkd] at n0
     rw [hod] at n2
     go_wp2_with (fail)
     go_ret
     exact hRet.out
    | false=>
     obtain⟨hkl,hkx⟩:=HT.out hkd
     rw [hkd] at n0
     rw [hod] at n2
     have e:nd.keys.length=M:=hkl.trans HMM.out
     rw [e] at hND4
     have HKX:=Lib.hid hkx
     have HKL:=Lib.hid e
     have n3:=hND4.out.cell' (i:=3) rfl
     clear hkl hkx e hkd hod HT
     go_upto_region 10 with(fail)
     clear n0 n2
     go_upto_region 11 with(at_make;go_loud (refine wpList_mkN rfl _ _ 152 rfl 26 _ 2 _ Tryz.underlying152 infoGr _ _ _ _ rfl rfl M M (by omega) (by omega) (by omega) (by omega) (by unfold maxLen;omega) ?_;intro ks w5 cs hks hC hcl hb5 hz5))
     clear n3
     have hB5:=Lib.hid (hBr.out.trans (hb5.mono (by have:=hBr.out.size;have:=HGB.out;omega)))
     have hX6:Hid (Arr (w5.alloc (.cells #[.slice (some ⟨ks,0,none⟩) M M] 152)) w5.heap.size 152 [.slice (some ⟨ks,0,none⟩) M M]):=Arr.new w5 _ _
     have hb6:Hid (Below w5.heap.size w5 (w5.alloc (.cells #[.slice (some ⟨ks,0,none⟩) M M] 152))):=(Below.refl _ _).alloc (Nat.le_refl _) _
     have hC6:=Lib.hid (hC.out.keep hb6.out)
     have hL6:=Lib.hid ((hL4.out.keep hb5).keep hb6.out)
     have h6:=Lib.hid ((h4.out.keep hb5).keep hb6.out)
     have hND6:=Lib.hid ((hND4.out.keep hb5).keep hb6.out)
     have HK6:=Lib.hid ((HK4.out.keep hb5).keep hb6.out)
     have hB6:=Lib.hid (hB5.out.trans (hb6.out.mono (by have:=hB5.out.size;have:=HGB.out;omega)))
     have l3:lb<ks:=by have:=hks.out;omega
     generalize (w5.alloc (.cells #[.slice (some ⟨ks,0,none⟩) M M] 152))=w6 at *
     obtain⟨kb,hkb⟩:∃b,w5.heap.size=b:=⟨_,rfl⟩
     rw [hkb] at hX6 ⊢
     have l4:ks<kb:=by have:=hC.out.lt;omega
     have hKL0:Hid (KeyL w6 (lb+1) M 0 cs):=⟨hcl.out,fun j hj=>by omega⟩
     clear hks hC hcl hb5 hz5 hb6 hL4 h4 hND4 HK4 hBr hkb hB5 hRet
     have n3:=hND6.out.cell' (i:=3) rfl
     go_upto_region 12 with(fail)
     clear n3
     go_loopw [45] (fun v wr=>∃(i:Nat) (cs:List Value),i≤M∧v=.int .i64 (i:Int)∧Hid (Arr wr ks 26 cs)∧Hid (KeyL wr (lb+1) M i cs)∧Hid (Below gb w wr)∧w6.grownBy wr (some ks)) (fun v _=>M - (intOf v).toNat)
     case atStart=>exact⟨0,cs,Nat.zero_le _,rfl,hC6,hKL0,hB6,World.grownBy.refl _ _⟩
     case round=>
      obtain⟨i,cs,hi,rfl,hCr,hKr,hBr,hgr⟩:=hrel
      have hXr:=Lib.hid (hX6.out.grown hgr (some_ne (by omega)))
      have hr:=Lib.hid (h6.out.grown hgr (some_ne (by omega)))
      have hwr:=Lib.hid (HW.out.keep (by rw [HGB.out];exact hBr.out))
      by_cases him:i=M
      ·have hi':¬(i:Int)<M:=by omega
       have hLr:=Lib.hid (hL6.out.grown hgr (some_ne (by omega)))
       have hKM:Hid (KeyL wr (lb+1) M M cs):=by rw [←him];rw [him];rw [him] at hKr;exact hKr
       obtain⟨w8,hw8⟩:∃x:World,x=wr:=⟨_,rfl⟩
       subst hw8
       have hgood:KeysW w8.heap.size lb gb ks kb M w w8:=by
        refine⟨hwr.out,hBr.out,hXr.out.cell' (i:=0) rfl,⟨hXr.out.lt,by omega,hCr.out.lt,by omega⟩,fun q hq=>?_⟩
        obtain⟨nd',nb',c',q1,q2,q3,q4⟩:=hKM.out.2 q hq
        have e1:=hCr.out.cell' q2
        refine⟨nd',q1,⟨nb',c',e1,hCr.out.cell' q3,q4⟩,fun nb2 c2 e=>?_⟩
        rw [e1] at e
        injection e with e
        injection e with e1
        injection e1 with e1
        injection e1 with e1
        subst e1
        exact(q4.lt nb' rfl).2
       have hst:∀w' w'',KeysW w8.heap.size lb gb ks kb M w w'→KP w8.heap.size lb w' w''→KeysW w8.heap.size lb gb ks kb M w w'':=fun w' w'' h1 h2=>h1.keep (HGB.out.symm) HW.out (by have:=hBr.out.size;have:=HGB.out;omega) (by omega) h2
       have hown:w8.ownsRow lb 3 1 (.slice (some ⟨lb,0,none⟩) M M) M (I64 (rngI M)):=by
        have h:=arr_own hLr.out (Nat.le_refl lb) (Nat.le_refl M) (by unfold I64;rw [List.length_map,rngI_len]) (by unfold maxLen;omega)
        rw [List.take_of_length_le (by unfold I64;rw [List.length_map,rngI_len];exact Nat.le_refl _)] at h
        exact h
       have D:=Lib.hid (merge_any (K:=lb) (kb:=kb) (g0:=lb) hst less_any M (rngI M) lb M w8 (rngI_len M) (rngI_in M) hli hgood (Nat.le_refl _) (.inl rfl) (Nat.le_refl _) hown)
       clear hgood hst hown hKM hKr hCr him hi
       go_upto_region 17 with(go_at_call 99;((with_reducible refine D.out.mono ?_));rintro e w9 ⟨rfl,xs,hxl,hxi,ho9,hg9⟩)
       have hRet:Hid (SortR w nd.items.length (.returned (.slice (some ⟨lb,0,none⟩) M M)) w9):=by
        show SortR _ _ _ _
        rw [HMM.out]
        exact⟨lb,xs,rfl,by have:=HGB.out;omega,(ho9.lt lb rfl).2,by rw [HGB.out];exact below_row hBr.out hg9 (by have:=hBr.out.size;have:=HGB.out;omega) (by omega),hxl,hxi,fun j u hj=>⟨_,rfl,ho9.cells (g:=lb) rfl j u hj⟩⟩
       go_wp2_with (fail)
       go_ret
       exact hRet.out
      ·have hi':(i:Int)<M:=by omega
       have i0:(0:Int)≤i:=by omega
       obtain⟨x,hx⟩:∃x,nd.keys[i]? = some x:=⟨_,List.getElem?_eq_getElem (by have:=HKL.out;omega)⟩
       obtain⟨ad,rfl,ha⟩:=(HK6.out.grown hgr (fun ad e e2=>by have:=HKB.out ad e;have:=Option.some.inj e2;have:=HG.out.2.1;have:=HGB.out;omega)).at_ (I64_get hx)
       obtain⟨y1,y2,hlf⟩:=HKX.out x (List.mem_of_getElem? hx)
       obtain⟨kx,rfl⟩:∃kx:Nat,x=(kx:Int):=⟨x.toNat,by omega⟩
       rw [Int.toNat_natCast] at hlf
       have HLF:=Lib.hid hlf
       have hkx:kx<n:=by have:=HN.out;omega
       have hGr:=HG.out.below hBr.out (by have:=HG.out.2.1;have:=HGB.out;omega)
       have D:=Lib.hid (DK.out wr.drew (hGr.below (Below.refl _ _).drew hGr.2.1) kx hkx hlf.keys hlf.items)
       obtain⟨u0,hu0⟩:∃u,cs[i*2]? = some u:=⟨_,List.getElem?_eq_getElem (by have:=hKr.out.1;omega)⟩
       obtain⟨u1,hu1⟩:∃u,cs[i*2+1]? = some u:=⟨_,List.getElem?_eq_getElem (by have:=hKr.out.1;omega)⟩
       have b0:wr.drew.cell? ⟨kb,0,none⟩=some (.slice (some ⟨ks,0,none⟩) M M):=hXr.out.cell' (i:=0) rfl
       have b1:wr.drew.cell? ⟨gb,0,none⟩=some (.slice (some ⟨g,o,none⟩) n c):=hr.out.cell' (i:=0) rfl
       have b2:wr.drew.cell? ⟨gb,1,none⟩=some (.int .i64 root):=hr.out.cell' (i:=1) rfl
       have m1:ks≠kb:=by omega
       have m2:ks≠gb:=by omega
       clear hx y1 y2 hlf hGr
       go_upto_region 14 with(fail)
       clear ha
       go_region_held3 (fun w'=>w'.cell? ⟨kb,0,none⟩=some (.slice (some ⟨ks,0,none⟩) M M)∧w'.cell? ⟨gb,0,none⟩=some (.slice (some ⟨g,o,none⟩) n c)∧w'.cell? ⟨gb,1,none⟩=some (.int .i64 root)) (first | exact⟨by assumption,by assumption,by assumption⟩ | exact⟨(World.cell?_setCell_far _ _ _ _ m1).trans ((World.cell?_setCell_far _ _ _ _ m1).trans (by assumption)),(World.cell?_setCell_far _ _ _ _ m2).trans ((World.cell?_setCell_far _ _ _ _ m2).trans (by assumption)),(World.cell?_setCell_far _ _ _ _ m2).trans ((World.cell?_setCell_far _ _ _ _ m2).trans (by assumption))⟩ | go_keep)
        ((go_at_call 98;((with_reducible refine D.out.mono ?_));rintro e w7 ⟨nb2,c2,rfl,ho7,hb7⟩;have d0:=(hb7.cell (block_lt_of_cell b0)).trans b0;have d1:=(hb7.cell (block_lt_of_cell b1)).trans b1;have d2:=(hb7.cell (block_lt_of_cell b2)).trans b2;have hC7:Hid (Arr w7 ks 26 cs):=Arr.keep (w:=wr.drew) hCr.out hb7;have e0:=hC7.out.cell' hu0;have e1:=hC7.out.cell' hu1;have f0:=hC7.out.frozen (i*2);have f1:=hC7.out.frozen (i*2+1)))
       have hK9:Hid (KeyL ((w7.setCell ⟨ks,i*2,none⟩ (.slice (some ⟨nb2,0,none⟩) 1 c2)).setCell ⟨ks,i*2+1,none⟩ (.int .i64 0)) (lb+1) M (i+1) ((cs.set (i*2) (.slice (some ⟨nb2,0,none⟩) 1 c2)).set (i*2+1) (.int .i64 0))):=
        KeyL.put (KeyL.keep (w:=wr.drew) hKr.out hb7) (by omega) hC7.out HLF.out (own_lo ho7 (show lb+1≤wr.heap.size by have:=hCr.out.lt;omega))
       have hC9:Hid (Arr ((w7.setCell ⟨ks,i*2,none⟩ (.slice (some ⟨nb2,0,none⟩) 1 c2)).setCell ⟨ks,i*2+1,none⟩ (.int .i64 0)) ks 26 ((cs.set (i*2) (.slice (some ⟨nb2,0,none⟩) 1 c2)).set (i*2+1) (.int .i64 0))):=(hC7.out.store _ _).store _ _
       have hB7:Below gb w w7:=hBr.out.drew.trans (hb7.mono (by have:=hBr.out.size;have:=HGB.out;show gb≤wr.heap.size;omega))
       have hB9:=Lib.hid ((hB7.setCell (p:=⟨ks,i*2,none⟩) (show gb≤ks by omega) (.slice (some ⟨nb2,0,none⟩) 1 c2)).setCell (p:=⟨ks,i*2+1,none⟩) (show gb≤ks by omega) (.int .i64 0))
       have hg9:Hid (w6.grownBy ((w7.setCell ⟨ks,i*2,none⟩ (.slice (some ⟨nb2,0,none⟩) 1 c2)).setCell ⟨ks,i*2+1,none⟩ (.int .i64 0)) (some ks)):=by
        have h1:wr.grownBy w7 (some ks):=⟨hb7.os,hb7.tape,hb7.output,hb7.size,fun j hj _=>hb7.block j hj⟩
        exact grown_trans (grown_trans (grown_trans hgr h1) (grown_set w7 ⟨ks,i*2,none⟩ _)) (grown_set _ ⟨ks,i*2+1,none⟩ _)
       clear d0 d1 d2 e0 e1 f0 f1 b0 b1 b2 hC7 hKr hCr hgr hBr hXr hr hwr HLF D
       go_wp2_with (fail)
       go_roundw
       case rel=>exact⟨i+1,_,by omega,i64e (by omega),hC9,hK9,hB9,hg9.out⟩
       case measure=>simp [intOf];omega
   ·have hk2:(nd.kind != 10)=true:=by simpa using hkd
    go_wp2_with (fail)
    go_ret
    exact hRet.out
  ·have hi':(i:Int)<M:=by omega
   have i0:(0:Int)≤i:=by omega
   have p0:wr.cell? ⟨lb,i,none⟩=some (.int .i64 0):=hLr.out.cell' (i:=i) (by
    unfold I64
    rw [List.getElem?_map,List.getElem?_append_right (by rw [rngI_len];exact Nat.le_refl _),rngI_len,Nat.sub_self,List.getElem?_replicate,if_pos (by omega)];rfl)
   have pf:=hLr.out.frozen i
   have hL5:Hid (Arr (wr.setCell ⟨lb,i,none⟩ (.int .i64 (i:Int))) lb 3 (I64 (rngI (i+1) ++ List.replicate (M - (i+1)) 0))):=by
    have h:=hLr.out.store i (.int .i64 (i:Int))
    rw [I64_set,rng_set (by omega)] at h
    exact h
   have hB5:=Lib.hid (hBr.out.setCell (p:=⟨lb,i,none⟩) (show gb≤lb by omega) (.int .i64 (i:Int)))
   have hg5:=Lib.hid (grown_trans hgr (grown_set wr ⟨lb,i,none⟩ (.int .i64 (i:Int))))
   clear hLr
   go_wp2_with (fail)
   go_roundw
   case rel=>exact⟨i+1,by omega,i64e (by omega),hL5,hB5,hg5.out⟩
   case measure=>simp [intOf];omega
end Go.Proofs.YtnnnagnjikdnnaaGreatDoor
