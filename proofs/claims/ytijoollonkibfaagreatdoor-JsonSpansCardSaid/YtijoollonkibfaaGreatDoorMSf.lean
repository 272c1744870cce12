/- The walk of the comparison of share's sorted. -/
import Derived.Test.YtijoollonkibfaaGreatDoorMSe
import Derived.Test.YtijoollonkibfaaGreatDoorMSd
import Derived.Test.YtijoollonkibfaaGreatDoorMGd
set_option linter.unusedVariables false
set_option linter.unusedSimpArgs false
set_option linter.defProp false
set_option linter.constructorNameAsVariable false
namespace Go.Proofs.YtijoollonkibfaaGreatDoor
open Go.RowKit
structure LeafT (nd:GNode):Prop where
 ok:ChkOK [nd] 0
 keys:nd.keys = []
 items:nd.items = []
 kind:nd.kind=5
 ord:nd.ord=false
def KeyM (w:World) (B ks i:Nat) (nd:GNode):Prop:=∃nb c,w.cell? ⟨ks,i*2,none⟩=some (.slice (some ⟨nb,0,none⟩) 1 c)∧w.cell? ⟨ks,i*2+1,none⟩=some (.int .i64 0)∧w.ownsRow B 40 5 (.slice (some ⟨nb,0,none⟩) 1 c) 1 (kleafC nd)
structure KeysW (N0 g0 B ks kb m:Nat) (wb w:World):Prop where
 lib:LibE w
 lo:Below B wb w
 box:w.cell? ⟨kb,0,none⟩=some (.slice (some ⟨ks,0,none⟩) m m)
 bl:kb<N0∧kb≠g0∧ks<N0∧ks≠g0
 key:∀i,i<m→∃nd,LeafT nd∧KeyM w (g0+1) ks i nd∧(∀nb c,w.cell? ⟨ks,i*2,none⟩=some (.slice (some ⟨nb,0,none⟩) 1 c)→nb<N0)
theorem KeysW.keep {N0 g0 B ks kb m:Nat} {wb w w':World} (h:KeysW N0 g0 B ks kb m wb w) (hB:B=wb.heap.size) (hE:LibE wb) (h1:B≤N0) (h2:B≤g0) (hk:KP N0 g0 w w'):KeysW N0 g0 B ks kb m wb w' where
 lib:=by
  have:=h.lo.trans (hk.below h1 h2)
  rw [hB] at this
  exact hE.keep this
 lo:=h.lo.trans (hk.below h1 h2)
 box:=hk.cell h.box h.bl.1 h.bl.2.1
 bl:=h.bl
 key:=fun i hi=>by
  obtain⟨nd,hl,⟨nb,c,k0,k1,k2⟩,hn⟩:=h.key i hi
  have q0:=hk.cell k0 h.bl.2.2.1 h.bl.2.2.2
  refine⟨nd,hl,⟨nb,c,q0,hk.cell k1 h.bl.2.2.1 h.bl.2.2.2,hk.own k2 fun g e=>?_⟩,fun nb' c' e=>?_⟩
  ·have:=Option.some.inj e
   subst this
   exact⟨hn _ _ k0,by have h3:g0+1≤nb:=(k2.lt nb rfl).1;show nb≠g0;omega⟩
  ·rw [q0] at e
   injection e with e
   injection e with e1 e2 e3
   injection e1 with e1
   injection e1 with e1
   subst e1
   exact hn _ _ k0
set_option maxRecDepth 20000 in
set_option maxHeartbeats 8000000 in
theorem less_any {N0 g0 B ks kb m:Nat} {wb:World}:LessOK (KeysW N0 g0 B ks kb m wb) m N0 kb:=by
 intro W a b hg hN ha hb
 obtain⟨na,la,⟨nba,ca,p0,p1,p2⟩,_⟩:=hg.key a ha
 obtain⟨nb,lb,⟨nbb,cb,q0,q1,q2⟩,_⟩:=hg.key b hb
 have hGa:Hid (GRd W W.heap.size nba 0 [na]):=grd_one p2 la.keys la.items
 have hGb:Hid (GRd W W.heap.size nbb 0 [nb]):=grd_one q2 lb.keys lb.items
 have x0:W.drew.cell? ⟨kb,0,none⟩=some (.slice (some ⟨ks,0,none⟩) m m):=hg.box
 have y0:W.drew.cell? ⟨ks,a*2,none⟩=some (.slice (some ⟨nba,0,none⟩) 1 ca):=p0
 have y1:W.drew.cell? ⟨ks,a*2+1,none⟩=some (.int .i64 0):=p1
 have z0:W.drew.cell? ⟨ks,b*2,none⟩=some (.slice (some ⟨nbb,0,none⟩) 1 cb):=q0
 have z1:W.drew.cell? ⟨ks,b*2+1,none⟩=some (.int .i64 0):=q1
 have D:=Lib.hid (cCompare_leaf (ca:=ca) (cb:=cb) la.ok lb.ok la.items la.kind la.ord lb.items lb.kind lb.ord W.drew (hg.lib.keep (Below.refl _ _).drew) (hGa.out.below (Below.refl _ _).drew (Nat.le_refl _)) (hGb.out.below (Below.refl _ _).drew (Nat.le_refl _)))
 have a0:(0:Int)≤(a:Int):=by omega
 have b0:(0:Int)≤(b:Int):=by omega
 have a1:(a:Int)<m:=by omega
 have b1:(b:Int)<m:=by omega
 clear hg la lb p0 p1 p2 q0 q1 q2 hGa hGb
 go_enter Tryz.func87,Tryz.ntmps87
 go_upto_region 1 with(fail)
 go_region_held3 (fun w'=>w'.cell? ⟨kb,0,none⟩=some (.slice (some ⟨ks,0,none⟩) m m)∧w'.cell? ⟨ks,a*2,none⟩=some (.slice (some ⟨nba,0,none⟩) 1 ca)∧w'.cell? ⟨ks,a*2+1,none⟩=some (.int .i64 0)∧w'.cell? ⟨ks,b*2,none⟩=some (.slice (some ⟨nbb,0,none⟩) 1 cb)∧w'.cell? ⟨ks,b*2+1,none⟩=some (.int .i64 0)) (first | exact⟨by assumption,by assumption,by assumption,by assumption,by assumption⟩ | go_keep)
  ((go_at_call 88;((with_reducible refine D.out.mono ?_));rintro e w7 ⟨r,c,rfl,hb7⟩;have k0:=(hb7.cell (block_lt_of_cell x0)).trans x0;have k1:=(hb7.cell (block_lt_of_cell y0)).trans y0;have k2:=(hb7.cell (block_lt_of_cell y1)).trans y1;have k3:=(hb7.cell (block_lt_of_cell z0)).trans z0;have k4:=(hb7.cell (block_lt_of_cell z1)).trans z1))
 go_wp2_with (fail)
 go_ret
 exact⟨_,rfl,(Below.refl _ _).drew.trans hb7⟩
end Go.Proofs.YtijoollonkibfaaGreatDoor
namespace Go.Proofs.YtijoollonkibfaaGreatDoor
open Go.RowKit
def rngI (n:Nat):List Int:=(List.range n).map Int.ofNat
theorem rngI_len (n:Nat):(rngI n).length=n:=by simp [rngI]
theorem rngI_succ (n:Nat):rngI (n+1)=rngI n ++ [(n:Int)]:=by unfold rngI;rw [List.range_succ,List.map_append];rfl
theorem rngI_in (n:Nat):InR n (rngI n):=fun x hx=>by
 unfold rngI at hx
 obtain⟨i,hi,rfl⟩:=List.mem_map.1 hx
 have:=List.mem_range.1 hi
 exact⟨Int.natCast_nonneg _,by show(i:Int)<n;omega⟩
theorem rng_set {n i:Nat} (h:i<n):(rngI i ++ List.replicate (n - i) 0).set i (i:Int)=rngI (i+1) ++ List.replicate (n - (i+1)) 0:=by
 have hl:=rngI_len i
 rw [show n - i=(n - (i+1))+1 by omega,List.replicate_succ,List.set_append_right _ _ (by omega),hl,Nat.sub_self,List.set_cons_zero,rngI_succ]
 simp
theorem infoGr:(Tryz.prog.info? 25).map (fun i=>(i.zero,i.size,i.bytes))=some (some (.agg #[.slice none 0 0,.int .i64 0]),2,32):=by kernel_rfl
def KeyL (w:World) (G m i:Nat) (cs:List Value):Prop:=cs.length=m*2∧∀j,j<i→∃nd nb c,LeafT nd∧cs[j*2]? = some (.slice (some ⟨nb,0,none⟩) 1 c)∧cs[j*2+1]? = some (.int .i64 0)∧w.ownsRow G 40 5 (.slice (some ⟨nb,0,none⟩) 1 c) 1 (kleafC nd)
theorem KeyL.keep {w w':World} {G m i:Nat} {cs:List Value} (h:KeyL w G m i cs) (hb:Below w.heap.size w w'):KeyL w' G m i cs:=
 ⟨h.1,fun j hj=>by
  obtain⟨nd,nb,c,h1,h2,h3,h4⟩:=h.2 j hj
  exact⟨nd,nb,c,h1,h2,h3,own_below h4 hb⟩⟩
theorem KeyL.put {w:World} {G m i ks nb c:Nat} {cs us:List Value} {nd:GNode} (h:KeyL w G m i cs) (hi:i<m) (hk:Arr w ks 25 us) (hl:LeafT nd) (ho:w.ownsRow G 40 5 (.slice (some ⟨nb,0,none⟩) 1 c) 1 (kleafC nd)) :
  KeyL ((w.setCell ⟨ks,i*2,none⟩ (.slice (some ⟨nb,0,none⟩) 1 c)).setCell ⟨ks,i*2+1,none⟩ (.int .i64 0)) G m (i+1) ((cs.set (i*2) (.slice (some ⟨nb,0,none⟩) 1 c)).set (i*2+1) (.int .i64 0)):=by
 have hlen:=h.1
 have far:∀{v:Value} {n:Nat} {xs:List Value},w.ownsRow G 40 5 v n xs→((w.setCell ⟨ks,i*2,none⟩ (.slice (some ⟨nb,0,none⟩) 1 c)).setCell ⟨ks,i*2+1,none⟩ (.int .i64 0)).ownsRow G 40 5 v n xs:=fun ho=>by
  have hn:=own_arr ho hk (by decide)
  exact own_far (p:=⟨ks,i*2+1,none⟩) (own_far (p:=⟨ks,i*2,none⟩) ho hn _) hn _
 refine⟨by rw [List.length_set,List.length_set];exact hlen,fun j hj=>?_⟩
 by_cases e:j=i
 ·subst e
  refine⟨nd,nb,c,hl,?_,?_,far ho⟩
  ·rw [List.getElem?_set_ne (by omega),List.getElem?_set_self (by omega)]
  ·rw [List.getElem?_set_self (by rw [List.length_set];omega)]
 ·obtain⟨nd',nb',c',h1,h2,h3,h4⟩:=h.2 j (by omega)
  refine⟨nd',nb',c',h1,?_,?_,far h4⟩
  ·rw [List.getElem?_set_ne (by omega),List.getElem?_set_ne (by omega)];exact h2
  ·rw [List.getElem?_set_ne (by omega),List.getElem?_set_ne (by omega)];exact h3
def SortR (w:World) (M:Nat) (e:Ending) (w':World):Prop:=∃(lb:Nat) (xs:List Int),e=.returned (.slice (some ⟨lb,0,none⟩) M M)∧w.heap.size≤lb∧lb<w'.heap.size∧Below w.heap.size w w'∧xs.length=M∧InR M xs∧Hid (Rd w' (some ⟨lb,0,none⟩) (I64 xs))
structure SortN (nodes:List GNode) (nd:GNode):Prop where
 len:nd.keys.length=nd.items.length
 key:∀x∈nd.keys,0≤x∧x<(nodes.length:Int)∧LeafT (ndAt nodes x.toNat)
set_option maxRecDepth 20000 in
set_option maxHeartbeats 16000000 in
theorem sorted_any {B g o c:Nat} {nodes:List GNode} {root:Int} (hL:NL 65536 nodes) (k:Nat) (hk:k<nodes.length) (hT:(ndAt nodes k).kind=10→SortN nodes (ndAt nodes k)) (w:World) (hw:LibE w) (hG:GRd w B g o nodes) :
  Calls Tryz.prog 62 #[.agg #[.slice (some ⟨g,o,none⟩) nodes.length c,.int .i64 root],.int .i64 (k:Int)] w (SortR w (ndAt nodes k).items.length):=by
 have h1:Hid (Arr (w.alloc (.cells #[.slice (some ⟨g,o,none⟩) nodes.length c,.int .i64 root] 25)) w.heap.size 25 [.slice (some ⟨g,o,none⟩) nodes.length c,.int .i64 root]):=Arr.new w _ _
 have hB1:Hid (Below w.heap.size w (w.alloc (.cells #[.slice (some ⟨g,o,none⟩) nodes.length c,.int .i64 root] 25))):=(Below.refl _ _).alloc (Nat.le_refl _) _
 have HG:=Lib.hid hG
 have HW:=Lib.hid hw
 have HT:=Lib.hid hT
 have HLk:=Lib.hid (hL k hk)
 have DK:=Lib.hid (fun(w':World) (h':GRd w' B g o nodes) (x:Nat) (hx:x<nodes.length) (h1:(ndAt nodes x).keys = []) (h2:(ndAt nodes x).items = [])=>key_any (c:=c) (root:=root) x hx h1 h2 w' h')
 have hmf:∀(fn:Fn) (first cap:Array Value) (w:World),(Instr.makeFunc fn first cap).run Tryz.prog w=.ok (.func fn first cap) w:=fun _ _ _ _=>rfl
 clear hG hw hT
 go_enter Tryz.func62,Tryz.ntmps62
 go_upto_region 1 with(fail)
 generalize w.alloc (.cells #[.slice (some ⟨g,o,none⟩) nodes.length c,.int .i64 root] 25)=W at *
 obtain⟨n,hn⟩:∃n,nodes.length=n:=⟨_,rfl⟩
 obtain⟨gb,hgb⟩:∃b,w.heap.size=b:=⟨_,rfl⟩
 have hgbl:=h1.out.lt
 rw [hgb] at h1 hgbl hB1 ⊢
 rw [hn] at h1 hk DK
 have HN:=Lib.hid hn
 have HGB:=Lib.hid hgb
 clear hn hgb
 have k0:(0:Int)≤k:=by omega
 have k1:(k:Int)<n:=by omega
 have hG1:=Lib.hid (HG.out.below hB1.out (by have:=HG.out.2.1;have:=HGB.out;omega))
 obtain⟨K,ck,I,ci,c0,c1,c2,c3,c4,⟨hK,hKb⟩,_⟩:=hG1.out.of_at (i:=k) (by have:=HN.out;omega)
 have x0:=h1.out.cell' (i:=0) rfl
 obtain⟨hlk,hli⟩:=HLk.out
 have HK:=Lib.hid hK
 have HKB:=Lib.hid hKb
 clear hK hKb HLk
 generalize hnd:ndAt nodes k=nd at *
 clear hnd
 have hND:Hid (Arr (W.alloc (.cells #[.int .i64 nd.kind,.string (mks nd.text),.bool nd.ord,.slice K nd.keys.length ck,.slice I nd.items.length ci] 40)) W.heap.size 40 [.int .i64 nd.kind,.string (mks nd.text),.bool nd.ord,.slice K nd.keys.length ck,.slice I nd.items.length ci]):=Arr.new W _ _
 have hbn:Hid (Below W.heap.size W (W.alloc (.cells #[.int .i64 nd.kind,.string (mks nd.text),.bool nd.ord,.slice K nd.keys.length ck,.slice I nd.items.length ci] 40))):=(Below.refl _ _).alloc (Nat.le_refl _) _
 go_upto_region 2 with(fail)
 clear c0 c1 c2 c3 c4 x0
 generalize (W.alloc (.cells #[.int .i64 nd.kind,.string (mks nd.text),.bool nd.ord,.slice K nd.keys.length ck,.slice I nd.items.length ci] 40))=w2 at *
 obtain⟨nb,hnb⟩:∃b,W.heap.size=b:=⟨_,rfl⟩
 rw [hnb] at hND hgbl ⊢
 have hB2:=Lib.hid (hB1.out.trans (hbn.out.mono (by omega)))
 have h2:=Lib.hid (h1.out.keep hbn.out)
 have HK2:=Lib.hid (HK.out.keep hbn.out)
 clear hnb hbn h1 hB1 HK hG1
 obtain⟨M,hM⟩:∃M,nd.items.length=M:=⟨_,rfl⟩
 rw [hM] at hND hli ⊢
 have HMM:=Lib.hid hM
 clear hM
 have n4:=hND.out.cell' (i:=4) rfl
 go_upto_region 3 with(at_make;go_loud (refine wpList_mk rfl _ _ 38 rfl 3 _ _ Tryz.underlying38 infoInt rfl _ _ _ _ rfl rfl M M (by omega) (by omega) (by omega) (by omega) (by unfold maxLen;omega) ?_;intro lb w3 hlb hLb hb3 hz3))
 clear n4
 have hlz:Hid (Arr w3 lb 3 (I64 (rngI 0 ++ List.replicate (M - 0) 0))):=by rw [Nat.sub_zero];show Hid (Arr w3 lb 3 (I64 (List.replicate M 0)));rw [←I64_rep];exact hLb
 have hB3:=Lib.hid (hB2.out.trans (hb3.mono (by have:=hB2.out.size;have:=HGB.out;omega)))
 have h3:=Lib.hid (h2.out.keep hb3)
 have hND3:=Lib.hid (hND.out.keep hb3)
 have HK3:=Lib.hid (HK2.out.keep hb3)
 have l1:nb<lb:=by have:=hND.out.lt;have:=hlb.out;omega
 clear hLb hz3 hb3 h2 hND HK2 hlb hB2
 go_upto_region 4 with(fail)
 go_loopw [22] (fun v wr=>∃(i:Nat),i≤M∧v=.int .i64 (i:Int)∧Hid (Arr wr lb 3 (I64 (rngI i ++ List.replicate (M - i) 0)))∧Hid (Below gb w wr)∧w3.grownBy wr (some lb)) (fun v _=>M - (intOf v).toNat)
 case atStart=>exact⟨0,Nat.zero_le _,rfl,hlz,hB3,World.grownBy.refl _ _⟩
 case round=>
  obtain⟨i,hi,rfl,hLr,hBr,hgr⟩:=hrel
  by_cases him:i=M
  ·have hi':¬(i:Int)<M:=by omega
   have hL4:Hid (Arr wr lb 3 (I64 (rngI M))):=by
    have:=hLr.out
    rw [him,Nat.sub_self,List.replicate_zero,List.append_nil] at this
    exact this
   have h4:=Lib.hid (h3.out.grown hgr (some_ne (by omega)))
   have hND4:=Lib.hid (hND3.out.grown hgr (some_ne (by omega)))
   have HK4:=Lib.hid (HK3.out.grown hgr (fun ad e e2=>by have:=HKB.out ad e;have:=Option.some.inj e2;have:=HG.out.2.1;have:=HGB.out;omega))
   have l2:lb<wr.heap.size:=hL4.out.lt
   obtain⟨w4,hw4⟩:∃x:World,x=wr:=⟨_,rfl⟩
   subst hw4
   clear hLr hgr him hi hlz hB3 h3 hND3 HK3
   have hRet:Hid (SortR w nd.items.length (.returned (.slice (some ⟨lb,0,none⟩) M M)) w4):=by
    show SortR _ _ _ _
    rw [HMM.out]
    exact⟨lb,rngI M,rfl,by have:=HGB.out;omega,l2,by rw [HGB.out];exact hBr.out,rngI_len M,rngI_in M,hL4.out.rd⟩
   have n0:=hND4.out.cell' (i:=0) rfl
   have n2:=hND4.out.cell' (i:=2) rfl
   by_cases hkd:nd.kind=10
   ·cases hod:nd.ord with
    | true=>
     rw [hkd] at n0
     rw [hod] at n2
     go_wp2_with (fail)
     go_ret
     exact hRet.out
    | false=>
     obtain⟨hkl,hkx⟩:=HT.out hkd
     rw [hkd] at n0
     rw [hod] at n2
     have e:nd.keys.length=M:=hkl.trans HMM.out
     rw [e] at hND4
     have HKX:=Lib.hid hkx
     have HKL:=Lib.hid e
     have n3:=hND4.out.cell' (i:=3) rfl
     clear hkl hkx e hkd hod HT
     go_upto_region 10 with(fail)
     clear n0 n2
     go_upto_region 11 with(at_make;go_loud (refine wpList_mkN rfl _ _ 129 rfl 25 _ 2 _ Tryz.underlying129 infoGr _ _ _ _ rfl rfl M M (by omega) (by omega) (by omega) (by omega) (by unfold maxLen;omega) ?_;intro ks w5 cs hks hC hcl hb5 hz5))
     clear n3
     have hB5:=Lib.hid (hBr.out.trans (hb5.mono (by have:=hBr.out.size;have:=HGB.out;omega)))
     have hX6:Hid (Arr (w5.alloc (.cells #[.slice (some ⟨ks,0,none⟩) M M] 129)) w5.heap.size 129 [.slice (some ⟨ks,0,none⟩) M M]):=Arr.new w5 _ _
     have hb6:Hid (Below w5.heap.size w5 (w5.alloc (.cells #[.slice (some ⟨ks,0,none⟩) M M] 129))):=(Below.refl _ _).alloc (Nat.le_refl _) _
     have hC6:=Lib.hid (hC.out.keep hb6.out)
     have hL6:=Lib.hid ((hL4.out.keep hb5).keep hb6.out)
     have h6:=Lib.hid ((h4.out.keep hb5).keep hb6.out)
     have hND6:=Lib.hid ((hND4.out.keep hb5).keep hb6.out)
     have HK6:=Lib.hid ((HK4.out.keep hb5).keep hb6.out)
     have hB6:=Lib.hid (hB5.out.trans (hb6.out.mono (by have:=hB5.out.size;have:=HGB.out;omega)))
     have l3:lb<ks:=by have:=hks.out;omega
     generalize (w5.alloc (.cells #[.slice (some ⟨ks,0,none⟩) M M] 129))=w6 at *
     obtain⟨kb,hkb⟩:∃b,w5.heap.size=b:=⟨_,rfl⟩
     rw [hkb] at hX6 ⊢
     have l4:ks<kb:=by have:=hC.out.lt;omega
     have hKL0:Hid (KeyL w6 (lb+1) M 0 cs):=⟨hcl.out,fun j hj=>by omega⟩
     clear hks hC hcl hb5 hz5 hb6 hL4 h4 hND4 HK4 hBr hkb hB5 hRet
     have n3:=hND6.out.cell' (i:=3) rfl
     go_upto_region 12 with(fail)
     clear n3
     go_loopw [45] (fun v wr=>∃(i:Nat) (cs:List Value),i≤M∧v=.int .i64 (i:Int)∧Hid (Arr wr ks 25 cs)∧Hid (KeyL wr (lb+1) M i cs)∧Hid (Below gb w wr)∧w6.grownBy wr (some ks)) (fun v _=>M - (intOf v).toNat)
     case atStart=>exact⟨0,cs,Nat.zero_le _,rfl,hC6,hKL0,hB6,World.grownBy.refl _ _⟩
     case round=>
      obtain⟨i,cs,hi,rfl,hCr,hKr,hBr,hgr⟩:=hrel
      have hXr:=Lib.hid (hX6.out.grown hgr (some_ne (by omega)))
      have hr:=Lib.hid (h6.out.grown hgr (some_ne (by omega)))
      have hwr:=Lib.hid (HW.out.keep (by rw [HGB.out];exact hBr.out))
      by_cases him:i=M
      ·have hi':¬(i:Int)<M:=by omega
       have hLr:=Lib.hid (hL6.out.grown hgr (some_ne (by omega)))
       have hKM:Hid (KeyL wr (lb+1) M M cs):=by rw [←him];rw [him];rw [him] at hKr;exact hKr
       obtain⟨w8,hw8⟩:∃x:World,x=wr:=⟨_,rfl⟩
       subst hw8
       have hgood:KeysW w8.heap.size lb gb ks kb M w w8:=by
        refine⟨hwr.out,hBr.out,hXr.out.cell' (i:=0) rfl,⟨hXr.out.lt,by omega,hCr.out.lt,by omega⟩,fun q hq=>?_⟩
        obtain⟨nd',nb',c',q1,q2,q3,q4⟩:=hKM.out.2 q hq
        have e1:=hCr.out.cell' q2
        refine⟨nd',q1,⟨nb',c',e1,hCr.out.cell' q3,q4⟩,fun nb2 c2 e=>?_⟩
        rw [e1] at e
        injection e with e
        injection e with e1
        injection e1 with e1
        injection e1 with e1
        subst e1
        exact(q4.lt nb' rfl).2
       have hst:∀w' w'',KeysW w8.heap.size lb gb ks kb M w w'→KP w8.heap.size lb w' w''→KeysW w8.heap.size lb gb ks kb M w w'':=fun w' w'' h1 h2=>h1.keep (HGB.out.symm) HW.out (by have:=hBr.out.size;have:=HGB.out;omega) (by omega) h2
       have hown:w8.ownsRow lb 3 1 (.slice (some ⟨lb,0,none⟩) M M) M (I64 (rngI M)):=by
        have h:=arr_own hLr.out (Nat.le_refl lb) (Nat.le_refl M) (by unfold I64;rw [List.length_map,rngI_len]) (by unfold maxLen;omega)
        rw [List.take_of_length_le (by unfold I64;rw [List.length_map,rngI_len];exact Nat.le_refl _)] at h
        exact h
       have D:=Lib.hid (merge_any (K:=lb) (kb:=kb) (g0:=lb) hst less_any M (rngI M) lb M w8 (rngI_len M) (rngI_in M) hli hgood (Nat.le_refl _) (.inl rfl) (Nat.le_refl _) hown)
       clear hgood hst hown hKM hKr hCr him hi
       go_upto_region 17 with(go_at_call 86;((with_reducible refine D.out.mono ?_));rintro e w9 ⟨rfl,xs,hxl,hxi,ho9,hg9⟩)
       have hRet:Hid (SortR w nd.items.length (.returned (.slice (some ⟨lb,0,none⟩) M M)) w9):=by
        show SortR _ _ _ _
        rw [HMM.out]
        exact⟨lb,xs,rfl,by have:=HGB.out;omega,(ho9.lt lb rfl).2,by rw [HGB.out];exact below_row hBr.out hg9 (by have:=hBr.out.size;have:=HGB.out;omega) (by omega),hxl,hxi,fun j u hj=>⟨_,rfl,ho9.cells (g:=lb) rfl j u hj⟩⟩
       go_wp2_with (fail)
       go_ret
       exact hRet.out
      ·have hi':(i:Int)<M:=by omega
       have i0:(0:Int)≤i:=by omega
       obtain⟨x,hx⟩:∃x,nd.keys[i]? = some x:=⟨_,List.getElem?_eq_getElem (by have:=HKL.out;omega)⟩
       obtain⟨ad,rfl,ha⟩:=(HK6.out.grown hgr (fun ad e e2=>by have:=HKB.out ad e;have:=Option.some.inj e2;have:=HG.out.2.1;have:=HGB.out;omega)).at_ (I64_get hx)
       obtain⟨y1,y2,hlf⟩:=HKX.out x (List.mem_of_getElem? hx)
       obtain⟨kx,rfl⟩:∃kx:Nat,x=(kx:Int):=⟨x.toNat,by omega⟩
       rw [Int.toNat_natCast] at hlf
       have HLF:=Lib.hid hlf
       have hkx:kx<n:=by have:=HN.out;omega
       have hGr:=HG.out.below hBr.out (by have:=HG.out.2.1;have:=HGB.out;omega)
       have D:=Lib.hid (DK.out wr.drew (hGr.below (Below.refl _ _).drew hGr.2.1) kx hkx hlf.keys hlf.items)
       obtain⟨u0,hu0⟩:∃u,cs[i*2]? = some u:=⟨_,List.getElem?_eq_getElem (by have:=hKr.out.1;omega)⟩
       obtain⟨u1,hu1⟩:∃u,cs[i*2+1]? = some u:=⟨_,List.getElem?_eq_getElem (by have:=hKr.out.1;omega)⟩
       have b0:wr.drew.cell? ⟨kb,0,none⟩=some (.slice (some ⟨ks,0,none⟩) M M):=hXr.out.cell' (i:=0) rfl
       have b1:wr.drew.cell? ⟨gb,0,none⟩=some (.slice (some ⟨g,o,none⟩) n c):=hr.out.cell' (i:=0) rfl
       have b2:wr.drew.cell? ⟨gb,1,none⟩=some (.int .i64 root):=hr.out.cell' (i:=1) rfl
       have m1:ks≠kb:=by omega
       have m2:ks≠gb:=by omega
       clear hx y1 y2 hlf hGr
       go_upto_region 14 with(fail)
       clear ha
       go_region_held3 (fun w'=>w'.cell? ⟨kb,0,none⟩=some (.slice (some ⟨ks,0,none⟩) M M)∧w'.cell? ⟨gb,0,none⟩=some (.slice (some ⟨g,o,none⟩) n c)∧w'.cell? ⟨gb,1,none⟩=some (.int .i64 root)) (first | exact⟨by assumption,by assumption,by assumption⟩ | exact⟨(World.cell?_setCell_far _ _ _ _ m1).trans ((World.cell?_setCell_far _ _ _ _ m1).trans (by assumption)),(World.cell?_setCell_far _ _ _ _ m2).trans ((World.cell?_setCell_far _ _ _ _ m2).trans (by assumption)),(World.cell?_setCell_far _ _ _ _ m2).trans ((World.cell?_setCell_far _ _ _ _ m2).trans (by assumption))⟩ | go_keep)
        ((go_at_call 85;((with_reducible refine D.out.mono ?_));rintro e w7 ⟨nb2,c2,rfl,ho7,hb7⟩;have d0:=(hb7.cell (block_lt_of_cell b0)).trans b0;have d1:=(hb7.cell (block_lt_of_cell b1)).trans b1;have d2:=(hb7.cell (block_lt_of_cell b2)).trans b2;have hC7:Hid (Arr w7 ks 25 cs):=Arr.keep (w:=wr.drew) hCr.out hb7;have e0:=hC7.out.cell' hu0;have e1:=hC7.out.cell' hu1;have f0:=hC7.out.frozen (i*2);have f1:=hC7.out.frozen (i*2+1)))
       have hK9:Hid (KeyL ((w7.setCell ⟨ks,i*2,none⟩ (.slice (some ⟨nb2,0,none⟩) 1 c2)).setCell ⟨ks,i*2+1,none⟩ (.int .i64 0)) (lb+1) M (i+1) ((cs.set (i*2) (.slice (some ⟨nb2,0,none⟩) 1 c2)).set (i*2+1) (.int .i64 0))):=
        KeyL.put (KeyL.keep (w:=wr.drew) hKr.out hb7) (by omega) hC7.out HLF.out (own_lo ho7 (show lb+1≤wr.heap.size by have:=hCr.out.lt;omega))
       have hC9:Hid (Arr ((w7.setCell ⟨ks,i*2,none⟩ (.slice (some ⟨nb2,0,none⟩) 1 c2)).setCell ⟨ks,i*2+1,none⟩ (.int .i64 0)) ks 25 ((cs.set (i*2) (.slice (some ⟨nb2,0,none⟩) 1 c2)).set (i*2+1) (.int .i64 0))):=(hC7.out.store _ _).store _ _
       have hB7:Below gb w w7:=hBr.out.drew.trans (hb7.mono (by have:=hBr.out.size;have:=HGB.out;show gb≤wr.heap.size;omega))
       have hB9:=Lib.hid ((hB7.setCell (p:=⟨ks,i*2,none⟩) (show gb≤ks by omega) (.slice (some ⟨nb2,0,none⟩) 1 c2)).setCell (p:=⟨ks,i*2+1,none⟩) (show gb≤ks by omega) (.int .i64 0))
       have hg9:Hid (w6.grownBy ((w7.setCell ⟨ks,i*2,none⟩ (.slice (some ⟨nb2,0,none⟩) 1 c2)).setCell ⟨ks,i*2+1,none⟩ (.int .i64 0)) (some ks)):=by
        have h1:wr.grownBy w7 (some ks):=⟨hb7.os,hb7.tape,hb7.output,hb7.size,fun j hj _=>hb7.block j hj⟩
        exact grown_trans (grown_trans (grown_trans hgr h1) (grown_set w7 ⟨ks,i*2,none⟩ _)) (grown_set _ ⟨ks,i*2+1,none⟩ _)
       clear d0 d1 d2 e0 e1 f0 f1 b0 b1 b2 hC7 hKr hCr hgr hBr hXr hr hwr HLF D
       go_wp2_with (fail)
       go_roundw
       case rel=>exact⟨i+1,_,by omega,i64e (by omega),hC9,hK9,hB9,hg9.out⟩
       case measure=>simp [intOf];omega
   ·have hk2:(nd.kind != 10)=true:=by simpa using hkd
    go_wp2_with (fail)
    go_ret
    exact hRet.out
  ·have hi':(i:Int)<M:=by omega
   have i0:(0:Int)≤i:=by omega
   have p0:wr.cell? ⟨lb,i,none⟩=some (.int .i64 0):=hLr.out.cell' (i:=i) (by
    unfold I64
    rw [List.getElem?_map,List.getElem?_append_right (by rw [rngI_len];exact Nat.le_refl _),rngI_len,Nat.sub_self,List.getElem?_replicate,if_pos (by omega)];rfl)
   have pf:=hLr.out.frozen i
   have hL5:Hid (Arr (wr.setCell ⟨lb,i,none⟩ (.int .i64 (i:Int))) lb 3 (I64 (rngI (i+1) ++ List.replicate (M - (i+1)) 0))):=by
    have h:=hLr.out.store i (.int .i64 (i:Int))
    rw [I64_set,rng_set (by omega)] at h
    exact h
   have hB5:=Lib.hid (hBr.out.setCell (p:=⟨lb,i,none⟩) (show gb≤lb by omega) (.int .i64 (i:Int)))
   have hg5:=Lib.hid (grown_trans hgr (grown_set wr ⟨lb,i,none⟩ (.int .i64 (i:Int))))
   clear hLr
   go_wp2_with (fail)
   go_roundw
   case rel=>exact⟨i+1,by omega,i64e (by omega),hL5,hB5,hg5.out⟩
   case measure=>simp [intOf];omega
end Go.Proofs.YtijoollonkibfaaGreatDoor
namespace Go.Proofs.YtijoollonkibfaaGreatDoor
open Go.RowKit
structure VS (n:Nat) (M:List Bool) (L:List Int) (es:List Value):Prop where
 ml:M.length=n
 el:es.length=n
 ct:L.length+cfB M≤n
 li:InL n L
def VOC (w0 w:World) (B g o c:Nat) (nodes:List GNode) (root:Int) (F:Nat→Prop) (e:OB) (q:Nat) (en:Ending) (w':World):Prop:=
 en=.returned (.tuple #[])∧∃F' vs' M' L' es',Hid (OE w0 w' B g o c nodes root F' e vs' M' L' es')∧Hid (VS nodes.length M' L' es')∧cfB M'≤q∧PStep w w' F F'
def VisO (w0:World) (B g o c:Nat) (nodes:List GNode) (root:Int) (e:OB) (f:Nat):Prop:=∀(k:Nat) (w:World) (F:Nat→Prop) (vs:Value) (M:List Bool) (L:List Int) (es:List Value),cfB M≤f→k<nodes.length→M.getD k false=false→VS nodes.length M L es→OE w0 w B g o c nodes root F e vs M L es →
 Calls Tryz.prog 61 #[.int .i64 (k:Int),.pointer (some ⟨e.mt,0,none⟩),.pointer (some ⟨e.ou,0,none⟩),.pointer (some ⟨e.gr,0,none⟩),.pointer (some ⟨e.en,0,none⟩),.pointer (some ⟨e.vi,0,none⟩)] w (VOC w0 w B g o c nodes root F e (cfB M - 1))
set_option maxRecDepth 20000 in
set_option maxHeartbeats 16000000 in
theorem visitO_any {w0:World} {B g o c:Nat} {nodes:List GNode} {root:Int} {e:OB} (hw0:LibE w0) (hB0:B=w0.heap.size) (hI:Idx nodes) (hL:NL 65536 nodes) (hN:nodes.length≤65536) (hT:∀k,k<nodes.length→(ndAt nodes k).kind=10→SortN nodes (ndAt nodes k)) (f:Nat):VisO w0 B g o c nodes root e f:=by
 have HB0:=Lib.hid hB0
 clear hB0
 induction f with
 | zero=>
  intro k w F vs M L es hf hk hm hV hE
  have:=cfB_set hm (by rw [hV.ml];exact hk)
  omega
 | succ f ih=>
  intro k w F vs M L es hf hk hm hV hE
  have hcf:=cfB_set hm (by rw [hV.ml];exact hk)
  have hk0:(0:Int)≤k:=by omega
  have hk1:(k:Int)<nodes.length:=by omega
  have x0:=hE.mt.cell' (i:=0) rfl
  have m0:=hE.mm.cell' (Bs_get (m:=M) (k:=k) (by rw [hV.ml];exact hk))
  rw [hm] at m0
  have f0:=hE.mm.frozen k
  have hg1:=grown_set w ⟨e.mm,k,none⟩ (.bool true)
  have hE1:Hid (OE w0 (w.setCell ⟨e.mm,k,none⟩ (.bool true)) B g o c nodes root F e vs (M.set k true) L es):=hE.set_mm _ hg1 (by have:=hE.mm.store k (.bool true);rw [Bs_set] at this;exact this)
  have hP1:=Lib.hid (pstep_grown hg1 hE.fw.1)
  have HV:=Lib.hid hV
  have hLl:L.length≤65536:=by have:=hV.ct;omega
  have HCF:=Lib.hid hcf
  clear hg1 hE hV hm hcf
  go_enter Tryz.func61,Tryz.ntmps61
  go_upto_region 1 with(fail)
  clear x0 m0 f0
  generalize w.setCell ⟨e.mm,k,none⟩ (.bool true)=w1 at *
  obtain⟨Ao,co,hvs,_,_⟩:=own_slice hE1.out.ro
  subst hvs
  have a0:=hE1.out.ou.cell' (i:=0) rfl
  have hBw:B≤w1.heap.size:=hE1.out.gd.2.1
  have hr1:Hid ((w1.alloc (.cells #[.int .i64 (k:Int)] 3)).ownsRow B 3 1 (.slice Ao L.length co) L.length (I64 L)):=hE1.out.ro.alloc _
  have hb1:Hid (Below w1.heap.size w1 (w1.alloc (.cells #[.int .i64 (k:Int)] 3))):=(Below.refl _ _).alloc (Nat.le_refl _) _
  go_upto_region 2 with(at_builtin;go_loud (refine wpList_apS rfl (.tmp 12) (.tmp 14) 38 rfl B 3 _ 1 _ Tryz.underlying38 infoInt rfl (by decide) _ L.length (I64 L) rfl hr1.out ⟨w1.heap.size,0,none⟩ _ [.int .i64 (k:Int)] rfl rfl (cells_new _ _ _) rfl (by unfold maxLen;omega) (by omega) (by simp;omega) ?_;intro v3 w3 hown3 hgr3 hat3;obtain⟨A3,c3,hv3,hc3,hm3⟩:=own_slice hown3;subst hv3;have hS3:=arr_row hE1.out.ou hb1.out hgr3 (row_ne hE1.out.ro hE1.out.ou (by decide));have p3:=hS3.cell' (i:=0) rfl;have q3:=hS3.frozen 0))
  obtain⟨F2,hE2',hP2',hFF⟩:=hE1.out.push (k:Int) hb1.out hgr3 hown3 hat3
  have hE2:Hid (OE w0 (w3.setCell ⟨e.ou,0,none⟩ (.slice A3 (L.length+1) c3)) B g o c nodes root F2 e (.slice A3 (L.length+1) c3) (M.set k true) (L ++ [(k:Int)]) es):=hE2'
  have hP2:=Lib.hid (hP1.out.trans hP2')
  have hV2:Hid (VS nodes.length (M.set k true) (L ++ [(k:Int)]) es):=⟨by rw [List.length_set];exact HV.out.ml,HV.out.el,by rw [List.length_append,List.length_singleton];have:=HV.out.ct;have:=HCF.out;omega,fun x hx=>by
   rcases List.mem_append.1 hx with h | h
   ·exact HV.out.li x h
   ·rw [List.mem_singleton.1 h];exact⟨hk0,hk1⟩⟩
  clear hE2' hP2' hFF hown3 hgr3 hat3 hS3 p3 q3 hr1 hb1 hBw a0 hE1 hP1 HV
  generalize w3.setCell ⟨e.ou,0,none⟩ (.slice A3 (L.length+1) c3)=w2 at *
  generalize (Value.slice A3 (L.length+1) c3)=vs2 at *
  generalize L ++ [(k:Int)]=L2 at *
  obtain⟨u0,hu0⟩:∃u,es[k]? = some u:=⟨_,List.getElem?_eq_getElem (by rw [hV2.out.el];exact hk)⟩
  have b0:w2.drew.cell? ⟨e.en,0,none⟩=some (.slice (some ⟨e.em,0,none⟩) nodes.length nodes.length):=hE2.out.en.cell' (i:=0) rfl
  have b1:w2.drew.cell? ⟨e.gr,0,none⟩=some (.slice (some ⟨g,o,none⟩) nodes.length c):=hE2.out.gr.cell' (i:=0) rfl
  have b2:w2.drew.cell? ⟨e.gr,1,none⟩=some (.int .i64 root):=hE2.out.gr.cell' (i:=1) rfl
  have hw2:LibE w2.drew:=by
   have h:=hE2.out.be.drew
   rw [HB0.out] at h
   exact hw0.keep h
  have D:=Lib.hid (sorted_any (c:=c) (root:=root) hL k hk (hT k hk) w2.drew hw2 (hE2.out.gd.below (Below.refl _ _).drew hE2.out.gd.2.1))
  have n1:e.em≠e.en:=(hE2.out.neF hE2.out.fw.2.1).2.1.symm
  have n2:e.em≠e.gr:=(hE2.out.neF hE2.out.fw.2.1).2.2.1.symm
  clear hw2
  go_region_held3 (fun w'=>w'.cell? ⟨e.en,0,none⟩=some (.slice (some ⟨e.em,0,none⟩) nodes.length nodes.length)∧w'.cell? ⟨e.gr,0,none⟩=some (.slice (some ⟨g,o,none⟩) nodes.length c)∧w'.cell? ⟨e.gr,1,none⟩=some (.int .i64 root)) (first | exact⟨by assumption,by assumption,by assumption⟩ | exact⟨(World.cell?_setCell_far _ _ _ _ n1).trans (by assumption),(World.cell?_setCell_far _ _ _ _ n2).trans (by assumption),(World.cell?_setCell_far _ _ _ _ n2).trans (by assumption)⟩ | go_keep)
   ((go_at_call 62;((with_reducible refine D.out.mono ?_));rintro en w4 ⟨lb,xs,rfl,hlb,hlb2,hb4,hxl,hxi,hrd⟩;have d0:=(hb4.cell (block_lt_of_cell b0)).trans b0;have d1:=(hb4.cell (block_lt_of_cell b1)).trans b1;have d2:=(hb4.cell (block_lt_of_cell b2)).trans b2;have hE4:Hid (OE w0 w4 B g o c nodes root F2 e vs2 (M.set k true) L2 es):=OE.kept (w:=w2) hE2.out ((Below.refl w2.heap.size w2).drew.trans hb4);have e0:=hE4.out.em.cell' hu0;have f0:=hE4.out.em.frozen k))
  obtain⟨m,hm⟩:∃m,(ndAt nodes k).items.length=m:=⟨_,rfl⟩
  rw [hm] at hxl hxi ⊢
  have HMM:=Lib.hid hm
  have hml:m≤65536:=by have:=(hL k hk).2;omega
  have hge:=grown_set w4 ⟨e.em,k,none⟩ (.slice (some ⟨lb,0,none⟩) m m)
  have hE5:Hid (OE w0 (w4.setCell ⟨e.em,k,none⟩ (.slice (some ⟨lb,0,none⟩) m m)) B g o c nodes root F2 e vs2 (M.set k true) L2 (es.set k (.slice (some ⟨lb,0,none⟩) m m))):=hE4.out.set_em _ hge (hE4.out.em.store k _)
  have hlF:¬F2 lb:=fun hF=>by have h1:=hE2.out.hi lb hF;have h2:w2.heap.size≤lb:=hlb;omega
  have hP5:=Lib.hid ((hP2.out.trans (PStep.of_below ((Below.refl w2.heap.size w2).drew.trans hb4))).trans (pstep_grown hge hE4.out.fw.2.1))
  have hne:e.em≠lb:=fun h=>hlF (h▸hE4.out.fw.2.1)
  have hR5:Hid (Rd (w4.setCell ⟨e.em,k,none⟩ (.slice (some ⟨lb,0,none⟩) m m)) (some ⟨lb,0,none⟩) (I64 xs)):=hrd.out.setCell (p:=⟨e.em,k,none⟩) _ (fun ad e2=>by have:=Option.some.inj e2;subst this;exact fun h=>hne h.symm)
  have hV5:Hid (VS nodes.length (M.set k true) L2 (es.set k (.slice (some ⟨lb,0,none⟩) m m))):=⟨hV2.out.ml,by rw [List.length_set];exact hV2.out.el,hV2.out.ct,hV2.out.li⟩
  have hg5:Hid ((es.set k (.slice (some ⟨lb,0,none⟩) m m))[k]? = some (.slice (some ⟨lb,0,none⟩) m m)):=by
   show _=_
   rw [List.getElem?_set_self (by rw [hV2.out.el];exact hk)]
  have hl5:lb<(w4.setCell ⟨e.em,k,none⟩ (.slice (some ⟨lb,0,none⟩) m m)).heap.size:=by simp [World.setCell];exact hlb2
  clear d0 d1 d2 e0 f0 b0 b1 b2 D n1 n2 hE4 hE2 hV2 hP2 hge hrd hb4 hu0 hm hlb hlb2 hne
  generalize (w4.setCell ⟨e.em,k,none⟩ (.slice (some ⟨lb,0,none⟩) m m))=w5 at *
  generalize es.set k (.slice (some ⟨lb,0,none⟩) m m)=es5 at *
  have a0:=hE5.out.en.cell' (i:=0) rfl
  have a1:=hE5.out.em.cell' hg5.out
  go_upto_region 4 with(fail)
  clear a0 a1 hg5
  have hc0:cfB (M.set k true)≤f:=by have:=HCF.out;omega
  have hc1:cfB (M.set k true)≤cfB M - 1:=by have:=HCF.out;omega
  obtain⟨q,hq⟩:∃q,cfB M - 1=q:=⟨_,rfl⟩
  rw [hq] at hc1 ⊢
  generalize M.set k true=M0 at *
  clear hq HCF hf
  go_loopw [27] (fun v wr=>∃(i:Nat) (F1:Nat→Prop) (vs1:Value) (M1:List Bool) (L1:List Int) (es1:List Value),i≤m∧v=.int .i64 (i:Int)∧Hid (OE w0 wr B g o c nodes root F1 e vs1 M1 L1 es1)∧Hid (VS nodes.length M1 L1 es1)∧cfB M1≤f∧cfB M1≤q∧PStep w5 wr F2 F1) (fun v _=>m - (intOf v).toNat)
  case atStart=>exact⟨0,F2,vs2,M0,L2,es5,Nat.zero_le _,rfl,hE5,hV5,hc0,hc1,PStep.of_below (Below.refl _ _)⟩
  case round=>
   obtain⟨i,F1,vs1,M1,L1,es1,hi,rfl,hE1,hV1,hf1,hq1,hPr⟩:=hrel
   by_cases him:i=m
   ·have hi':¬(i:Int)<m:=by omega
    go_wp2_with (fail)
    go_end0
    exact⟨rfl,F1,vs1,M1,L1,es1,hE1,hV1,hq1,hP5.out.trans hPr⟩
   ·have hi':(i:Int)<m:=by omega
    obtain⟨a,hxa,ham⟩:=InR_get hxi (k:=i) (by omega)
    obtain⟨ad,had,hca⟩:=(hPr.rd hR5.out (fun ad e2=>by have:=Option.some.inj e2;subst this;exact hlF)).at_ (I64_get hxa)
    obtain rfl:=Option.some.inj had
    rw [Addr.add_mid,Nat.zero_add] at hca
    obtain⟨K,ck,I,ci,_,_,_,_,c4,_,hIt,hIb⟩:=hE1.out.gd.of_at hk
    obtain⟨y,hy⟩:∃y,(ndAt nodes k).items[a]? = some y:=⟨_,List.getElem?_eq_getElem (by have:=HMM.out;omega)⟩
    obtain⟨ai,rfl,hcy⟩:=hIt.at_ (I64_get hy)
    have hyr:=hI k hk y (by unfold refs;exact List.mem_append.2 (.inr (List.mem_of_getElem? hy)))
    obtain⟨ky,rfl⟩:∃ky:Nat,y=(ky:Int):=⟨y.toNat,by omega⟩
    have hky:ky<nodes.length:=by omega
    rw [HMM.out] at c4
    have a0:(0:Int)≤a:=by omega
    have a1:(a:Int)<m:=by omega
    have y0:(0:Int)≤ky:=by omega
    have y1:(ky:Int)<nodes.length:=by omega
    have g0:=hE1.out.gr.cell' (i:=0) rfl
    have t0:=hE1.out.mt.cell' (i:=0) rfl
    have v0:=hE1.out.vi.cell' (i:=0) rfl
    unfold orderFn at v0
    have hb:=hE1.out.mm.cell' (Bs_get (m:=M1) (k:=ky) (by rw [hV1.out.ml];exact hky))
    have DV:=Lib.hid (fun(hmf:M1.getD ky false=false) (w':World) (h':Below wr.heap.size wr w')=>ih ky w' F1 vs1 M1 L1 es1 hf1 hky hmf hV1.out (hE1.out.kept h'))
    have hcl:cfB M1 - 1≤cfB M1:=Nat.sub_le _ _
    have nFg:¬F1 g:=fun hF=>by have h1:=hE1.out.gd.1;have h2:=hE1.out.lo _ hF;omega
    have nFi:¬F1 ai.block:=fun hF=>by have h1:=hIb _ rfl;have h2:=hE1.out.lo _ hF;omega
    obtain⟨_,_,nFr,nFv⟩:=hE1.out.fr
    clear hy hyr hIt hIb
    generalize hmb:M1.getD ky false=mb at *
    cases mb with
    | true=>
     clear DV hmb v0
     go_upto_region 6 with(fail)
     go_quiet (fail)
     have hbq:Below wr.heap.size wr (wr.drewN nq):=Below.drewN' (Below.refl _ _) nq
     have hE6:=Lib.hid (hE1.out.kept hbq)
     have hP6:=hPr.trans (PStep.of_below hbq)
     clear hbq hca c4 hcy g0 t0 hb
     generalize wr.drewN nq=w6 at *
     go_wp2_with (fail)
     go_roundw
     case rel=>exact⟨i+1,F1,vs1,M1,L1,es1,by omega,i64e (by omega),hE6,hV1,hf1,hq1,hP6⟩
     case measure=>simp [intOf];omega
    | false=>
     replace DV:=Lib.hid (DV.out rfl)
     clear hmb
     go_upto_region 6 with(fail)
     go_quiet (fail)
     have hbq:Below wr.heap.size wr (wr.drewN nq):=Below.drewN' (Below.refl _ _) nq
     have D:=Lib.hid (DV.out _ (hbq.trans (Below.refl wr.heap.size (wr.drewN nq)).drew))
     have c4':=(hbq.cell (block_lt_of_cell c4)).trans c4
     have cy':=(hbq.cell (block_lt_of_cell hcy)).trans hcy
     have g0':=(hbq.cell (block_lt_of_cell g0)).trans g0
     have v0':=(hbq.cell (block_lt_of_cell v0)).trans v0
     have hP6:=hPr.trans (PStep.of_below hbq)
     clear hca c4 hcy g0 t0 hb v0 DV hbq hE1
     generalize wr.drewN nq=w6 at *
     have q1:w6.drew.cell? ⟨g,o+k*5+4,none⟩=_:=c4'
     have q2:w6.drew.cell? (ai.add a)=_:=cy'
     have q3:w6.drew.cell? ⟨e.gr,0,none⟩=_:=g0'
     have q4:w6.drew.cell? ⟨e.vi,0,none⟩=_:=v0'
     clear c4' cy' g0' v0'
     go_upto_region 7 with(fail)
     go_region_held3 (fun w'=>w'.cell? ⟨g,o+k*5+4,none⟩=some (.slice (some ai) m ci)∧w'.cell? (ai.add a)=some (.int .i64 (ky:Int))∧w'.cell? ⟨e.gr,0,none⟩=some (.slice (some ⟨g,o,none⟩) nodes.length c)∧w'.cell? ⟨e.vi,0,none⟩=some (.func (.func 61) #[] #[.pointer (some ⟨e.mt,0,none⟩),.pointer (some ⟨e.ou,0,none⟩),.pointer (some ⟨e.gr,0,none⟩),.pointer (some ⟨e.en,0,none⟩),.pointer (some ⟨e.vi,0,none⟩)])) (first | exact⟨by assumption,by assumption,by assumption,by assumption⟩ | go_keep)
      ((go_at_call 61;((with_reducible refine D.out.mono ?_));rintro en w7 ⟨rfl,F7,vs7,M7,L7,es7,hE7,hV7,hq7,hP7⟩;have d1:=hP7.cell q1 nFg;have d2:=hP7.cell q2 (by rw [blk_add];exact nFi);have d3:=hP7.cell q3 nFr;have d4:=hP7.cell q4 nFv))
     have hP8:=hP6.trans ((PStep.of_below (Below.refl w6.heap.size w6).drew).trans hP7)
     clear q1 q2 q3 q4 d1 d2 d3 d4 D hP7
     go_wp2_with (fail)
     go_roundw
     case rel=>exact⟨i+1,F7,vs7,M7,L7,es7,by omega,i64e (by omega),hE7,hV7,by omega,by omega,hP8⟩
     case measure=>simp [intOf];omega
end Go.Proofs.YtijoollonkibfaaGreatDoor
namespace Go.Proofs.YtijoollonkibfaaGreatDoor
open Go.RowKit
def OrdR (w:World) (n:Nat) (e:Ending) (w':World):Prop:=∃(A:Option Addr) (c':Nat) (xs:List Int) (ev:Value),e=.returned (.tuple #[.slice A xs.length c',ev])∧Rd w' A (I64 xs)∧(∀ad,A=some ad→ad.block<w'.heap.size)∧InL n xs∧xs.length≤n∧Below w.heap.size w w'
set_option maxRecDepth 20000 in
set_option maxHeartbeats 16000000 in
theorem order_any {B g o c:Nat} {nodes:List GNode} (r:Nat) (hr:r<nodes.length) (hI:Idx nodes) (hL:NL 65536 nodes) (hN:nodes.length≤65536) (hT:∀k,k<nodes.length→(ndAt nodes k).kind=10→SortN nodes (ndAt nodes k)) (w:World) (hw:LibE w) (hG:GRd w B g o nodes) :
  Calls Tryz.prog 42 #[.agg #[.slice (some ⟨g,o,none⟩) nodes.length c,.int .i64 (r:Int)]] w (OrdR w nodes.length):=by
 have h1:Hid (Arr (w.alloc (.cells #[.slice (some ⟨g,o,none⟩) nodes.length c,.int .i64 (r:Int)] 25)) w.heap.size 25 [.slice (some ⟨g,o,none⟩) nodes.length c,.int .i64 (r:Int)]):=Arr.new w _ _
 have hB1:Hid (Below w.heap.size w (w.alloc (.cells #[.slice (some ⟨g,o,none⟩) nodes.length c,.int .i64 (r:Int)] 25))):=(Below.refl _ _).alloc (Nat.le_refl _) _
 have HG:=Lib.hid hG
 have HW:=Lib.hid hw
 have hmf:∀(fn:Fn) (first cap:Array Value) (w:World),(Instr.makeFunc fn first cap).run Tryz.prog w=.ok (.func fn first cap) w:=fun _ _ _ _=>rfl
 have DV:Hid (∀(e:OB),VisO w w.heap.size g o c nodes (r:Int) e (nodes.length)):=fun e=>visitO_any (c:=c) (e:=e) hw rfl hI hL hN hT nodes.length
 clear hG hw
 go_enter Tryz.func42,Tryz.ntmps42
 go_upto_region 1 with(fail)
 generalize w.alloc (.cells #[.slice (some ⟨g,o,none⟩) nodes.length c,.int .i64 (r:Int)] 25)=W at *
 obtain⟨n,hn⟩:∃n,nodes.length=n:=⟨_,rfl⟩
 obtain⟨gb,hgb⟩:∃b,w.heap.size=b:=⟨_,rfl⟩
 have hgbl:=h1.out.lt
 rw [hgb] at h1 hgbl hB1 ⊢
 rw [hn] at h1 hr hN ⊢
 have HN:=Lib.hid hn
 have HGB:=Lib.hid hgb
 clear hn hgb
 have x0:=h1.out.cell' (i:=0) rfl
 go_upto_region 2 with(at_make;go_loud (refine wpList_mk rfl _ _ 85 rfl 38 _ _ Tryz.underlying85 infoSl rfl _ _ _ _ rfl rfl n n (by omega) (by omega) (by omega) (by omega) (by unfold maxLen;omega) ?_;intro em w2 hem hE hb2 hz2))
 clear x0
 have hX3:Hid (Arr (w2.alloc (.cells #[.slice (some ⟨em,0,none⟩) n n] 85)) w2.heap.size 85 [.slice (some ⟨em,0,none⟩) n n]):=Arr.new w2 _ _
 have hb3:Below w2.heap.size w2 (w2.alloc (.cells #[.slice (some ⟨em,0,none⟩) n n] 85)):=(Below.refl _ _).alloc (Nat.le_refl _) _
 have l1:gb<em:=by have:=hem.out;omega
 have l2:em<w2.heap.size:=hE.out.lt
 have hB3:=Lib.hid ((hB1.out.trans (hb2.mono (by omega))).trans (hb3.mono (by omega)))
 have h3:=Lib.hid ((h1.out.keep hb2).keep hb3)
 have hE3:=Lib.hid (hE.out.keep hb3)
 clear hE hb2 hz2 hem h1 hB1 hb3
 generalize (w2.alloc (.cells #[.slice (some ⟨em,0,none⟩) n n] 85))=w3 at *
 obtain⟨en,hen⟩:∃b,w2.heap.size=b:=⟨_,rfl⟩
 rw [hen] at hX3 l2 ⊢
 clear hen
 have x0:=h3.out.cell' (i:=0) rfl
 have l3:en<w3.heap.size:=hX3.out.lt
 go_upto_region 3 with(at_make;go_loud (refine wpList_mk rfl _ _ 78 rfl 4 _ _ Tryz.underlying78 infoBool rfl _ _ _ _ rfl rfl n n (by omega) (by omega) (by omega) (by omega) (by unfold maxLen;omega) ?_;intro mm w4 hmm hM hb4 hz4))
 clear x0
 have hX5:Hid (Arr (w4.alloc (.cells #[.slice (some ⟨mm,0,none⟩) n n] 78)) w4.heap.size 78 [.slice (some ⟨mm,0,none⟩) n n]):=Arr.new w4 _ _
 have hb5:Below w4.heap.size w4 (w4.alloc (.cells #[.slice (some ⟨mm,0,none⟩) n n] 78)):=(Below.refl _ _).alloc (Nat.le_refl _) _
 have l4:en<mm:=by have:=hmm.out;omega
 have l5:mm<w4.heap.size:=hM.out.lt
 have hB5:=Lib.hid ((hB3.out.trans (hb4.mono (by omega))).trans (hb5.mono (by omega)))
 have h5:=Lib.hid ((h3.out.keep hb4).keep hb5)
 have hE5:=Lib.hid ((hE3.out.keep hb4).keep hb5)
 have hX35:=Lib.hid ((hX3.out.keep hb4).keep hb5)
 have hM5:Hid (Arr (w4.alloc (.cells #[.slice (some ⟨mm,0,none⟩) n n] 78)) mm 4 (Bs (noMarks n))):=by rw [←Bs_rep];exact hM.out.keep hb5
 clear hM hb4 hz4 hmm h3 hB3 hb5 hE3 hX3
 generalize (w4.alloc (.cells #[.slice (some ⟨mm,0,none⟩) n n] 78))=w5 at *
 obtain⟨mt,hmt⟩:∃b,w4.heap.size=b:=⟨_,rfl⟩
 rw [hmt] at hX5 l5 ⊢
 clear hmt
 have l6:mt<w5.heap.size:=hX5.out.lt
 have hO6:Hid (Arr (w5.alloc (.cells #[.slice none 0 0] 38)) w5.heap.size 38 [.slice none 0 0]):=Arr.new w5 _ _
 have hb6:Below w5.heap.size w5 (w5.alloc (.cells #[.slice none 0 0] 38)):=(Below.refl _ _).alloc (Nat.le_refl _) _
 have hB6:=Lib.hid (hB5.out.trans (hb6.mono (by omega)))
 have h6:=Lib.hid (h5.out.keep hb6)
 have hE6:=Lib.hid (hE5.out.keep hb6)
 have hX36:=Lib.hid (hX35.out.keep hb6)
 have hX6:=Lib.hid (hX5.out.keep hb6)
 have hM6:=Lib.hid (hM5.out.keep hb6)
 go_upto_region 4 with(fail)
 clear hB5 h5 hE5 hX35 hX5 hM5 hb6
 generalize (w5.alloc (.cells #[.slice none 0 0] 38))=w6 at *
 obtain⟨ou,hou⟩:∃b,w5.heap.size=b:=⟨_,rfl⟩
 rw [hou] at hO6 l6 ⊢
 clear hou
 have l7:ou<w6.heap.size:=hO6.out.lt
 have hV7:Hid (Arr (w6.alloc (.cells #[.nilFunc] 70)) w6.heap.size 70 [.nilFunc]):=Arr.new w6 _ _
 have hb7:Below w6.heap.size w6 (w6.alloc (.cells #[.nilFunc] 70)):=(Below.refl _ _).alloc (Nat.le_refl _) _
 have hB7:=Lib.hid (hB6.out.trans (hb7.mono (by omega)))
 have h7:=Lib.hid (h6.out.keep hb7)
 have hE7:=Lib.hid (hE6.out.keep hb7)
 have hX37:=Lib.hid (hX36.out.keep hb7)
 have hX7:=Lib.hid (hX6.out.keep hb7)
 have hM7:=Lib.hid (hM6.out.keep hb7)
 have hO7:=Lib.hid (hO6.out.keep hb7)
 go_upto_region 5 with(fail)
 clear hB6 h6 hE6 hX36 hX6 hM6 hO6 hb7
 generalize (w6.alloc (.cells #[.nilFunc] 70))=w7 at *
 obtain⟨vi,hvi⟩:∃b,w6.heap.size=b:=⟨_,rfl⟩
 rw [hvi] at hV7 l7 ⊢
 clear hvi
 have z0:=hV7.out.cell' (i:=0) rfl
 have zf:=hV7.out.frozen 0
 have HFN:Hid (orderFn ⟨mt,ou,en,gb,vi,mm,em⟩=.func (.func 61) #[] #[.pointer (some ⟨mt,0,none⟩),.pointer (some ⟨ou,0,none⟩),.pointer (some ⟨gb,0,none⟩),.pointer (some ⟨en,0,none⟩),.pointer (some ⟨vi,0,none⟩)]):=rfl
 obtain⟨fv,hfv⟩:∃fv,fv=Value.func (.func 61) #[] #[.pointer (some ⟨mt,0,none⟩),.pointer (some ⟨ou,0,none⟩),.pointer (some ⟨gb,0,none⟩),.pointer (some ⟨en,0,none⟩),.pointer (some ⟨vi,0,none⟩)]:=⟨_,rfl⟩
 have hB8:Hid (Below gb w (w7.setCell ⟨vi,0,none⟩ fv)):=hB7.out.setCell (p:=⟨vi,0,none⟩) (show gb≤vi by omega) fv
 have hOE:Hid (OE w (w7.setCell ⟨vi,0,none⟩ fv) gb g o c nodes (r:Int) (fun b=>b=mm∨b=em∨b=ou) ⟨mt,ou,en,gb,vi,mm,em⟩ (.slice none 0 0) (noMarks n) [] (List.replicate n (.slice none 0 0))):={
  be:=hB8.out
  gd:=(HG.out.below hB8.out (by have:=HG.out.2.1;have:=HGB.out;omega)).up (by have:=HG.out.2.1;have:=HGB.out;omega) (by have:=hB8.out.size;have:=HGB.out;omega)
  mt:=by rw [HN.out];exact hX7.out.far (p:=⟨vi,0,none⟩) (show mt≠vi by omega) fv
  en:=by rw [HN.out];exact hX37.out.far (p:=⟨vi,0,none⟩) (show en≠vi by omega) fv
  gr:=by rw [HN.out];exact h7.out.far (p:=⟨vi,0,none⟩) (show gb≠vi by omega) fv
  vi:=by rw [HFN.out,←hfv];exact hV7.out.store 0 fv
  mm:=hM7.out.far (p:=⟨vi,0,none⟩) (show mm≠vi by omega) fv
  em:=hE7.out.far (p:=⟨vi,0,none⟩) (show em≠vi by omega) fv
  ou:=hO7.out.far (p:=⟨vi,0,none⟩) (show ou≠vi by omega) fv
  ro:=World.ownsRow_nil _ _ _ _
  lo:=fun b hb=>by rcases hb with h | h | h <;> omega
  hi:=fun b hb=>by have:=hV7.out.lt;simp only [World.setCell,Array.size_modify];rcases hb with h | h | h <;> omega
  fr:=⟨fun h=>by rcases h with h | h | h <;> (simp only at h;omega),fun h=>by rcases h with h | h | h <;> (simp only at h;omega),fun h=>by rcases h with h | h | h <;> (simp only at h;omega),fun h=>by rcases h with h | h | h <;> (simp only at h;omega)⟩
  fw:=⟨.inl rfl,.inr (.inl rfl),.inr (.inr rfl)⟩
  fo:=fun b h=>by cases h
  d1:=by show ou≠em;omega }
 have hVS:Hid (VS nodes.length (noMarks n) [] (List.replicate n (.slice none 0 0))):=⟨by rw [HN.out];simp [noMarks],by rw [HN.out];simp,by rw [HN.out];simp [cfB,noMarks],fun x hx=>by cases hx⟩
 subst hfv
 go_upto_region 6 with(fail)
 clear z0 zf hV7 hB7 h7 hE7 hX37 hX7 hM7 hO7 hmf HFN
 generalize (w7.setCell ⟨vi,0,none⟩ (.func (.func 61) #[] #[.pointer (some ⟨mt,0,none⟩),.pointer (some ⟨ou,0,none⟩),.pointer (some ⟨gb,0,none⟩),.pointer (some ⟨en,0,none⟩),.pointer (some ⟨vi,0,none⟩)]))=w8 at *
 have v0:=hOE.out.vi.cell' (i:=0) rfl
 unfold orderFn at v0
 have g1:=hOE.out.gr.cell' (i:=1) rfl
 have D0:=DV.out ⟨mt,ou,en,gb,vi,mm,em⟩ r w8 (fun b=>b=mm∨b=em∨b=ou) (.slice none 0 0) (noMarks n) [] (List.replicate n (.slice none 0 0)) (by rw [HN.out];simp [cfB,noMarks]) (by have:=HN.out;omega) (by rw [noMarks_get]) hVS.out (by rw [HGB.out];exact hOE.out)
 rw [HGB.out] at D0
 have D:=Lib.hid D0
 clear D0 DV
 go_upto_region 7 with(go_at_call 61;((with_reducible refine D.out.mono ?_));rintro e w9 ⟨rfl,F9,vs9,M9,L9,es9,hE9,hV9,hq9,hP9⟩)
 clear v0 g1 D hOE hVS
 obtain⟨A9,c9,hvs9,_,_⟩:=own_slice hE9.out.ro
 subst hvs9
 have o0:=hE9.out.ou.cell' (i:=0) rfl
 have n0:=hE9.out.en.cell' (i:=0) rfl
 go_quiet (fail)
 have hbq:Below w9.heap.size w9 (w9.drewN nq):=Below.drewN' (Below.refl _ _) nq
 have hrd:Hid (Rd (w9.drewN nq) A9 (I64 L9)):=(own_rd2 hE9.out.ro).elim fun A h=>h.elim fun c h=>by
  obtain⟨he,_,_,_,hrd,_,_⟩:=h
  injection he with e1 _ _
  subst e1
  exact hrd.drewN nq
 have hbl:Hid (∀ad,A9=some ad→ad.block<(w9.drewN nq).heap.size):=fun ad e=>(hE9.out.ro.lt ad.block (by rw [e];rfl)).2
 have hli:Hid (InL n L9):=by rw [←HN.out];exact hV9.out.li
 have hll:L9.length≤n:=by have:=hV9.out.ct;have:=HN.out;omega
 have hBf:Hid (Below gb w (w9.drewN nq)):=hE9.out.be.trans (hbq.mono hE9.out.gd.2.1)
 go_wp2_with (fail)
 go_ret2
 exact⟨A9,c9,L9,_,rfl,hrd.out,hbl.out,by rw [HN.out];exact hli.out,by rw [HN.out];exact hll,by rw [HGB.out];exact hBf.out⟩
set_option maxRecDepth 20000 in
set_option maxHeartbeats 16000000 in
theorem labels_none {B g o c:Nat} {nodes:List GNode} (r:Nat) (hr:r<nodes.length) (hO:ChkOK nodes (r:Int)) (hchk:chkV nodes (r:Int)=0) (hT:∀k,k<nodes.length→(ndAt nodes k).kind=10→SortN nodes (ndAt nodes k)) (hC:∀k,(countsI nodes (r:Int)).getD k 0≤1) (w:World) (hw:LibE w) (hG:GRd w B g o nodes) :
  Calls Tryz.prog 21 #[.agg #[.slice (some ⟨g,o,none⟩) nodes.length c,.int .i64 (r:Int)]] w fun e w'=>e=.returned (.slice none 0 0)∧Below w.heap.size w w':=by
 have h1:Hid (Arr (w.alloc (.cells #[.slice (some ⟨g,o,none⟩) nodes.length c,.int .i64 (r:Int)] 25)) w.heap.size 25 [.slice (some ⟨g,o,none⟩) nodes.length c,.int .i64 (r:Int)]):=Arr.new w _ _
 have hB1:Hid (Below w.heap.size w (w.alloc (.cells #[.slice (some ⟨g,o,none⟩) nodes.length c,.int .i64 (r:Int)] 25))):=(Below.refl _ _).alloc (Nat.le_refl _) _
 have HG:=Lib.hid hG
 have HW:=Lib.hid hw
 obtain⟨hi1,_⟩:=chkV_zero hchk
 obtain⟨_,hI⟩:=idx_of hi1
 have D1:=Lib.hid (fun(w':World) (h:LibE w') (h':GRd w' B g o nodes)=>gcheck_any (c:=c) hO w' h h')
 rw [hchk] at D1
 have hN1:=hO.n1
 have D2:=Lib.hid (fun(w':World) (h:LibE w') (h':GRd w' B g o nodes)=>order_any (c:=c) r hr hI hO.nl (by omega) hT w' h h')
 have D3:=Lib.hid (fun(w':World) (h':GRd w' B g o nodes)=>scounts_any (c:=c) hi1 hO.nl (by omega) w' h')
 have HC:=Lib.hid hC
 have hcl:Hid ((countsI nodes (r:Int)).length=nodes.length):=by
  show _=_
  unfold countsI
  rw [bumps_len,bump_len,List.length_replicate]
 clear hG hw hi1 hI hchk hO hT hC
 go_enter Tryz.func21,Tryz.ntmps21
 go_upto_region 1 with(fail)
 generalize w.alloc (.cells #[.slice (some ⟨g,o,none⟩) nodes.length c,.int .i64 (r:Int)] 25)=W at *
 obtain⟨n,hn⟩:∃n,nodes.length=n:=⟨_,rfl⟩
 obtain⟨gb,hgb⟩:∃b,w.heap.size=b:=⟨_,rfl⟩
 have hgbl:=h1.out.lt
 rw [hgb] at h1 hgbl hB1 ⊢
 rw [hn] at h1 hr hN1 D1 D2 D3 hcl
 have HGB:=Lib.hid hgb
 clear hgb hn
 have x0:=h1.out.cell' (i:=0) rfl
 have x1:=h1.out.cell' (i:=1) rfl
 have hw1:=Lib.hid (HW.out.keep (by rw [HGB.out];exact hB1.out))
 have hG1:=Lib.hid (HG.out.below hB1.out (by have:=HG.out.2.1;have:=HGB.out;omega))
 go_upto_region 3 with(go_at_call 20;((with_reducible refine(D1.out _ hw1.out hG1.out).mono ?_));rintro e w2 ⟨rfl,hb2⟩)
 clear x0 x1
 have hB2:=Lib.hid (hB1.out.trans (hb2.mono (by have:=hB1.out.size;have:=HGB.out;omega)))
 have h2:=Lib.hid (h1.out.keep hb2)
 have hw2:=Lib.hid (HW.out.keep (by rw [HGB.out];exact hB2.out))
 have hG2:=Lib.hid (HG.out.below hB2.out (by have:=HG.out.2.1;have:=HGB.out;omega))
 have x0:=h2.out.cell' (i:=0) rfl
 have x1:=h2.out.cell' (i:=1) rfl
 go_upto_region 4 with(go_at_call 42;((with_reducible refine(D2.out _ hw2.out hG2.out).mono ?_));rintro e w3 ⟨A,c',xs,ev,rfl,hrd,hab,hxi,hxl,hb3⟩)
 clear x0 x1 h1 hB1 hb2 hw1 hG1
 have hB3:=Lib.hid (hB2.out.trans (hb3.mono (by have:=hB2.out.size;have:=HGB.out;omega)))
 have h3:=Lib.hid (h2.out.keep hb3)
 have hG3:=Lib.hid (HG.out.below hB3.out (by have:=HG.out.2.1;have:=HGB.out;omega))
 have x0:=h3.out.cell' (i:=0) rfl
 have x1:=h3.out.cell' (i:=1) rfl
 go_upto_region 5 with(go_at_call 43;((with_reducible refine(D3.out _ hG3.out).mono ?_));rintro e w4 ⟨cb,rfl,hcb,hb4,hC4⟩)
 clear x0 x1 h2 hB2 hb3 hw2 hG2 hG3
 have hB4:=Lib.hid (hB3.out.trans (hb4.mono (by have:=hB3.out.size;have:=HGB.out;omega)))
 have hR4:=Lib.hid (hrd.keep hb4)
 have HXI:=Lib.hid hxi
 clear hrd hb4 hB3 h3 hxi
 go_upto_region 7 with(fail)
 go_loop [6,21] (fun a v=>a=.slice none 0 0∧∃i:Nat,i≤xs.length∧v=.int .i64 (i:Int)) (fun _ v=>xs.length - (intOf v).toNat)
 case atStart=>exact⟨rfl,0,Nat.zero_le _,rfl⟩
 case round=>
  obtain⟨rfl,i,hi,rfl⟩:=hrel
  by_cases hin:i=xs.length
  ·have hi':¬(i:Int)<xs.length:=by omega
   go_wp2_with (fail)
   go_ret
   exact⟨rfl,by rw [HGB.out];exact hB4.out⟩
  ·have hi':(i:Int)<xs.length:=by omega
   obtain⟨x,hx⟩:∃x,xs[i]? = some x:=⟨_,List.getElem?_eq_getElem (by omega)⟩
   obtain⟨ad,rfl,hc⟩:=hR4.out.at_ (I64_get hx)
   obtain⟨x1,x2⟩:=HXI.out x (List.mem_of_getElem? hx)
   obtain⟨kx,rfl⟩:∃kx:Nat,x=(kx:Int):=⟨x.toNat,by omega⟩
   have c0:=hC4.out.cell' (I64_getD (l:=countsI nodes (r:Int)) (k:=kx) (by have:=hcl.out;omega))
   have hv:=HC.out kx
   have hv2:¬(1:Int)<(countsI nodes (r:Int)).getD kx 0:=by omega
   generalize (countsI nodes (r:Int)).getD kx 0=cv at *
   clear hx
   go_wp2_with (fail)
   go_round
   case rel=>exact⟨rfl,i+1,by omega,i64e (by omega)⟩
   case measure=>simp [intOf];omega
set_option maxRecDepth 20000 in
set_option maxHeartbeats 16000000 in
theorem tree_true {B g o c:Nat} {nodes:List GNode} (r:Nat) (hr:r<nodes.length) (hO:ChkOK nodes (r:Int)) (hchk:chkV nodes (r:Int)=0) (hT:∀k,k<nodes.length→(ndAt nodes k).kind=10→SortN nodes (ndAt nodes k)) (hC:∀k,(countsI nodes (r:Int)).getD k 0≤1) (w:World) (hw:LibE w) (hG:GRd w B g o nodes) :
  Calls Tryz.prog 7 #[.agg #[.slice (some ⟨g,o,none⟩) nodes.length c,.int .i64 (r:Int)]] w fun e w'=>e=.returned (.bool true)∧Below w.heap.size w w':=by
 have h1:Hid (Arr (w.alloc (.cells #[.slice (some ⟨g,o,none⟩) nodes.length c,.int .i64 (r:Int)] 25)) w.heap.size 25 [.slice (some ⟨g,o,none⟩) nodes.length c,.int .i64 (r:Int)]):=Arr.new w _ _
 have hB1:Hid (Below w.heap.size w (w.alloc (.cells #[.slice (some ⟨g,o,none⟩) nodes.length c,.int .i64 (r:Int)] 25))):=(Below.refl _ _).alloc (Nat.le_refl _) _
 have HG:=Lib.hid hG
 have HW:=Lib.hid hw
 have D1:=Lib.hid (fun(w':World) (h:LibE w') (h':GRd w' B g o nodes)=>gcheck_any (c:=c) hO w' h h')
 rw [hchk] at D1
 have D2:=Lib.hid (fun(w':World) (h:LibE w') (h':GRd w' B g o nodes)=>labels_none (c:=c) r hr hO hchk hT hC w' h h')
 clear hG hw hchk hO hT hC
 go_enter Tryz.func7,Tryz.ntmps7
 go_upto_region 1 with(fail)
 generalize w.alloc (.cells #[.slice (some ⟨g,o,none⟩) nodes.length c,.int .i64 (r:Int)] 25)=W at *
 generalize nodes.length=n at *
 obtain⟨gb,hgb⟩:∃b,w.heap.size=b:=⟨_,rfl⟩
 have hgbl:=h1.out.lt
 rw [hgb] at h1 hgbl hB1 ⊢
 have HGB:=Lib.hid hgb
 clear hgb
 have x0:=h1.out.cell' (i:=0) rfl
 have x1:=h1.out.cell' (i:=1) rfl
 have hw1:=Lib.hid (HW.out.keep (by rw [HGB.out];exact hB1.out))
 have hG1:=Lib.hid (HG.out.below hB1.out (by have:=HG.out.2.1;have:=HGB.out;omega))
 go_wp2_with (first
  | (go_at_call 20;((with_reducible refine(D1.out _ hw1.out hG1.out).mono ?_));rintro e w2 ⟨rfl,hb2⟩;have hB2:=Lib.hid (hB1.out.trans (hb2.mono (by have:=hB1.out.size;have:=HGB.out;omega)));have y0:=(h1.out.keep hb2).cell' (i:=0) rfl;have y1:=(h1.out.keep hb2).cell' (i:=1) rfl;have hw2:=Lib.hid (HW.out.keep (by rw [HGB.out];exact hB2.out));have hG2:=Lib.hid (HG.out.below hB2.out (by have:=HG.out.2.1;have:=HGB.out;omega)))
  | (go_at_call 21;((with_reducible refine(D2.out _ hw2.out hG2.out).mono ?_));rintro e w3 ⟨rfl,hb3⟩))
 go_ret
 exact⟨rfl,by rw [HGB.out];exact hB2.out.trans (hb3.mono (by have:=hB2.out.size;have:=HGB.out;omega))⟩
end Go.Proofs.YtijoollonkibfaaGreatDoor
