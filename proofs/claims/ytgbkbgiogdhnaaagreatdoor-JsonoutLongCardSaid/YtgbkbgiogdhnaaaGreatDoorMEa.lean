/- The walk of graph's appended. -/
import Derived.Test.YtgbkbgiogdhnaaaGreatDoorMDd
import Derived.Test.YtgbkbgiogdhnaaaGreatDoorMCd
import Derived.Deep.QuietTactic
import Derived.BigQuiet
import Derived.Test.YtgbkbgiogdhnaaaGreatDoorMCa
set_option linter.unusedVariables false
set_option linter.unusedSimpArgs false
set_option linter.defProp false
set_option linter.constructorNameAsVariable false
namespace Go.Proofs.YtgbkbgiogdhnaaaGreatDoor
open Go.RowKit
def AppR (w:World) (Bo:Nat) (n0:Nat) (nodes:List GNode) (ncs:List Value) (v:Value) (root:Int) (e:Ending) (w':World):Prop:=
 ∃v' ncs',e=.returned (.tuple #[v',.int .i64 (root+(n0:Int))])∧w'.ownsRow Bo 43 5 v' (n0+nodes.length) (ncs ++ ncs')∧NodesRd w' (fun b=>w.heap.size≤b) ncs' (nodes.map (shiftN n0))∧w.grownBy w' v.ownBlock
set_option maxRecDepth 20000 in
set_option maxHeartbeats 16000000 in
theorem appended_any {B g o c n0 r:Nat} {nodes:List GNode} {v:Value} {ncs:List Value} (hL:NL 65536 nodes) (hN:nodes.length≤4096) (hn0:n0≤65536) (hI:Idx nodes) (hr:r<nodes.length) (w:World) (hG:GRd w B g o nodes) (hO:w.ownsRow B 43 5 v n0 ncs) :
  Calls Tryz.prog 46 #[v,.agg #[.slice (some ⟨g,o,none⟩) nodes.length c,.int .i64 (r:Int)]] w (AppR w B n0 nodes ncs v (r:Int)):=by
 have h1:Hid (Arr (w.alloc (.cells #[.slice (some ⟨g,o,none⟩) nodes.length c,.int .i64 (r:Int)] 29)) w.heap.size 29 [.slice (some ⟨g,o,none⟩) nodes.length c,.int .i64 (r:Int)]):=Arr.new w _ _
 have hB1:Hid (Below w.heap.size w (w.alloc (.cells #[.slice (some ⟨g,o,none⟩) nodes.length c,.int .i64 (r:Int)] 29))):=(Below.refl _ _).alloc (Nat.le_refl _) _
 have HG:=Lib.hid hG
 have HO:=Lib.hid hO
 have HI:=Lib.hid hI
 have HL:=Lib.hid hL
 obtain⟨A0,c0,hv0,_,_⟩:=own_slice hO
 subst hv0
 clear hG hO hI hL
 go_enter Tryz.func46,Tryz.ntmps46
 go_upto_region 1 with(fail)
 generalize w.alloc (.cells #[.slice (some ⟨g,o,none⟩) nodes.length c,.int .i64 (r:Int)] 29)=W at *
 obtain⟨n,hn⟩:∃n,nodes.length=n:=⟨_,rfl⟩
 obtain⟨gb,hgb⟩:∃b,w.heap.size=b:=⟨_,rfl⟩
 have hgl:=h1.out.lt
 rw [hgb] at h1 hB1 hgl ⊢
 rw [hn] at h1 hN
 have HN:=Lib.hid hn
 have HGB:=Lib.hid hgb
 have hBg:B≤gb:=by have:=HG.out.2.1;omega
 clear hn hgb
 have x0:=h1.out.cell' (i:=0) rfl
 go_upto_region 3 with(fail)
 clear x0
 obtain⟨q0,hq0⟩:∃q,(Value.slice A0 n0 c0).ownBlock=q:=⟨_,rfl⟩
 have HQ0:=Lib.hid hq0
 have hst0:Hid (∃ncs',W.ownsRow B 43 5 (.slice A0 n0 c0) (n0+0) (ncs ++ ncs')∧NodesRd W (fun b=>gb≤b) ncs' ((nodes.take 0).map (shiftN n0))∧Hid (w.grownBy W q0)∧((Value.slice A0 n0 c0).ownBlock=q0∨∃b,(Value.slice A0 n0 c0).ownBlock=some b∧gb≤b)):=by
  refine⟨[],?_,NodesRd.nil _ _,⟨hB1.out.os,hB1.out.tape,hB1.out.output,by have:=hB1.out.size;have:=HGB.out;omega,fun j hj _=>hB1.out.block j (by have:=HGB.out;omega)⟩,.inl hq0⟩
  rw [List.append_nil]
  exact own_below HO.out (by rw [HGB.out];exact hB1.out)
 have hq0B:Hid (∀b,q0=some b→B≤b∧b<gb):=by
  intro b e
  have h:=HO.out.lt b (hq0.trans e)
  have:=HGB.out
  omega
 have hX0:Hid (Arr W gb 29 [.slice (some ⟨g,o,none⟩) n c,.int .i64 (r:Int)]):=h1.out
 clear hq0 h1
 go_loopw [0,14] (fun sv v wr=>∃(i:Nat),i≤n∧v=.int .i64 (i:Int)∧Hid (∃ncs',wr.ownsRow B 43 5 sv (n0+i) (ncs ++ ncs')∧NodesRd wr (fun b=>gb≤b) ncs' ((nodes.take i).map (shiftN n0))∧Hid (w.grownBy wr q0)∧(sv.ownBlock=q0∨∃b,sv.ownBlock=some b∧gb≤b))∧Hid (Arr wr gb 29 [.slice (some ⟨g,o,none⟩) n c,.int .i64 (r:Int)])) (fun _ v _=>n - (intOf v).toNat)
 case atStart=>exact⟨0,Nat.zero_le _,rfl,hst0,hX0⟩
 case round=>
  obtain⟨i,hi,rfl,hst,hX⟩:=hrel
  obtain⟨ncs1,hrow,hrd,hgr,hsv⟩:=hst.out
  have HROW:=Lib.hid hrow
  have HRD:=Lib.hid hrd
  have HSV:=Lib.hid hsv
  clear hrow hrd hsv hst hst0 hX0
  obtain⟨A1,c1,hv1,_,_⟩:=own_slice HROW.out
  subst hv1
  by_cases him:i=n
  ·obtain rfl:i=n:=him
   have hi':¬(i:Int)<i:=by omega
   have hFin:Hid (AppR w B n0 nodes ncs (.slice A0 n0 c0) (r:Int) (.returned (.tuple #[.slice A1 (n0+i) c1,.int .i64 ((r:Int)+(n0:Int))])) wr):=by
    refine⟨_,ncs1,rfl,?_,?_,?_⟩
    ·have h:=HROW.out
     rw [HN.out]
     exact h
    ·have h:=HRD.out
     rw [List.take_of_length_le (by have:=HN.out;omega)] at h
     rw [HGB.out]
     exact h
    ·rw [HQ0.out];exact hgr.out
   have x1:=hX.out.cell' (i:=1) rfl
   have hr0:(0:Int)≤r:=by omega
   have hr1:(r:Int)<4096:=by have:=HN.out;omega
   have hn00:(0:Int)≤n0:=by omega
   clear hX HROW HRD HSV hgr
   go_upto_region 8 with(fail)
   go_quiet (fail)
   go_wp2_with (fail)
   go_ret2
   obtain⟨v',ncs',he,h2,h3,h4⟩:=hFin.out
   exact⟨v',ncs',he,own_below h2 (Below.drewN' (Below.refl _ _) nq),h3.over (fun b _ hF _=>⟨rfl,hF⟩),⟨h4.os,h4.tape,h4.output,h4.size,h4.block⟩⟩
  ·have hi':(i:Int)<n:=by omega
   have hi0:(0:Int)≤i:=by omega
   have hi2:i<nodes.length:=by have:=HN.out;omega
   have hGr:=Lib.hid (HG.out.grownO hgr.out (fun b e=>(hq0B.out b e).1))
   obtain⟨K,ck,I,ci,d0,d1,d2,d3,d4,⟨hK,hKb⟩,hI1,hI2⟩:=hGr.out.of_at hi2
   have HK:=Lib.hid hK
   have HI1:=Lib.hid hI1
   obtain⟨hlk,hli⟩:=HL.out i hi2
   have hIdx:=HI.out i hi2
   have hTk:Hid ((nodes.take (i+1)).map (shiftN n0)=(nodes.take i).map (shiftN n0) ++ [shiftN n0 (ndAt nodes i)]):=by
    show _=_
    rw [List.take_add_one,ndAt_get hi2];simp
   have hgwr:gb<wr.heap.size:=hX.out.lt
   have hxk:∀x∈(ndAt nodes i).keys,0≤x∧x<65536:=fun x hx=>by have:=hIdx x (by unfold refs;exact List.mem_append.2 (.inl hx));have:=HN.out;omega
   have hxi:∀x∈(ndAt nodes i).items,0≤x∧x<65536:=fun x hx=>by have:=hIdx x (by unfold refs;exact List.mem_append.2 (.inr hx));have:=HN.out;omega
   have HKX:=Lib.hid hxk
   have HIX:=Lib.hid hxi
   clear hK hI1 hIdx hxk hxi
   generalize hnd:ndAt nodes i=nd at *
   clear hnd
   have hND:Hid (Arr (wr.alloc (.cells #[.int .i64 nd.kind,.string (mks nd.text),.bool nd.ord,.slice K nd.keys.length ck,.slice I nd.items.length ci] 43)) wr.heap.size 43 [.int .i64 nd.kind,.string (mks nd.text),.bool nd.ord,.slice K nd.keys.length ck,.slice I nd.items.length ci]):=Arr.new wr _ _
   have hbn:Below wr.heap.size wr (wr.alloc (.cells #[.int .i64 nd.kind,.string (mks nd.text),.bool nd.ord,.slice K nd.keys.length ck,.slice I nd.items.length ci] 43)):=(Below.refl _ _).alloc (Nat.le_refl _) _
   have x0:=hX.out.cell' (i:=0) rfl
   go_upto_region 5 with(fail)
   clear x0 d0 d1 d2 d3 d4
   generalize hw2:(wr.alloc (.cells #[.int .i64 nd.kind,.string (mks nd.text),.bool nd.ord,.slice K nd.keys.length ck,.slice I nd.items.length ci] 43))=w2 at *
   clear hw2
   obtain⟨nb,hnb⟩:∃b,wr.heap.size=b:=⟨_,rfl⟩
   rw [hnb] at hND ⊢
   have HNB:=Lib.hid hnb
   obtain⟨z,hz⟩:∃z,w2.heap.size=z:=⟨_,rfl⟩
   have HZ:=Lib.hid hz
   have hnz:nb<z:=by have:=hND.out.lt;omega
   have HK2:=Lib.hid (HK.out.keep hbn)
   have HI2:=Lib.hid (HI1.out.keep hbn)
   have DK:=Lib.hid (fun w' (h:Below z w2 w')=>shifted_any K ck n0 nd.keys hlk hn0 HKX.out w' (HK2.out.keep (by rw [HZ.out];exact h)))
   have DI:=Lib.hid (fun w' (h:Below z w2 w')=>shifted_any I ci n0 nd.items hli hn0 HIX.out w' (HI2.out.keep (by rw [HZ.out];exact h)))
   have r3:∀w',Below z w2 w'→w'.cell? ⟨nb,3,none⟩=some (.slice K nd.keys.length ck):=fun w' h=>(hND.out.below h hnz).cell' (i:=3) rfl
   have r4:∀w',Below z w2 w'→w'.cell? ⟨nb,4,none⟩=some (.slice I nd.items.length ci):=fun w' h=>(hND.out.below h hnz).cell' (i:=4) rfl
   have q3:∀w',Below z w2 w'→w'.frozen? ⟨nb,3,none⟩=false:=fun w' h=>(hND.out.below h hnz).frozen 3
   have q4:∀w',Below z w2 w'→w'.frozen? ⟨nb,4,none⟩=false:=fun w' h=>(hND.out.below h hnz).frozen 4
   have hS2:Below z w2 w2.drew:=(Below.refl _ _).drew
   have hzs:z≤w2.drew.heap.size:=by show z≤w2.heap.size;omega
   clear hnb hz HK HI1 HK2 HI2
   rw [mload_eq 41 (.tmp 18),mload_eq 41 (.tmp 22)]
   go_region_held3 (fun _=>True) (first | trivial | go_keep)
    (first
     | (go_at_call 82;((with_reducible refine(DK.out _ (by first | assumption)).mono ?_));rintro e w5 ⟨ok,rfl,hok,hb5,hA5⟩;have hS5:Below z w2 w5:=Below.trans (by first | assumption) (hb5.mono (by first | assumption));have hzs5:z≤w5.heap.size:=Nat.le_trans (by first | assumption) hb5.size)
     | (go_at_call 82;((with_reducible refine(DI.out _ (by first | assumption)).mono ?_));rintro e w6 ⟨oi,rfl,hoi,hb6,hA6⟩;have hS6:Below z w2 w6:=Below.trans (by first | assumption) (hb6.mono (by first | assumption));have hzs6:z≤w6.heap.size:=Nat.le_trans (by first | assumption) hb6.size))
   all_goals
    first
     | (obtain⟨wl,hwl,hSl,hAk,hAi,hok2,hoi2⟩:∃wl,wl=w6∧Below z w2 wl∧Hid (Arr wl ok 3 (I64 (nd.keys.map (· + (n0:Int)))))∧Hid (Arr wl oi 3 (I64 (nd.items.map (· + (n0:Int)))))∧z≤ok∧z≤oi:=⟨w6,rfl,hS6,Arr.keep (w:=w5) hA5.out hb6,hA6,Nat.le_trans hzs hok,Nat.le_trans hzs5 hoi⟩)
     | (obtain⟨wl,hwl,hSl,hAk,hAi,hok2,hoi2⟩:∃wl,wl=w5∧Below z w2 wl∧Hid (Arr wl ok 3 (I64 (nd.keys.map (· + (n0:Int)))))∧Hid (Arr wl oi 3 (I64 (nd.items.map (· + (n0:Int)))))∧z≤ok∧z≤oi:=⟨w5,rfl,hS5,hA5,Arr.keep (w:=w6) hA6.out hb5,Nat.le_trans hzs6 hok,Nat.le_trans hzs hoi⟩)
    subst hwl
    have hkn:ok≠nb:=by omega
    have hin2:oi≠nb:=by omega
    have hN7:Hid (Arr ((wl.setCell ⟨nb,3,none⟩ (.slice (some ⟨ok,0,none⟩) nd.keys.length nd.keys.length)).setCell ⟨nb,4,none⟩ (.slice (some ⟨oi,0,none⟩) nd.items.length nd.items.length)) nb 43 [.int .i64 nd.kind,.string (mks nd.text),.bool nd.ord,.slice (some ⟨ok,0,none⟩) nd.keys.length nd.keys.length,.slice (some ⟨oi,0,none⟩) nd.items.length nd.items.length]):=((hND.out.below hSl hnz).store 3 _).store 4 _
    have hK7:=Lib.hid ((hAk.out.far (p:=⟨nb,3,none⟩) hkn (.slice (some ⟨ok,0,none⟩) nd.keys.length nd.keys.length)).far (p:=⟨nb,4,none⟩) hkn (.slice (some ⟨oi,0,none⟩) nd.items.length nd.items.length))
    have hI7:=Lib.hid ((hAi.out.far (p:=⟨nb,3,none⟩) hin2 (.slice (some ⟨ok,0,none⟩) nd.keys.length nd.keys.length)).far (p:=⟨nb,4,none⟩) hin2 (.slice (some ⟨oi,0,none⟩) nd.items.length nd.items.length))
    have hB7:Hid (Below wr.heap.size wr ((wl.setCell ⟨nb,3,none⟩ (.slice (some ⟨ok,0,none⟩) nd.keys.length nd.keys.length)).setCell ⟨nb,4,none⟩ (.slice (some ⟨oi,0,none⟩) nd.items.length nd.items.length))):=((hbn.trans (hSl.mono (by have:=HNB.out;omega))).setCell (p:=⟨nb,3,none⟩) (Nat.le_of_eq HNB.out) _).setCell (p:=⟨nb,4,none⟩) (Nat.le_of_eq HNB.out) _
    clear hA5 hA6 hAk hAi hb5 hb6 hS5 hS6 hzs5 hzs6 hok hoi hSl hS2 hzs r3 r4 q3 q4 DK DI hbn hND
    generalize ((wl.setCell ⟨nb,3,none⟩ (.slice (some ⟨ok,0,none⟩) nd.keys.length nd.keys.length)).setCell ⟨nb,4,none⟩ (.slice (some ⟨oi,0,none⟩) nd.items.length nd.items.length))=w7 at *
    have n0':=hN7.out.cell' (i:=0) rfl
    have n1':=hN7.out.cell' (i:=1) rfl
    have n2':=hN7.out.cell' (i:=2) rfl
    have n3':=hN7.out.cell' (i:=3) rfl
    have n4':=hN7.out.cell' (i:=4) rfl
    have hb7:Hid (Below w7.heap.size w7 (w7.alloc (.cells #[.int .i64 nd.kind,.string (mks nd.text),.bool nd.ord,.slice (some ⟨ok,0,none⟩) nd.keys.length nd.keys.length,.slice (some ⟨oi,0,none⟩) nd.items.length nd.items.length] 43))):=(Below.refl _ _).alloc (Nat.le_refl _) _
    have hrow7:=Lib.hid (own_below HROW.out hB7.out)
    have hBw7:B≤w7.heap.size:=by have:=hB7.out.size;omega
    go_upto_region 7 with(at_builtin;go_loud (refine wpList_apS rfl (.tmp 28) (.tmp 30) 27 rfl B 43 _ 5 _ Tryz.underlying27 infoNd rfl (by decide) _ (n0+i) (ncs ++ ncs1) rfl (hrow7.out.alloc _) ⟨w7.heap.size,0,none⟩ _ [.int .i64 nd.kind,.string (mks nd.text),.bool nd.ord,.slice (some ⟨ok,0,none⟩) nd.keys.length nd.keys.length,.slice (some ⟨oi,0,none⟩) nd.items.length nd.items.length] rfl rfl (cells_new _ _ _) rfl (by unfold maxLen;omega) (by omega) (by simp;omega) ?_;intro v3 w3 hown3 hgr3 hat3;obtain⟨A3,c3',hv3,hc3,hm3⟩:=own_slice hown3;subst hv3))
    have hgr3':Hid ((w7.alloc (.cells #[.int .i64 nd.kind,.string (mks nd.text),.bool nd.ord,.slice (some ⟨ok,0,none⟩) nd.keys.length nd.keys.length,.slice (some ⟨oi,0,none⟩) nd.items.length nd.items.length] 43)).grownBy w3 (Value.slice A1 (n0+i) c1).ownBlock):=hgr3
    have hown3':Hid (w3.ownsRow B 43 5 (.slice A3 (n0+i+1) c3') (n0+i+1) (ncs ++ ncs1 ++ [.int .i64 nd.kind,.string (mks nd.text),.bool nd.ord,.slice (some ⟨ok,0,none⟩) nd.keys.length nd.keys.length,.slice (some ⟨oi,0,none⟩) nd.items.length nd.items.length])):=hown3
    have hat4:(Value.slice A3 (n0+i+1) c3').ownBlock=(Value.slice A1 (n0+i) c1).ownBlock∨(Value.slice A3 (n0+i+1) c3').ownBlock=some (w7.alloc (.cells #[.int .i64 nd.kind,.string (mks nd.text),.bool nd.ord,.slice (some ⟨ok,0,none⟩) nd.keys.length nd.keys.length,.slice (some ⟨oi,0,none⟩) nd.items.length nd.items.length] 43)).heap.size:=hat3
    obtain⟨q1,hq1⟩:∃q,(Value.slice A1 (n0+i) c1).ownBlock=q:=⟨_,rfl⟩
    rw [hq1] at hgr3' hat4
    have hsv1:=HSV.out
    rw [hq1] at hsv1
    have hkeep:Hid (∀b,b<w7.heap.size→q1≠some b→w3.heap[b]? = w7.heap[b]?):=fun b hb hne=>(hgr3'.out.block b (Nat.lt_of_lt_of_le hb hb7.out.size) (fun e=>hne e.symm)).trans (hb7.out.block b hb)
    have hqk:Hid (∀b,q1=some b→∃C fz,w7.heap[b]? = some (.cells C 43 fz)):=fun b e=>own_kind hrow7.out (hq1.trans e)
    have hni:Hid (∀b C fz,w7.heap[b]? = some (.cells C 3 fz)→q1≠some b):=fun b C fz hb e=>by
     obtain⟨C',fz',hb'⟩:=hqk.out b e
     exact absurd (cells_kind hb hb') (by decide)
    have hK3:Hid (Arr w3 ok 3 (I64 (nd.keys.map (· + (n0:Int))))):=(hkeep.out ok hK7.out.lt (hni.out ok _ _ hK7.out)).trans hK7.out
    have hI3:Hid (Arr w3 oi 3 (I64 (nd.items.map (· + (n0:Int))))):=(hkeep.out oi hI7.out.lt (hni.out oi _ _ hI7.out)).trans hI7.out
    have hX3:Hid (Arr w3 gb 29 [.slice (some ⟨g,o,none⟩) n c,.int .i64 (r:Int)]):=by
     have h:=hX.out.keep hB7.out
     exact(hkeep.out gb h.lt (fun e=>by
      obtain⟨C',fz',hb'⟩:=hqk.out gb e
      exact absurd (cells_kind h hb') (by decide))).trans h
    have hst3:Hid (∃ncs',w3.ownsRow B 43 5 (.slice A3 (n0+i+1) c3') (n0+(i+1)) (ncs ++ ncs')∧NodesRd w3 (fun b=>gb≤b) ncs' ((nodes.take (i+1)).map (shiftN n0))∧Hid (w.grownBy w3 q0)∧((Value.slice A3 (n0+i+1) c3').ownBlock=q0∨∃b,(Value.slice A3 (n0+i+1) c3').ownBlock=some b∧gb≤b)):=by
     refine⟨ncs1 ++ [.int .i64 nd.kind,.string (mks nd.text),.bool nd.ord,.slice (some ⟨ok,0,none⟩) nd.keys.length nd.keys.length,.slice (some ⟨oi,0,none⟩) nd.items.length nd.items.length],?_,?_,?_,?_⟩
     ·rw [←List.append_assoc,←Nat.add_assoc];exact hown3'.out
     ·rw [hTk.out]
      refine(HRD.out.over fun b hl hF hk=>?_).app (NodesRd.one ⟨some ⟨ok,0,none⟩,_,_,some ⟨oi,0,none⟩,_,_,rfl,⟨by simp [shiftN],hK3.out.rd,fun ad e=>?_⟩,by simp [shiftN],hI3.out.rd,fun ad e=>?_⟩)
      ·obtain⟨C,fz,hb⟩:=hk
       have h1:=hB7.out.block b hl
       exact⟨(hkeep.out b (Nat.lt_of_lt_of_le hl hB7.out.size) (hni.out b C fz (h1.trans hb))).trans h1,hF⟩
      ·obtain rfl:=Option.some.inj e
       exact⟨by have:=HNB.out;show gb≤ok;omega,_,_,hK3.out⟩
      ·obtain rfl:=Option.some.inj e
       exact⟨by have:=HNB.out;show gb≤oi;omega,_,_,hI3.out⟩
     ·have h1:=hgr.out
      refine⟨hgr3'.out.os.trans (hb7.out.os.trans (hB7.out.os.trans h1.os)),hgr3'.out.tape.trans (hb7.out.tape.trans (hB7.out.tape.trans h1.tape)),hgr3'.out.output.trans (hb7.out.output.trans (hB7.out.output.trans h1.output)),Nat.le_trans h1.size (Nat.le_trans hB7.out.size (Nat.le_trans hb7.out.size hgr3'.out.size)),fun j hj hne=>?_⟩
      have hjr:j<wr.heap.size:=Nat.lt_of_lt_of_le hj h1.size
      refine(hkeep.out j (Nat.lt_of_lt_of_le hjr hB7.out.size) (fun e=>?_)).trans ((hB7.out.block j hjr).trans (h1.block j hj hne))
      rcases hsv1 with h2 | ⟨b,h2,h3⟩
      ·exact hne (e.symm.trans h2)
      ·rw [h2] at e;have:=Option.some.inj e;have:=HGB.out;omega
     ·rcases hat4 with h2 | h2
      ·rw [h2];exact hsv1
      ·refine .inr ⟨_,h2,?_⟩
       have h3:=hb7.out.size
       have h4:=hB7.out.size
       simp at h3 ⊢
       omega
    clear hgr3 hown3 hat3 hat4 hgr3' hown3' hsv1 hkeep hqk hni hK3 hI3 hK7 hI7 hN7 hB7 hb7 hrow7 n0' n1' n2' n3' n4' hX HROW HRD HSV hgr hGr hTk
    go_wp2_with (fail)
    go_roundw
    case rel=>exact⟨i+1,by omega,i64e (by omega),hst3,hX3⟩
    case measure=>simp [intOf];omega
end Go.Proofs.YtgbkbgiogdhnaaaGreatDoor
namespace Go.Proofs.YtgbkbgiogdhnaaaGreatDoor
open Go.RowKit
def LeafR (w:World) (kind:Int) (text:List Nat) (mk:Value→Value) (e:Ending) (w':World):Prop:=∃nb,e=.returned (mk (.agg #[.slice (some ⟨nb,0,none⟩) 1 1,.int .i64 0]))∧w.heap.size≤nb∧Below w.heap.size w w'∧Hid (Arr w' nb 43 [.int .i64 kind,.string (mks text),.bool false,.slice none 0 0,.slice none 0 0])
set_option maxRecDepth 20000 in
set_option maxHeartbeats 4000000 in
theorem gscalar_any (kind:Int) (text:List Nat) (h0:0≤kind) (h8:kind≤8) (hS:ScalC kind text true) (w:World) (hw:LibE w) :
  Calls Tryz.prog 23 #[.int .i64 kind,.string (mks text)] w (LeafR w kind text (fun g=>.tuple #[g,.int .i64 0])):=by
 have h1:Hid (Arr (w.alloc (.cells #[.slice none 0 0,.int .i64 0] 29)) w.heap.size 29 [.slice none 0 0,.int .i64 0]):=Arr.new w _ _
 have hB1:Hid (Below w.heap.size w (w.alloc (.cells #[.slice none 0 0,.int .i64 0] 29))):=(Below.refl _ _).alloc (Nat.le_refl _) _
 have HW:=Lib.hid hw
 have HS:=Lib.hid hS
 have k1:¬kind<0:=by omega
 have k2:¬kind > 8:=by omega
 clear hw hS
 go_enter Tryz.func23,Tryz.ntmps23
 go_upto_region 3 with(fail)
 generalize w.alloc (.cells #[.slice none 0 0,.int .i64 0] 29)=W at *
 have DS:=Lib.hid (HS.out W (HW.out.keep hB1.out))
 go_upto_region 5 with(go_at_call 45;((with_reducible refine DS.out.mono ?_));rintro e w1 ⟨rfl,hb1⟩)
 have h2:=Lib.hid (h1.out.keep hb1)
 have hB2:=Lib.hid (hB1.out.trans (hb1.mono hB1.out.size))
 obtain⟨rb,hrb⟩:∃b,w.heap.size=b:=⟨_,rfl⟩
 have HRB:=Lib.hid hrb
 have hrl:=h2.out.lt
 rw [hrb] at h2 hB2 hrl ⊢
 clear h1 hB1 DS HS HW hb1 hrb
 have c0:=h2.out.cell' (i:=0) rfl
 have c1:=h2.out.cell' (i:=1) rfl
 have f0:=h2.out.frozen 0
 have f1:=h2.out.frozen 1
 have h4:=Lib.hid ((h2.out.store 0 (.slice (some ⟨w1.heap.size,0,none⟩) 1 1)).store 1 (.int .i64 0))
 have hB4:=Lib.hid ((hB2.out.setCell (p:=⟨rb,0,none⟩) (Nat.le_refl _) (.slice (some ⟨w1.heap.size,0,none⟩) 1 1)).setCell (p:=⟨rb,1,none⟩) (Nat.le_refl _) (.int .i64 0))
 have hsz:((w1.setCell ⟨rb,0,none⟩ (.slice (some ⟨w1.heap.size,0,none⟩) 1 1)).setCell ⟨rb,1,none⟩ (.int .i64 0)).heap.size=w1.heap.size:=by simp [World.setCell]
 have hN5:=Lib.hid (Arr.new ((w1.setCell ⟨rb,0,none⟩ (.slice (some ⟨w1.heap.size,0,none⟩) 1 1)).setCell ⟨rb,1,none⟩ (.int .i64 0)) 43 [.int .i64 kind,.string (mks text),.bool false,.slice none 0 0,.slice none 0 0])
 have hbn:Below ((w1.setCell ⟨rb,0,none⟩ (.slice (some ⟨w1.heap.size,0,none⟩) 1 1)).setCell ⟨rb,1,none⟩ (.int .i64 0)).heap.size ((w1.setCell ⟨rb,0,none⟩ (.slice (some ⟨w1.heap.size,0,none⟩) 1 1)).setCell ⟨rb,1,none⟩ (.int .i64 0)) (((w1.setCell ⟨rb,0,none⟩ (.slice (some ⟨w1.heap.size,0,none⟩) 1 1)).setCell ⟨rb,1,none⟩ (.int .i64 0)).alloc (.cells #[.int .i64 kind,.string (mks text),.bool false,.slice none 0 0,.slice none 0 0] 43)):=(Below.refl _ _).alloc (Nat.le_refl _) _
 have h5:=Lib.hid (h4.out.keep hbn)
 have hB5:=Lib.hid (hB4.out.trans (hbn.mono (by rw [hsz];exact Nat.le_of_lt hrl)))
 rw [hsz] at hN5
 clear h2 hB2 hbn h4 hB4 hsz
 go_wp2_with (fail)
 clear c0 c1 f0 f1
 generalize ((w1.setCell ⟨rb,0,none⟩ (.slice (some ⟨w1.heap.size,0,none⟩) 1 1)).setCell ⟨rb,1,none⟩ (.int .i64 0)).alloc (.cells #[.int .i64 kind,.string (mks text),.bool false,.slice none 0 0,.slice none 0 0] 43)=w6 at *
 have r0:=h5.out.cell' (i:=0) rfl
 have r1:=h5.out.cell' (i:=1) rfl
 refine bodyPost_ret (v:=.tuple #[.agg #[.slice (some ⟨w1.heap.size,0,none⟩) 1 1,.int .i64 0],.int .i64 0]) (by simp [results,Tryz.results23,go_sem,r0,r1]) rfl ?_
 exact⟨_,rfl,by have:=HRB.out;omega,by rw [HRB.out];exact hB5.out,hN5⟩
end Go.Proofs.YtgbkbgiogdhnaaaGreatDoor
namespace Go.Proofs.YtgbkbgiogdhnaaaGreatDoor
open Go.RowKit
set_option maxRecDepth 20000 in
set_option maxHeartbeats 4000000 in
theorem checked_ok {B g o c:Nat} {nodes:List GNode} {root:Int} (hO:ChkOK nodes root) (h0:chkV nodes root=0) (w:World) (hw:LibE w) (hG:GRd w B g o nodes) :
  Calls Tryz.prog 47 #[.agg #[.slice (some ⟨g,o,none⟩) nodes.length c,.int .i64 root]] w fun e w'=>e=.returned (.tuple #[.agg #[.slice (some ⟨g,o,none⟩) nodes.length c,.int .i64 root],.int .i64 0])∧Below w.heap.size w w':=by
 have h1:Hid (Arr (w.alloc (.cells #[.slice (some ⟨g,o,none⟩) nodes.length c,.int .i64 root] 29)) w.heap.size 29 [.slice (some ⟨g,o,none⟩) nodes.length c,.int .i64 root]):=Arr.new w _ _
 have hB1:Hid (Below w.heap.size w (w.alloc (.cells #[.slice (some ⟨g,o,none⟩) nodes.length c,.int .i64 root] 29))):=(Below.refl _ _).alloc (Nat.le_refl _) _
 have HO:=Lib.hid hO
 have HG:=Lib.hid hG
 have HW:=Lib.hid hw
 have HZ:=Lib.hid h0
 clear hO hG hw h0
 go_enter Tryz.func47,Tryz.ntmps47
 go_upto_region 1 with(fail)
 have hsz:(w.alloc (.cells #[.slice (some ⟨g,o,none⟩) nodes.length c,.int .i64 root] 29)).heap.size=w.heap.size+1:=by simp
 have h2:Hid (Arr ((w.alloc (.cells #[.slice (some ⟨g,o,none⟩) nodes.length c,.int .i64 root] 29)).alloc (.cells #[.slice none 0 0,.int .i64 0] 29)) (w.heap.size+1) 29 [.slice none 0 0,.int .i64 0]):=by
  rw [←hsz];exact Arr.new _ _ _
 have hb2:Below (w.alloc (.cells #[.slice (some ⟨g,o,none⟩) nodes.length c,.int .i64 root] 29)).heap.size _ ((w.alloc (.cells #[.slice (some ⟨g,o,none⟩) nodes.length c,.int .i64 root] 29)).alloc (.cells #[.slice none 0 0,.int .i64 0] 29)):=(Below.refl _ _).alloc (Nat.le_refl _) _
 have hA:=Lib.hid (h1.out.keep hb2)
 have hB2:=Lib.hid (hB1.out.trans (hb2.mono (by rw [hsz];omega)))
 clear h1 hB1 hb2 hsz
 generalize (w.alloc (.cells #[.slice (some ⟨g,o,none⟩) nodes.length c,.int .i64 root] 29)).alloc (.cells #[.slice none 0 0,.int .i64 0] 29)=W at *
 have DC:=Lib.hid (gcheck_any (c:=c) HO.out W (HW.out.keep hB2.out) (HG.out.below hB2.out HG.out.2.1))
 rw [HZ.out] at DC
 have a0:=hA.out.cell' (i:=0) rfl
 have a1:=hA.out.cell' (i:=1) rfl
 clear HO HG HW HZ
 go_upto_region 2 with(go_at_call 40;((with_reducible refine DC.out.mono ?_));rintro e w1 ⟨rfl,hb1⟩)
 clear a0 a1 DC
 have h3:=Lib.hid (h2.out.keep hb1)
 have hA3:=Lib.hid (hA.out.keep hb1)
 have hB3:=Lib.hid (hB2.out.trans (hb1.mono hB2.out.size))
 clear h2 hA hB2 hb1
 obtain⟨rb,hrb⟩:∃b,w.heap.size=b:=⟨_,rfl⟩
 have HRB:=Lib.hid hrb
 rw [hrb] at h3 hA3 hB3 ⊢
 clear hrb
 have a0:=hA3.out.cell' (i:=0) rfl
 have a1:=hA3.out.cell' (i:=1) rfl
 have d0:=h3.out.cell' (i:=0) rfl
 have d1:=h3.out.cell' (i:=1) rfl
 have f0:=h3.out.frozen 0
 have f1:=h3.out.frozen 1
 have h5:=Lib.hid ((h3.out.store 0 (.slice (some ⟨g,o,none⟩) nodes.length c)).store 1 (.int .i64 root))
 have hB5:=Lib.hid ((hB3.out.setCell (p:=⟨rb+1,0,none⟩) (Nat.le_succ _) (.slice (some ⟨g,o,none⟩) nodes.length c)).setCell (p:=⟨rb+1,1,none⟩) (Nat.le_succ _) (.int .i64 root))
 clear h3 hA3 hB3
 go_wp2_with (fail)
 clear a0 a1 d0 d1 f0 f1
 generalize (w1.setCell ⟨rb+1,0,none⟩ (.slice (some ⟨g,o,none⟩) nodes.length c)).setCell ⟨rb+1,1,none⟩ (.int .i64 root)=w6 at *
 have r0:=h5.out.cell' (i:=0) rfl
 have r1:=h5.out.cell' (i:=1) rfl
 refine bodyPost_ret (v:=.tuple #[.agg #[.slice (some ⟨g,o,none⟩) nodes.length c,.int .i64 root],.int .i64 0]) (by simp [results,Tryz.results47,go_sem,r0,r1]) rfl ?_
 exact⟨rfl,by rw [HRB.out];exact hB5.out⟩
end Go.Proofs.YtgbkbgiogdhnaaaGreatDoor
namespace Go.Proofs.YtgbkbgiogdhnaaaGreatDoor
open Go.RowKit
set_option maxRecDepth 20000 in
set_option maxHeartbeats 4000000 in
theorem shared_no {B g o c:Nat} {nodes:List GNode} {root:Int} (hV:indicesV nodes root=true) (hL:NL 65536 nodes) (hN:nodes.length≤65536) (h1c:∀x∈countsV nodes root,x≤1) (h0c:(countsV nodes root).length=nodes.length) (w:World) (hG:GRd w B g o nodes) :
  Calls Tryz.prog 48 #[.agg #[.slice (some ⟨g,o,none⟩) nodes.length c,.int .i64 root]] w fun e w'=>e=.returned (.bool false)∧Below w.heap.size w w':=by
 have h1:Hid (Arr (w.alloc (.cells #[.slice (some ⟨g,o,none⟩) nodes.length c,.int .i64 root] 29)) w.heap.size 29 [.slice (some ⟨g,o,none⟩) nodes.length c,.int .i64 root]):=Arr.new w _ _
 have hB1:Hid (Below w.heap.size w (w.alloc (.cells #[.slice (some ⟨g,o,none⟩) nodes.length c,.int .i64 root] 29))):=(Below.refl _ _).alloc (Nat.le_refl _) _
 have HC1:=Lib.hid h1c
 have HC0:=Lib.hid h0c
 have HG:=Lib.hid hG
 clear hG h1c h0c
 go_enter Tryz.func48,Tryz.ntmps48
 go_upto_region 1 with(fail)
 generalize w.alloc (.cells #[.slice (some ⟨g,o,none⟩) nodes.length c,.int .i64 root] 29)=W at *
 have DC:=Lib.hid (counts_any (c:=c) hV hL hN W (HG.out.below hB1.out HG.out.2.1))
 have a0:=h1.out.cell' (i:=0) rfl
 have a1:=h1.out.cell' (i:=1) rfl
 obtain⟨n,hn⟩:∃n,nodes.length=n:=⟨_,rfl⟩
 rw [hn] at DC HC0 hN a0 ⊢
 clear hn HG h1
 go_upto_region 2 with(go_at_call 65;((with_reducible refine DC.out.mono ?_));rintro e w1 ⟨cb,rfl,hcb,hb1,hC⟩)
 have hB2:=Lib.hid (hB1.out.trans (hb1.mono hB1.out.size))
 clear a0 a1 DC hb1 hB1 hcb
 generalize countsV nodes root=cs at *
 go_loopw [8] (fun v wr=>∃i:Nat,i≤n∧v=.int .i64 (i:Int)∧w1=wr) (fun v _=>n - (intOf v).toNat)
 case atStart=>exact⟨0,Nat.zero_le _,rfl,rfl⟩
 case round=>
  obtain⟨i,hi,rfl,rfl⟩:=hrel
  by_cases hin:i=n
  ·have hin':¬(i:Int)<n:=by omega
   go_wp2_with (fail)
   go_ret
   exact⟨rfl,hB2.out⟩
  ·have hin':(i:Int)<n:=by omega
   have hi0:(0:Int)≤i:=by omega
   obtain⟨x,hx⟩:∃x,cs[i]? = some x:=⟨_,List.getElem?_eq_getElem (by have:=HC0.out;omega)⟩
   have hx1:¬x > 1:=by have:=HC1.out x (List.mem_of_getElem? hx);omega
   have c0:=hC.out.cell' (I64_get hx)
   go_wp2_with (fail)
   go_roundw
   case rel=>exact⟨i+1,by omega,i64e (by omega),trivial⟩
   case measure=>simp [intOf];omega
end Go.Proofs.YtgbkbgiogdhnaaaGreatDoor
namespace Go.Proofs.YtgbkbgiogdhnaaaGreatDoor
open Go.RowKit
structure GArg where
 g:Nat
 o:Nat
 c:Nat
 nodes:List GNode
def addT (x:List Int×List GNode) (nodes:List GNode):List Int×List GNode:=(x.1 ++ [((1+x.2.length:Nat):Int)],x.2 ++ nodes.map (shiftN (1+x.2.length)))
def listT (gs:List (List GNode)):List Int×List GNode:=gs.foldl addT ([],[])
def listN (gs:List (List GNode)):List GNode:=⟨9,[],false,[],(listT gs).1⟩ :: (listT gs).2
structure MSt where
 ks:List Int
 is:List Int
 rest:List GNode
def addM (x:MSt) (p:List GNode×List GNode):MSt:=⟨x.ks ++ [((1+x.rest.length:Nat):Int)],x.is ++ [((1+(x.rest ++ p.1.map (shiftN (1+x.rest.length))).length:Nat):Int)],(x.rest ++ p.1.map (shiftN (1+x.rest.length))) ++ p.2.map (shiftN (1+(x.rest ++ p.1.map (shiftN (1+x.rest.length))).length))⟩
def mapT (ps:List (List GNode×List GNode)):MSt:=ps.foldl addM ⟨[],[],[]⟩
def mapN (ps:List (List GNode×List GNode)):List GNode:=⟨10,[],false,(mapT ps).ks,(mapT ps).is⟩ :: (mapT ps).rest
def GsRd (w:World) (B ab:Nat) (gs:List GArg):Prop:=ab<B∧∀(j:Nat) (x:GArg),gs[j]? = some x→w.cell? ⟨ab,j*2,none⟩=some (.slice (some ⟨x.g,x.o,none⟩) x.nodes.length x.c)∧w.cell? ⟨ab,j*2+1,none⟩=some (.int .i64 0)∧GRd w B x.g x.o x.nodes
def PsRd (w:World) (B:Nat) (A:Option Addr) (ps:List (GArg×GArg)):Prop:=∀(j:Nat) (x:GArg×GArg),ps[j]? = some x→∃ab,A=some ⟨ab,0,none⟩∧ab<B∧w.cell? ⟨ab,j*4,none⟩=some (.slice (some ⟨x.1.g,x.1.o,none⟩) x.1.nodes.length x.1.c)∧w.cell? ⟨ab,j*4+1,none⟩=some (.int .i64 0)∧w.cell? ⟨ab,j*4+2,none⟩=some (.slice (some ⟨x.2.g,x.2.o,none⟩) x.2.nodes.length x.2.c)∧w.cell? ⟨ab,j*4+3,none⟩=some (.int .i64 0)∧GRd w B x.1.g x.1.o x.1.nodes∧GRd w B x.2.g x.2.o x.2.nodes
theorem GsRd.below {w w':World} {B B' ab:Nat} {gs:List GArg} (h:GsRd w B ab gs) (hb:Below B' w w') (hB:B≤B'):GsRd w' B ab gs:=
 ⟨h.1,fun j x hx=>by
  obtain⟨h1,h2,h3⟩:=h.2 j x hx
  have ha:=h.1
  exact⟨(hb.cell (p:=⟨ab,j*2,none⟩) (show ab<B' by omega)).trans h1,(hb.cell (p:=⟨ab,j*2+1,none⟩) (show ab<B' by omega)).trans h2,h3.below hb hB⟩⟩
theorem PsRd.below {w w':World} {B B':Nat} {A:Option Addr} {ps:List (GArg×GArg)} (h:PsRd w B A ps) (hb:Below B' w w') (hB:B≤B'):PsRd w' B A ps:=
 fun j x hx=>by
  obtain⟨ab,he,ha,h1,h2,h3,h4,h5,h6⟩:=h j x hx
  exact⟨ab,he,ha,(hb.cell (p:=⟨ab,j*4,none⟩) (show ab<B' by omega)).trans h1,(hb.cell (p:=⟨ab,j*4+1,none⟩) (show ab<B' by omega)).trans h2,(hb.cell (p:=⟨ab,j*4+2,none⟩) (show ab<B' by omega)).trans h3,(hb.cell (p:=⟨ab,j*4+3,none⟩) (show ab<B' by omega)).trans h4,h5.below hb hB,h6.below hb hB⟩
structure ArgOK (nodes:List GNode):Prop where
 chk:ChkOK nodes 0
 zero:chkV nodes 0=0
theorem ArgOK.idx {nodes:List GNode} (h:ArgOK nodes):Idx nodes:=(idx_of (chkV_zero h.zero).1).2
def App0 (w:World) (Bo:Nat) (n0:Nat) (nodes:List GNode) (ncs:List Value) (v:Value) (e:Ending) (w':World):Prop:=
 ∃v' ncs',e=.returned (.tuple #[v',.int .i64 (n0:Int)])∧w'.ownsRow Bo 43 5 v' (n0+(nodes.map (shiftN n0)).length) (ncs ++ ncs')∧NodesRd w' (fun b=>w.heap.size≤b) ncs' (nodes.map (shiftN n0))∧w.grownBy w' v.ownBlock
theorem appended_zero {B g o c n0:Nat} {nodes:List GNode} {v:Value} {ncs:List Value} (h:ArgOK nodes) (hn0:n0≤65536) (w:World) (hG:GRd w B g o nodes) (hO:w.ownsRow B 43 5 v n0 ncs) :
  Calls Tryz.prog 46 #[v,.agg #[.slice (some ⟨g,o,none⟩) nodes.length c,.int .i64 0]] w (App0 w B n0 nodes ncs v):=by
 refine(appended_any (r:=0) (c:=c) h.chk.nl h.chk.n1 hn0 h.idx h.chk.n0 w hG hO).mono ?_
 rintro e w' ⟨v',ncs',rfl,h1,h2,h3⟩
 exact⟨v',ncs',by simp,by rw [List.length_map];exact h1,h2,h3⟩
section
variable {w w':World} {B:Nat} {kd:Int} {od:Bool} {v vk vi:Value} {ks is:List Int} {rest:List GNode} {ncs:List Value}
theorem Tab.other (h:Tab w B kd od v vk vi ks is rest ncs) {r:Nat} {t:TypeId} {cs:List Value} (hA:Arr w r t cs) (h1:43≠t) (h2:3≠t) (hg:w.grownBy w' (some r)):Tab w' B kd od v vk vi ks is rest ncs where
 row:=own_grown h.row hg (own_arr h.row hA h1)
 rk:=own_grown h.rk hg (own_arr h.rk hA h2)
 ri:=own_grown h.ri hg (own_arr h.ri hA h2)
 ne:=h.ne
 rd:=h.rd.over fun b hl hF hk=>⟨hg.block b hl (fun e=>by
  have:=Option.some.inj e
  subst this
  obtain⟨C,fz,hc⟩:=hk
  exact h2 (cells_kind hc hA)),hF⟩
theorem Tab.new (w:World) (B:Nat) (hB:B≤w.heap.size) (kd:Int) (od:Bool):Tab (w.alloc (.cells (headC kd od (.slice none 0 0) (.slice none 0 0)).toArray 43)) B kd od (.slice (some ⟨w.heap.size,0,none⟩) 1 1) (.slice none 0 0) (.slice none 0 0) [] [] [] [] where
 row:=⟨rfl,.inr ⟨w.heap.size,1,(headC kd od (.slice none 0 0) (.slice none 0 0)).toArray,rfl,hB,Arr.new w 43 (headC kd od (.slice none 0 0) (.slice none 0 0)),Nat.le_refl _,by unfold maxLen;omega,rfl,rfl⟩⟩
 rk:=World.ownsRow_nil _ _ _ _
 ri:=World.ownsRow_nil _ _ _ _
 ne:=fun b h=>by cases h
 rd:=NodesRd.nil _ _
end
end Go.Proofs.YtgbkbgiogdhnaaaGreatDoor
