/- The walks of canon's scalar, of, entries and acyclic, at graphs of one leaf. -/
import Derived.Test.YtgbkbgiogdhnaaaGreatDoorMCa
import Derived.Test.YtgbkbgiogdhnaaaGreatDoorShelf
import Derived.Deep.QuietTactic
import Derived.BigQuiet
import Derived.Test.YtgbkbgiogdhnaaaGreatDoorMBb
import Derived.Maps.OwnSet
import Derived.DeepKeys4
import Derived.Test.YtgbkbgiogdhnaaaGreatDoorMAa
import Derived.Test.YtgbkbgiogdhnaaaGreatDoorMBf
import Derived.Test.YtgbkbgiogdhnaaaGreatDoorProg
import Derived.Deep.RegionHeld3
import Derived.IntWalk
set_option linter.unusedVariables false
set_option linter.unusedSimpArgs false
set_option linter.defProp false
set_option linter.constructorNameAsVariable false
namespace Go.Proofs.YtgbkbgiogdhnaaaGreatDoor
open Go.RowKit
def sclV (s t:ByteArray):Int:=if s.toList=t.toList then 0 else Lib.compareBytes s.data.toList t.data.toList
set_option maxRecDepth 20000 in
set_option maxHeartbeats 4000000 in
theorem cscalar_any (s t:ByteArray) (w:World):Calls Tryz.prog 215 #[.int .i64 5,.string s,.string t] w fun e w'=>e=.returned (.int .i64 (sclV s t))∧w'=w:=by
 obtain⟨v,hv⟩:∃v,sclV s t=v:=⟨_,rfl⟩
 rw [hv]
 unfold sclV at hv
 by_cases h:s.toList=t.toList
 ·rw [if_pos h] at hv
  subst hv
  have hb:(s.toList == t.toList)=true:=by simpa using h
  go_enter Tryz.func215,Tryz.ntmps215
  go_wp2_with (fail)
  go_ret
  exact⟨rfl,rfl⟩
 ·rw [if_neg h] at hv
  have DC:=Lib.hid (Tryz.strings_Compare s t)
  rw [hv] at DC
  clear hv
  have hb:(s.toList == t.toList)=false:=by simpa using h
  go_enter Tryz.func215,Tryz.ntmps215
  go_wp2_with (go_at_call 112;((with_reducible refine(DC.out _).mono ?_));rintro e w2 ⟨rfl,rfl⟩)
  go_ret
  exact⟨rfl,rfl⟩
def acyV (nodes:List GNode) (root:Int):Int:=if chkV nodes root=0 then (if (depthR nodes root).2=true then 0 else 14) else 3
set_option maxRecDepth 20000 in
set_option maxHeartbeats 4000000 in
theorem acyclic_any {B g o c:Nat} {nodes:List GNode} {root:Int} (hO:ChkOK nodes root) (w:World) (hw:LibE w) (hG:GRd w B g o nodes) :
  Calls Tryz.prog 138 #[.agg #[.slice (some ⟨g,o,none⟩) nodes.length c,.int .i64 root]] w fun e w'=>e=.returned (.int .i64 (acyV nodes root))∧Below w.heap.size w w':=by
 have h1:Hid (Arr (w.alloc (.cells #[.slice (some ⟨g,o,none⟩) nodes.length c,.int .i64 root] 29)) w.heap.size 29 [.slice (some ⟨g,o,none⟩) nodes.length c,.int .i64 root]):=Arr.new w _ _
 have hB1:Hid (Below w.heap.size w (w.alloc (.cells #[.slice (some ⟨g,o,none⟩) nodes.length c,.int .i64 root] 29))):=(Below.refl _ _).alloc (Nat.le_refl _) _
 have HG:=Lib.hid hG
 have HW:=Lib.hid hw
 have hwW:=hw.keep hB1.out
 have hGW:=HG.out.below hB1.out HG.out.2.1
 have DC:=Lib.hid (gcheck_any (c:=c) hO _ hwW hGW)
 have DD:=Lib.hid (fun(w':World) (h:LibE w') (h':GRd w' B g o nodes)=>gdepth_any (c:=c) hO w' h h')
 obtain⟨R,hR⟩:∃R,acyV nodes root=R:=⟨_,rfl⟩
 have HR:=Lib.hid hR
 rw [hR]
 unfold acyV at hR
 clear hO hG hw HR
 go_enter Tryz.func138,Tryz.ntmps138
 go_upto_region 1 with(fail)
 generalize w.alloc (.cells #[.slice (some ⟨g,o,none⟩) nodes.length c,.int .i64 root] 29)=W at *
 have x0:=h1.out.cell' (i:=0) rfl
 have x1:=h1.out.cell' (i:=1) rfl
 have hgl:=h1.out.lt
 generalize nodes.length=n at *
 by_cases hc:chkV nodes root=0
 ·rw [if_pos hc] at hR
  rw [hc] at DC
  generalize (depthR nodes root).1=dv at *
  generalize (depthR nodes root).2=db at *
  clear hc
  go_upto_region 3 with(go_at_call 40;((with_reducible refine DC.out.mono ?_));rintro e w2 ⟨rfl,hb2⟩)
  have hX2:=Lib.hid (h1.out.keep hb2)
  have hB2:=Lib.hid (hB1.out.trans (hb2.mono hB1.out.size))
  clear x0 x1 DC
  have x0:=hX2.out.cell' (i:=0) rfl
  have x1:=hX2.out.cell' (i:=1) rfl
  have hw2:=Lib.hid (HW.out.keep hB2.out)
  have hG2:=Lib.hid (HG.out.below hB2.out HG.out.2.1)
  cases db with
  | true=>
   rw [if_pos rfl] at hR
   subst hR
   go_wp2_with (go_at_call 179;((with_reducible refine(DD.out _ hw2.out hG2.out).mono ?_));rintro e w3 ⟨rfl,hb3⟩)
   go_ret
   exact⟨rfl,hB2.out.trans (hb3.mono hB2.out.size)⟩
  | false=>
   rw [if_neg (by simp)] at hR
   subst hR
   go_wp2_with (go_at_call 179;((with_reducible refine(DD.out _ hw2.out hG2.out).mono ?_));rintro e w3 ⟨rfl,hb3⟩)
   go_ret
   exact⟨rfl,hB2.out.trans (hb3.mono hB2.out.size)⟩
 ·rw [if_neg hc] at hR
  subst hR
  generalize chkV nodes root=cv at *
  have hc2:(cv != 0)=true:=by simpa using hc
  go_wp2_with (go_at_call 40;((with_reducible refine DC.out.mono ?_));rintro e w2 ⟨rfl,hb2⟩)
  go_ret
  exact⟨rfl,hB1.out.trans (hb2.mono hB1.out.size)⟩
theorem mk_ints1 (w:World):(Instr.makeSlice 153 (.int .i64 1) (.int .i64 1)).run Tryz.prog w=.ok (.slice (some ⟨w.heap.size,0,none⟩) 1 1) (w.alloc (.cells #[.slice none 0 0] 41)):=by kernel_rfl
structure TabR (w:World) (tb sb g c:Nat):Prop where
 tab:Arr w tb 204 [.slice (some ⟨g,0,none⟩) 1 c,.int .i64 0,.slice (some ⟨sb,0,none⟩) 1 1]
 srt:Arr w sb 41 [.slice none 0 0]
theorem TabR.below {w w':World} {B tb sb g c:Nat} (h:TabR w tb sb g c) (hb:Below B w w') (h1:tb<B) (h2:sb<B):TabR w' tb sb g c:=⟨h.tab.below hb h1,h.srt.below hb h2⟩
theorem TabR.keep {w w':World} {tb sb g c:Nat} (h:TabR w tb sb g c) (hb:Below w.heap.size w w'):TabR w' tb sb g c:=⟨h.tab.keep hb,h.srt.keep hb⟩
set_option maxRecDepth 20000 in
set_option maxHeartbeats 4000000 in
theorem canonOf_any {g c:Nat} (w:World) :
  Calls Tryz.prog 103 #[.agg #[.slice (some ⟨g,0,none⟩) 1 c,.int .i64 0]] w fun e w'=>∃tb sb,e=.returned (.pointer (some ⟨tb,0,none⟩))∧w.heap.size≤tb∧w.heap.size≤sb∧Below w.heap.size w w'∧TabR w' tb sb g c:=by
 have h1:Hid (Arr (w.alloc (.cells #[.slice (some ⟨g,0,none⟩) 1 c,.int .i64 0] 29)) w.heap.size 29 [.slice (some ⟨g,0,none⟩) 1 c,.int .i64 0]):=Arr.new w _ _
 have hB1:Hid (Below w.heap.size w (w.alloc (.cells #[.slice (some ⟨g,0,none⟩) 1 c,.int .i64 0] 29))):=(Below.refl _ _).alloc (Nat.le_refl _) _
 go_enter Tryz.func103,Tryz.ntmps103
 go_upto_region 1 with(fail)
 generalize w.alloc (.cells #[.slice (some ⟨g,0,none⟩) 1 c,.int .i64 0] 29)=W at *
 have x0:W.drew.cell? ⟨w.heap.size,0,none⟩=some (.slice (some ⟨g,0,none⟩) 1 c):=h1.out.cell' (i:=0) rfl
 have x1:W.drew.cell? ⟨w.heap.size,1,none⟩=some (.int .i64 0):=h1.out.cell' (i:=1) rfl
 have hmk:=mk_ints1 W.drew
 have h1a:Hid (Arr (W.alloc (.cells #[.slice none 0 0] 41)) w.heap.size 29 [.slice (some ⟨g,0,none⟩) 1 c,.int .i64 0]):=h1.out.alloc _
 have y0:=h1.out.cell' (i:=0) rfl
 have y1:=h1.out.cell' (i:=1) rfl
 have z0:=h1a.out.cell' (i:=0) rfl
 have z1:=h1a.out.cell' (i:=1) rfl
 go_region
 obtain⟨hS2,hT2,hb2,hz2⟩:=box2 W 41 204 [.slice none 0 0] [.slice (some ⟨g,0,none⟩) 1 c,.int .i64 0,.slice (some ⟨W.heap.size,0,none⟩) 1 1]
 have hs:=hB1.out.size
 go_wp2_with (fail)
 go_ret
 exact⟨W.heap.size+1,W.heap.size,rfl,by omega,hs,(hB1.out.trans (hb2.mono hs)).drew,⟨hT2.out,hS2.out⟩⟩
set_option maxRecDepth 20000 in
set_option maxHeartbeats 8000000 in
theorem centries_leaf {B tb sb g c:Nat} {nd:GNode} (h2:nd.items = []) (hk:nd.kind=5) (w:World) (hG:GRd w B g 0 [nd]) (hT:TabR w tb sb g c) :
  Calls Tryz.prog 105 #[.pointer (some ⟨tb,0,none⟩),.int .i64 0] w fun e w'=>∃ob,e=.returned (.slice (some ⟨ob,0,none⟩) 0 0)∧w.grownBy w' (some sb):=by
 have h1:Hid (Arr (w.alloc (.cells #[.pointer (some ⟨tb,0,none⟩)] 166)) w.heap.size 166 [.pointer (some ⟨tb,0,none⟩)]):=Arr.new w _ _
 have hB1:Hid (Below w.heap.size w (w.alloc (.cells #[.pointer (some ⟨tb,0,none⟩)] 166))):=(Below.refl _ _).alloc (Nat.le_refl _) _
 have HG:=Lib.hid hG
 have HT:=Lib.hid (hT.keep hB1.out)
 have htl:=hT.tab.lt
 have hsl:=hT.srt.lt
 clear hG hT
 go_enter Tryz.func105,Tryz.ntmps105
 go_upto_region 1 with(fail)
 generalize w.alloc (.cells #[.pointer (some ⟨tb,0,none⟩)] 166)=W at *
 obtain⟨pb,hpb⟩:∃b,w.heap.size=b:=⟨_,rfl⟩
 rw [hpb] at h1 hB1 htl hsl ⊢
 have HPB:=Lib.hid hpb
 clear hpb
 have hGW:=Lib.hid (HG.out.below hB1.out (by have:=HG.out.2.1;have:=HPB.out;omega))
 have x0:=h1.out.cell' (i:=0) rfl
 have t0:=HT.out.tab.cell' (i:=0) rfl
 have t2:=HT.out.tab.cell' (i:=2) rfl
 have s0:=HT.out.srt.cell' (i:=0) rfl
 have hn5:Hid (Arr (W.alloc (.cells #[.pointer (some ⟨g,0,none⟩)] 169)) W.heap.size 169 [.pointer (some ⟨g,0,none⟩)]):=Arr.new W _ _
 have hb5:Hid (Below W.heap.size W (W.alloc (.cells #[.pointer (some ⟨g,0,none⟩)] 169))):=(Below.refl _ _).alloc (Nat.le_refl _) _
 go_upto_region 2 with(fail)
 clear x0 t0
 generalize (W.alloc (.cells #[.pointer (some ⟨g,0,none⟩)] 169))=w5 at *
 obtain⟨qb,hqb⟩:∃b,W.heap.size=b:=⟨_,rfl⟩
 have hs1:=hB1.out.size
 rw [hqb] at hn5 ⊢
 have HP5:=Lib.hid (h1.out.keep hb5.out)
 have HT5:=Lib.hid (HT.out.keep hb5.out)
 have hG5:=Lib.hid (hGW.out.below hb5.out (by exact hGW.out.2.1))
 have hg5:Hid (w.grownBy w5 (some sb)):=⟨hb5.out.os.trans hB1.out.os,hb5.out.tape.trans hB1.out.tape,hb5.out.output.trans hB1.out.output,Nat.le_trans hB1.out.size hb5.out.size,fun j hj _=>(hb5.out.block j (by omega)).trans (hB1.out.block j (by rw [←HPB.out];exact hj))⟩
 have hqs:sb<qb:=by have:=HPB.out;omega
 clear hqb t2 s0 h1 hB1 HT hGW hb5
 obtain⟨K,ck,I,ci,c0,_,_,_,c4,_,_⟩:=hG5.out.of_at (i:=0) (by simp)
 rw [Nat.zero_mul,Nat.add_zero] at c0 c4
 have e0:ndAt [nd] 0=nd:=rfl
 rw [e0] at c0 c4
 rw [hk] at c0
 rw [h2] at c4
 simp only [List.length_nil] at c4
 clear e0
 have x0:=HP5.out.cell' (i:=0) rfl
 have n0:=hn5.out.cell' (i:=0) rfl
 have t2:=HT5.out.tab.cell' (i:=2) rfl
 have s0:=HT5.out.srt.cell' (i:=0) rfl
 go_upto_region 5 with(at_make;go_loud (refine wpList_mk rfl _ _ 41 rfl 3 _ _ Tryz.underlying41 infoInt rfl _ _ _ _ rfl rfl 0 0 (by omega) (by omega) (by omega) (by omega) (by unfold maxLen;omega) ?_;intro ob w6 hob hO hb6 hz6))
 have hg6:Hid (w.grownBy w6 (some sb)):=grown_trans hg5.out ⟨hb6.os,hb6.tape,hb6.output,hb6.size,fun j hj _=>hb6.block j hj⟩
 have HP6:=Lib.hid (HP5.out.keep hb6)
 have HN6:=Lib.hid (hn5.out.keep hb6)
 have HT6:=Lib.hid (HT5.out.keep hb6)
 have c6:=(hb6.cell (block_lt_of_cell c0)).trans c0
 clear x0 n0 t2 s0 c0 c4 hob hO hb6 hz6 HP5 hn5 HT5 hG5 hg5
 go_upto_region 6 with(fail)
 go_loop [38] (fun v=>v=.int .i64 0) (fun _=>0)
 case atStart=>rfl
 case round=>
  obtain rfl:=hrel
  have x0:=HP6.out.cell' (i:=0) rfl
  have n0:=HN6.out.cell' (i:=0) rfl
  have t2:=HT6.out.tab.cell' (i:=2) rfl
  have s0:=HT6.out.srt.cell' (i:=0) rfl
  have sf:=HT6.out.srt.frozen 0
  go_wp2_with (fail)
  go_ret
  exact⟨⟨ob,rfl⟩,grown_trans hg6.out (grown_set _ ⟨sb,0,none⟩ _)⟩
end Go.Proofs.YtgbkbgiogdhnaaaGreatDoor
namespace Go.Proofs.YtgbkbgiogdhnaaaGreatDoor
open Go.RowKit Go.Maps
def TextN (nodes:List GNode) (k:Nat):Prop:=k<nodes.length∧(ndAt nodes k).kind=5∧(ndAt nodes k).ord=false
theorem text_cells {w:World} {B g o:Nat} {nodes:List GNode} {k:Nat} (hG:GRd w B g o nodes) (hk:TextN nodes k):w.cell? ⟨g,o+k*5,none⟩=some (.int .i64 5)∧w.cell? ⟨g,o+k*5+1,none⟩=some (.string (mks (ndAt nodes k).text))∧w.cell? ⟨g,o+k*5+2,none⟩=some (.bool false):=by
 obtain⟨K,ck,I,ci,c0,c1,c2,_⟩:=hG.of_at hk.1
 rw [hk.2.1] at c0
 rw [hk.2.2] at c2
 exact⟨c0,c1,c2⟩
def RetQ (v:Int) (w:World) (e:Ending) (w':World):Prop:=e=.returned (.int .i64 v)∧∃m,w'=w.drewN m
theorem drw_cell {w:World} {a:Addr} {u:Value} (n:Nat) (h:w.cell? a=some u):(w.drewN n).cell? a=some u:=h
set_option maxRecDepth 20000 in
set_option maxHeartbeats 8000000 in
theorem cdiffer_ne {B ta tb ga oa ca gb ob cb i j:Nat} {na nb:List GNode} (mv:Value) (hi:TextN na i) (hj:TextN nb j) (w:World) (hA:GRd w B ga oa na) (hB:GRd w B gb ob nb)
  (hTA:w.cell? ⟨ta,0,none⟩=some (.slice (some ⟨ga,oa,none⟩) na.length ca)) (hTB:w.cell? ⟨tb,0,none⟩=some (.slice (some ⟨gb,ob,none⟩) nb.length cb)) (hne:sclV (mks (ndAt na i).text) (mks (ndAt nb j).text)≠0) :
  Calls Tryz.prog 180 #[.pointer (some ⟨ta,0,none⟩),.int .i64 (i:Int),.pointer (some ⟨tb,0,none⟩),.int .i64 (j:Int),mv] w (RetQ (sclV (mks (ndAt na i).text) (mks (ndAt nb j).text)) w):=by
 obtain⟨a0,a1,a3⟩:=text_cells hA hi
 obtain⟨b0,b1,b3⟩:=text_cells hB hj
 have t0:=hTA
 have u0:=hTB
 have i0:(0:Int)≤i:=by omega
 have i1:(i:Int)<na.length:=by have:=hi.1;omega
 have j0:(0:Int)≤j:=by omega
 have j1:(j:Int)<nb.length:=by have:=hj.1;omega
 generalize mks (ndAt na i).text=sx at *
 generalize mks (ndAt nb j).text=sy at *
 obtain⟨r,hr⟩:∃r,sclV sx sy=r:=⟨_,rfl⟩
 have DS:=Lib.hid (fun w'=>cscalar_any sx sy w')
 rw [hr] at DS hne ⊢
 generalize na.length=ln at *
 generalize nb.length=lm at *
 have hr1:(r != 0)=true:=by simpa using hne
 clear hr hA hB hTA hTB hi hj hne
 go_enter Tryz.func180,Tryz.ntmps180
 go_upto_region 1 with(fail)
 go_quiet (fail)
 have HD:Hid (∃m,w.drewN nq=w.drewN m):=⟨nq,rfl⟩
 replace a0:=drw_cell nq a0
 replace a1:=drw_cell nq a1
 replace a3:=drw_cell nq a3
 replace b0:=drw_cell nq b0
 replace b1:=drw_cell nq b1
 replace b3:=drw_cell nq b3
 replace t0:=drw_cell nq t0
 replace u0:=drw_cell nq u0
 generalize (w.drewN nq)=w1 at *
 go_upto_region 2 with(fail)
 go_quiet (fail)
 replace HD:Hid (∃m,w1.drewN nq=w.drewN m):=by obtain⟨m,hm⟩:=HD.out;exact⟨m+nq,by rw [hm,World.drewN_drewN]⟩
 replace a0:=drw_cell nq a0
 replace a1:=drw_cell nq a1
 replace a3:=drw_cell nq a3
 replace b0:=drw_cell nq b0
 replace b1:=drw_cell nq b1
 replace b3:=drw_cell nq b3
 replace t0:=drw_cell nq t0
 replace u0:=drw_cell nq u0
 generalize (w1.drewN nq)=w2 at *
 go_upto_region 4 with(fail)
 go_quiet (fail)
 replace HD:Hid (∃m,w2.drewN nq=w.drewN m):=by obtain⟨m,hm⟩:=HD.out;exact⟨m+nq,by rw [hm,World.drewN_drewN]⟩
 replace a0:=drw_cell nq a0
 replace a1:=drw_cell nq a1
 replace a3:=drw_cell nq a3
 replace b0:=drw_cell nq b0
 replace b1:=drw_cell nq b1
 replace b3:=drw_cell nq b3
 replace t0:=drw_cell nq t0
 replace u0:=drw_cell nq u0
 generalize (w2.drewN nq)=w3 at *
 go_upto_region 6 with(fail)
 go_quiet (fail)
 replace HD:Hid (∃m,w3.drewN nq=w.drewN m):=by obtain⟨m,hm⟩:=HD.out;exact⟨m+nq,by rw [hm,World.drewN_drewN]⟩
 replace a0:=drw_cell nq a0
 replace a1:=drw_cell nq a1
 replace a3:=drw_cell nq a3
 replace b0:=drw_cell nq b0
 replace b1:=drw_cell nq b1
 replace b3:=drw_cell nq b3
 replace t0:=drw_cell nq t0
 replace u0:=drw_cell nq u0
 generalize (w3.drewN nq)=w4 at *
 go_upto_region 10 with(fail)
 go_quiet (((go_at_call 215;exact Calls.quiet_of_same (DS.out _))))
 replace HD:Hid (∃m,w4.drewN nq=w.drewN m):=by obtain⟨m,hm⟩:=HD.out;exact⟨m+nq,by rw [hm,World.drewN_drewN]⟩
 replace a0:=drw_cell nq a0
 replace a1:=drw_cell nq a1
 replace a3:=drw_cell nq a3
 replace b0:=drw_cell nq b0
 replace b1:=drw_cell nq b1
 replace b3:=drw_cell nq b3
 replace t0:=drw_cell nq t0
 replace u0:=drw_cell nq u0
 generalize (w4.drewN nq)=w5 at *
 clear a0 a1 a3 b0 b1 b3 t0 u0
 go_wp2_with (fail)
 go_ret
 exact⟨rfl,HD.out⟩
theorem look_nil (i j:Int) (w:World):(Instr.lookup 202 (.map none) (.agg #[.int .i64 i,.int .i64 j]) true).run Tryz.prog w=.ok (.tuple #[.int .i64 0,.bool false]) w:=by kernel_rfl
theorem neqm_nil (w:World):(binOp BinOp.neq 202 (.map none) (.map none)).run Tryz.prog w=.ok (.bool false) w:=by kernel_rfl
set_option maxRecDepth 20000 in
set_option maxHeartbeats 8000000 in
theorem ccompare_ne {B ta tb ga oa ca gb ob cb i j:Nat} {na nb:List GNode} (hi:TextN na i) (hj:TextN nb j) (w:World) (hA:GRd w B ga oa na) (hB:GRd w B gb ob nb)
  (hTA:w.cell? ⟨ta,0,none⟩=some (.slice (some ⟨ga,oa,none⟩) na.length ca)) (hTB:w.cell? ⟨tb,0,none⟩=some (.slice (some ⟨gb,ob,none⟩) nb.length cb)) (hne:sclV (mks (ndAt na i).text) (mks (ndAt nb j).text)≠0) :
  Calls Tryz.prog 139 #[.pointer (some ⟨ta,0,none⟩),.int .i64 (i:Int),.pointer (some ⟨tb,0,none⟩),.int .i64 (j:Int),.map none] w (RetQ (sclV (mks (ndAt na i).text) (mks (ndAt nb j).text)) w):=by
 have D:=Lib.hid (cdiffer_ne (.map none) hi hj w hA hB hTA hTB hne)
 have hl:=look_nil (i:Int) (j:Int) w
 have hn:=neqm_nil
 generalize sclV (mks (ndAt na i).text) (mks (ndAt nb j).text)=r at *
 clear hA hB hTA hTB hi hj hne
 go_enter Tryz.func139,Tryz.ntmps139
 go_wp2_with (go_at_call 180;((with_reducible refine D.out.mono ?_));rintro e w2 ⟨rfl,m,rfl⟩)
 go_ret
 exact⟨rfl,m,rfl⟩
end Go.Proofs.YtgbkbgiogdhnaaaGreatDoor
namespace Go.Proofs.YtgbkbgiogdhnaaaGreatDoor
def swp (l:List Int) (j:Nat):List Int:=(l.set (j+1) (l.getD j 0)).set j (l.getD (j+1) 0)
def insJ (lt:Int→Int→Bool):Nat→List Int→List Int
 | 0,l=>l
 | j+1,l=>if lt (l.getD (j+1) 0) (l.getD j 0) then insJ lt j (swp l j) else l
def insO (lt:Int→Int→Bool):Nat→Nat→List Int→List Int
 | _,0,l=>l
 | i,m+1,l=>insO lt (i+1) m (insJ lt i l)
def insS (lt:Int→Int→Bool) (l:List Int):List Int:=insO lt 1 (l.length - 1) l
theorem swp_len (l:List Int) (j:Nat):(swp l j).length=l.length:=by simp [swp]
theorem insJ_len (lt:Int→Int→Bool) (j:Nat):∀l,(insJ lt j l).length=l.length:=by
 induction j with
 | zero=>intro l;rfl
 | succ j ih=>
  intro l
  unfold insJ
  split
  ·rw [ih,swp_len]
  ·rfl
theorem insO_len (lt:Int→Int→Bool) (m:Nat):∀i l,(insO lt i m l).length=l.length:=by
 induction m with
 | zero=>intro i l;rfl
 | succ m ih=>intro i l;unfold insO;rw [ih,insJ_len]
theorem insS_len (lt:Int→Int→Bool) (l:List Int):(insS lt l).length=l.length:=insO_len lt _ _ l
theorem swp_mem {l:List Int} {j:Nat} (h:j+1<l.length) {x:Int} (hx:x∈swp l j):x∈l:=by
 unfold swp at hx
 have h1:l.getD (j+1) 0∈l:=by rw [List.getD_eq_getElem?_getD,List.getElem?_eq_getElem h];exact List.getElem_mem h
 have h2:l.getD j 0∈l:=by rw [List.getD_eq_getElem?_getD,List.getElem?_eq_getElem (show j<l.length by omega)];exact List.getElem_mem _
 rcases List.mem_or_eq_of_mem_set hx with h3 | rfl
 ·rcases List.mem_or_eq_of_mem_set h3 with h4 | rfl
  ·exact h4
  ·exact h2
 ·exact h1
theorem insJ_mem (lt:Int→Int→Bool) (j:Nat):∀l,j<l.length→∀x∈insJ lt j l,x∈l:=by
 induction j with
 | zero=>intro l _ x hx;exact hx
 | succ j ih=>
  intro l hl x hx
  unfold insJ at hx
  split at hx
  ·exact swp_mem hl (ih _ (by rw [swp_len];omega) x hx)
  ·exact hx
theorem insO_mem (lt:Int→Int→Bool) (m:Nat):∀i l,i+m≤l.length→∀x∈insO lt i m l,x∈l:=by
 induction m with
 | zero=>intro i l _ x hx;exact hx
 | succ m ih=>
  intro i l hl x hx
  unfold insO at hx
  exact insJ_mem lt i l (by omega) x (ih (i+1) _ (by rw [insJ_len];omega) x hx)
theorem insS_mem (lt:Int→Int→Bool) (l:List Int):∀x∈insS lt l,x∈l:=fun x hx=>by
 by_cases h:l.length=0
 ·unfold insS at hx
  rw [h] at hx
  exact hx
 ·exact insO_mem lt _ _ l (by omega) x hx
theorem swp_nodup {l:List Int} {j:Nat} (h:j+1<l.length) (hn:l.Nodup):(swp l j).Nodup:=by
 have hp:(swp l j).Perm l:=by
  unfold swp
  have e1:l.getD j 0=l[j]:=by rw [List.getD_eq_getElem?_getD,List.getElem?_eq_getElem];rfl
  have e2:l.getD (j+1) 0=l[j+1]:=by rw [List.getD_eq_getElem?_getD,List.getElem?_eq_getElem];rfl
  rw [e1,e2]
  rw [List.perm_iff_count]
  intro a
  rw [List.count_set (by simp;omega),List.count_set (by omega)]
  have:(l.set (j+1) l[j])[j]'(by simp;omega)=l[j]:=by rw [List.getElem_set_ne (by omega)]
  rw [this]
  by_cases ha:l[j]=a <;> by_cases hb:l[j+1]=a <;> simp [ha,hb] <;> first | omega | (have:=List.count_pos_iff.2 (ha▸List.getElem_mem (show j<l.length by omega));omega) | (have:=List.count_pos_iff.2 (hb▸List.getElem_mem h);omega)
 exact hp.nodup_iff.2 hn
end Go.Proofs.YtgbkbgiogdhnaaaGreatDoor
namespace Go.Proofs.YtgbkbgiogdhnaaaGreatDoor
open Go.RowKit
structure SortS (blk n:Nat) (g:FuncId) (x y:Nat) (cf:Int→Int→Int) (S:List Int→World→Prop):Prop where
 len:∀l w,S l w→l.length=n
 cell:∀l w i,S l w→i<n→w.cell? ⟨blk,i,none⟩=some (.int .i64 (l.getD i 0))∧w.frozen? ⟨blk,i,none⟩=false
 swap:∀l w j,S l w→j+1<n→S (swp l j) ((w.setCell ⟨blk,j+1,none⟩ (.int .i64 (l.getD j 0))).setCell ⟨blk,j,none⟩ (.int .i64 (l.getD (j+1) 0)))
 drew:∀l w k,S l w→S l (w.drewN k)
 cmp:∀l w j,S l w→j+1<n→Calls Tryz.prog g #[.int .i64 (l.getD (j+1) 0),.int .i64 (l.getD j 0),.pointer (some ⟨x,0,none⟩),.pointer (some ⟨y,0,none⟩)] w fun e w'=>e=.returned (.int .i64 (cf (l.getD (j+1) 0) (l.getD j 0)))∧S l w'
set_option maxRecDepth 100000 in
set_option maxHeartbeats 4000000 in
theorem insertion_e {blk c n x y:Nat} {cf:Int→Int→Int} {S:List Int→World→Prop} (hS:SortS blk n 141 x y cf S) (hn:n≤12) (l:List Int) (w:World) (h:S l w) :
  Calls Tryz.prog 186 #[.slice (some ⟨blk,0,none⟩) n c,.int .i64 0,.int .i64 (n:Int),.func (.func 141) #[] #[.pointer (some ⟨x,0,none⟩),.pointer (some ⟨y,0,none⟩)]] w fun e w'=>e=.returned (.tuple #[])∧S (insS (fun a b=>decide (cf a b<0)) l) w':=by
 obtain⟨R,hR⟩:∃R,insS (fun a b=>decide (cf a b<0)) l=R:=⟨_,rfl⟩
 have h0:Hid (insO (fun a b=>decide (cf a b<0)) 1 (n - 1) l=R):=by show _=_;rw [←hR];unfold insS;rw [hS.len l w h]
 have HS:=Lib.hid hS
 have H0:=Lib.hid h
 rw [hR]
 clear hR hS h
 go_enter Tryz.func186,Tryz.ntmps186
 go_wp2_with (fail)
 go_loopw [8] (fun v wr=>∃(i:Nat) (l1:List Int),v=.int .i64 (i:Int)∧1≤i∧i≤n+1∧Hid (S l1 wr)∧Hid (insO (fun a b=>decide (cf a b<0)) i (n - i) l1=R)) (fun v _=>13 - (intOf v).toNat)
 case atStart=>exact⟨1,l,by go_num,Nat.le_refl _,by omega,H0,h0⟩
 case round=>
  clear H0 h0
  obtain⟨i,l1,rfl,hi1,hin,h1,h2⟩:=hrel
  by_cases hlt:i<n
  ·have hlt':(i:Int)<n:=by omega
   have h3:Hid (insO (fun a b=>decide (cf a b<0)) (i+1) (n - (i+1)) (insJ (fun a b=>decide (cf a b<0)) i l1)=R):=by
    show _=_
    rw [←h2.out,show n - i=(n - (i+1))+1 by omega];rfl
   clear h2
   go_wp2_with (fail)
   go_loopw [9] (fun v wr2=>∃(j:Nat) (l2:List Int),v=.int .i64 (j:Int)∧j≤i∧Hid (S l2 wr2)∧Hid (insO (fun a b=>decide (cf a b<0)) (i+1) (n - (i+1)) (insJ (fun a b=>decide (cf a b<0)) j l2)=R)) (fun v _=>(intOf v).toNat)
   case atStart=>exact⟨i,l1,rfl,Nat.le_refl _,h1,h3⟩
   case round=>
    clear h1 h3
    obtain⟨j,l2,rfl,hji,h4,h5⟩:=hrel
    obtain⟨w2,hw2⟩:∃x:World,x=wr:=⟨_,rfl⟩
    subst hw2
    by_cases hj0:j=0
    ·have hd:decide (0<j)=false:=decide_eq_false (by omega)
     have h6:Hid (insO (fun a b=>decide (cf a b<0)) (i+1) (n - (i+1)) l2=R):=by
      show _=_
      rw [←h5.out,hj0];rfl
     clear h5 hj0
     go_upto_region 4 with(fail)
     go_quiet (fail)
     have h7:=Lib.hid (HS.out.drew _ _ nq h4.out)
     generalize w2.drewN nq=w3 at *
     go_wp2_with (fail)
     go_roundw
     case rel=>exact⟨i+1,l2,i64e (by omega),by omega,by omega,h7,h6⟩
     case measure=>simp [intOf];omega
    ·obtain⟨jp,hjp⟩:∃jp,j=jp+1:=⟨j - 1,by omega⟩
     have hjn:jp+1<n:=by omega
     have D:=Lib.hid (HS.out.cmp l2 w2.drew jp (HS.out.drew l2 w2 1 h4.out) hjn)
     obtain⟨c1,f1⟩:=HS.out.cell l2 w2.drew (jp+1) (HS.out.drew l2 w2 1 h4.out) hjn
     obtain⟨c0,f0⟩:=HS.out.cell l2 w2.drew jp (HS.out.drew l2 w2 1 h4.out) (by omega)
     go_upto_region 4 with(fail)
     obtain⟨X,hX⟩:∃X,l2.getD jp 0=X:=⟨_,rfl⟩
     obtain⟨Y,hY⟩:∃Y,l2.getD (jp+1) 0=Y:=⟨_,rfl⟩
     obtain⟨r,hr⟩:∃r,cf Y X=r:=⟨_,rfl⟩
     have HX:=Lib.hid hX
     have HY:=Lib.hid hY
     have HR:=Lib.hid hr
     rw [hX,hY,hr] at D
     rw [hX] at c0
     rw [hY] at c1
     have h8:Hid (insJ (fun a b=>decide (cf a b<0)) j l2=if r<0 then insJ (fun a b=>decide (cf a b<0)) jp (swp l2 jp) else l2):=by
      show _=_
      rw [hjp,insJ,HX.out,HY.out,←HR.out]
      simp
     rw [←hjp] at c1 f1
     have HJP:=Lib.hid hjp
     have hd:decide (0<j)=true:=decide_eq_true (by omega)
     have hp0:(0:Int)≤(jp:Int):=by omega
     have hp1:(jp:Int)<(n:Int):=by omega
     have hq0:(0:Int)≤(j:Int):=by omega
     have hq1:(j:Int)<(n:Int):=by omega
     have hw:IntKind.i64.wrap ((j:Int) - 1)=(jp:Int):=by rw [IntWalk.i64_in _ (by omega)];omega
     have hjn':j<n:=by omega
     have hjpn:jp<n:=by omega
     clear hX hY hr h4 hjp hj0
     go_region_held3 (fun w'=>w'.cell? ⟨blk,j,none⟩=some (.int .i64 Y)∧w'.cell? ⟨blk,jp,none⟩=some (.int .i64 X)) (first | exact⟨by assumption,by assumption⟩ | go_keep) ((go_at_call 141;((with_reducible refine D.out.mono ?_));rintro e w5 ⟨rfl,hS5⟩;have hS5':=Lib.hid hS5;obtain⟨c1',f1'⟩:=HS.out.cell l2 w5 j hS5 hjn';obtain⟨c0',f0'⟩:=HS.out.cell l2 w5 jp hS5 hjpn;rw [HX.out] at c0';rw [HJP.out,HY.out,←HJP.out] at c1'))
     clear c0 c1 f0 f1 D
     by_cases hr0:r<0
     ·have h9:Hid (insO (fun a b=>decide (cf a b<0)) (i+1) (n - (i+1)) (insJ (fun a b=>decide (cf a b<0)) jp (swp l2 jp))=R):=by
       have h:=h8.out
       rw [if_pos hr0] at h
       show _=_
       rw [←h];exact h5.out
      have h10:Hid (S (swp l2 jp) ((w5.drew.setCell ⟨blk,j,none⟩ (.int .i64 X)).setCell ⟨blk,jp,none⟩ (.int .i64 Y))):=by
       have h:=HS.out.swap l2 w5.drew jp (HS.out.drew l2 w5 1 hS5'.out) hjn
       rw [HX.out,HY.out,←HJP.out] at h
       exact h
      have e0:w5.drew.cell? ⟨blk,jp,none⟩=some (.int .i64 X):=c0'
      have e1:w5.drew.cell? ⟨blk,j,none⟩=some (.int .i64 Y):=c1'
      have e2:w5.drew.frozen? ⟨blk,jp,none⟩=false:=f0'
      have e3:w5.drew.frozen? ⟨blk,j,none⟩=false:=f1'
      have hjne:¬jp=j:=by have:=HJP.out;omega
      have hjne2:¬j=jp:=by have:=HJP.out;omega
      have hji2:jp≤i:=by have:=HJP.out;omega
      clear h8 h5 hS5' e0 e1 e2 e3
      go_upto_region 6 with(fail)
      go_region
      go_wp2_with (fail)
      go_roundw
      case rel=>exact⟨jp,swp l2 jp,rfl,hji2,h10,h9⟩
      case measure=>have:=HJP.out;clear hw;simp [intOf];omega
     ·have h9:Hid (insO (fun a b=>decide (cf a b<0)) (i+1) (n - (i+1)) l2=R):=by
       have h:=h8.out
       rw [if_neg hr0] at h
       show _=_
       rw [←h5.out,h]
      clear h8 h5 c0' c1' f0' f1'
      go_wp2_with (fail)
      go_roundw
      case rel=>exact⟨i+1,l2,i64e (by omega),by omega,by omega,hS5',h9⟩
      case measure=>simp [intOf];omega
  ·go_wp2_with (fail)
   go_end0
   refine⟨rfl,?_⟩
   have h3:=h2.out
   rw [show n - i=0 by omega] at h3
   rw [←h3]
   exact h1.out
set_option maxRecDepth 100000 in
set_option maxHeartbeats 4000000 in
theorem insertion_c {blk c n x y:Nat} {cf:Int→Int→Int} {S:List Int→World→Prop} (hS:SortS blk n 111 x y cf S) (hn:n≤12) (l:List Int) (w:World) (h:S l w) :
  Calls Tryz.prog 186 #[.slice (some ⟨blk,0,none⟩) n c,.int .i64 0,.int .i64 (n:Int),.func (.func 111) #[] #[.pointer (some ⟨x,0,none⟩),.pointer (some ⟨y,0,none⟩)]] w fun e w'=>e=.returned (.tuple #[])∧S (insS (fun a b=>decide (cf a b<0)) l) w':=by
 obtain⟨R,hR⟩:∃R,insS (fun a b=>decide (cf a b<0)) l=R:=⟨_,rfl⟩
 have h0:Hid (insO (fun a b=>decide (cf a b<0)) 1 (n - 1) l=R):=by show _=_;rw [←hR];unfold insS;rw [hS.len l w h]
 have HS:=Lib.hid hS
 have H0:=Lib.hid h
 rw [hR]
 clear hR hS h
 go_enter Tryz.func186,Tryz.ntmps186
 go_wp2_with (fail)
 go_loopw [8] (fun v wr=>∃(i:Nat) (l1:List Int),v=.int .i64 (i:Int)∧1≤i∧i≤n+1∧Hid (S l1 wr)∧Hid (insO (fun a b=>decide (cf a b<0)) i (n - i) l1=R)) (fun v _=>13 - (intOf v).toNat)
 case atStart=>exact⟨1,l,by go_num,Nat.le_refl _,by omega,H0,h0⟩
 case round=>
  clear H0 h0
  obtain⟨i,l1,rfl,hi1,hin,h1,h2⟩:=hrel
  by_cases hlt:i<n
  ·have hlt':(i:Int)<n:=by omega
   have h3:Hid (insO (fun a b=>decide (cf a b<0)) (i+1) (n - (i+1)) (insJ (fun a b=>decide (cf a b<0)) i l1)=R):=by
    show _=_
    rw [←h2.out,show n - i=(n - (i+1))+1 by omega];rfl
   clear h2
   go_wp2_with (fail)
   go_loopw [9] (fun v wr2=>∃(j:Nat) (l2:List Int),v=.int .i64 (j:Int)∧j≤i∧Hid (S l2 wr2)∧Hid (insO (fun a b=>decide (cf a b<0)) (i+1) (n - (i+1)) (insJ (fun a b=>decide (cf a b<0)) j l2)=R)) (fun v _=>(intOf v).toNat)
   case atStart=>exact⟨i,l1,rfl,Nat.le_refl _,h1,h3⟩
   case round=>
    clear h1 h3
    obtain⟨j,l2,rfl,hji,h4,h5⟩:=hrel
    obtain⟨w2,hw2⟩:∃x:World,x=wr:=⟨_,rfl⟩
    subst hw2
    by_cases hj0:j=0
    ·have hd:decide (0<j)=false:=decide_eq_false (by omega)
     have h6:Hid (insO (fun a b=>decide (cf a b<0)) (i+1) (n - (i+1)) l2=R):=by
      show _=_
      rw [←h5.out,hj0];rfl
     clear h5 hj0
     go_upto_region 4 with(fail)
     go_quiet (fail)
     have h7:=Lib.hid (HS.out.drew _ _ nq h4.out)
     generalize w2.drewN nq=w3 at *
     go_wp2_with (fail)
     go_roundw
     case rel=>exact⟨i+1,l2,i64e (by omega),by omega,by omega,h7,h6⟩
     case measure=>simp [intOf];omega
    ·obtain⟨jp,hjp⟩:∃jp,j=jp+1:=⟨j - 1,by omega⟩
     have hjn:jp+1<n:=by omega
     have D:=Lib.hid (HS.out.cmp l2 w2.drew jp (HS.out.drew l2 w2 1 h4.out) hjn)
     obtain⟨c1,f1⟩:=HS.out.cell l2 w2.drew (jp+1) (HS.out.drew l2 w2 1 h4.out) hjn
     obtain⟨c0,f0⟩:=HS.out.cell l2 w2.drew jp (HS.out.drew l2 w2 1 h4.out) (by omega)
     go_upto_region 4 with(fail)
     obtain⟨X,hX⟩:∃X,l2.getD jp 0=X:=⟨_,rfl⟩
     obtain⟨Y,hY⟩:∃Y,l2.getD (jp+1) 0=Y:=⟨_,rfl⟩
     obtain⟨r,hr⟩:∃r,cf Y X=r:=⟨_,rfl⟩
     have HX:=Lib.hid hX
     have HY:=Lib.hid hY
     have HR:=Lib.hid hr
     rw [hX,hY,hr] at D
     rw [hX] at c0
     rw [hY] at c1
     have h8:Hid (insJ (fun a b=>decide (cf a b<0)) j l2=if r<0 then insJ (fun a b=>decide (cf a b<0)) jp (swp l2 jp) else l2):=by
      show _=_
      rw [hjp,insJ,HX.out,HY.out,←HR.out]
      simp
     rw [←hjp] at c1 f1
     have HJP:=Lib.hid hjp
     have hd:decide (0<j)=true:=decide_eq_true (by omega)
     have hp0:(0:Int)≤(jp:Int):=by omega
     have hp1:(jp:Int)<(n:Int):=by omega
     have hq0:(0:Int)≤(j:Int):=by omega
     have hq1:(j:Int)<(n:Int):=by omega
     have hw:IntKind.i64.wrap ((j:Int) - 1)=(jp:Int):=by rw [IntWalk.i64_in _ (by omega)];omega
     have hjn':j<n:=by omega
     have hjpn:jp<n:=by omega
     clear hX hY hr h4 hjp hj0
     go_region_held3 (fun w'=>w'.cell? ⟨blk,j,none⟩=some (.int .i64 Y)∧w'.cell? ⟨blk,jp,none⟩=some (.int .i64 X)) (first | exact⟨by assumption,by assumption⟩ | go_keep) ((go_at_call 111;((with_reducible refine D.out.mono ?_));rintro e w5 ⟨rfl,hS5⟩;have hS5':=Lib.hid hS5;obtain⟨c1',f1'⟩:=HS.out.cell l2 w5 j hS5 hjn';obtain⟨c0',f0'⟩:=HS.out.cell l2 w5 jp hS5 hjpn;rw [HX.out] at c0';rw [HJP.out,HY.out,←HJP.out] at c1'))
     clear c0 c1 f0 f1 D
     by_cases hr0:r<0
     ·have h9:Hid (insO (fun a b=>decide (cf a b<0)) (i+1) (n - (i+1)) (insJ (fun a b=>decide (cf a b<0)) jp (swp l2 jp))=R):=by
       have h:=h8.out
       rw [if_pos hr0] at h
       show _=_
       rw [←h];exact h5.out
      have h10:Hid (S (swp l2 jp) ((w5.drew.setCell ⟨blk,j,none⟩ (.int .i64 X)).setCell ⟨blk,jp,none⟩ (.int .i64 Y))):=by
       have h:=HS.out.swap l2 w5.drew jp (HS.out.drew l2 w5 1 hS5'.out) hjn
       rw [HX.out,HY.out,←HJP.out] at h
       exact h
      have e0:w5.drew.cell? ⟨blk,jp,none⟩=some (.int .i64 X):=c0'
      have e1:w5.drew.cell? ⟨blk,j,none⟩=some (.int .i64 Y):=c1'
      have e2:w5.drew.frozen? ⟨blk,jp,none⟩=false:=f0'
      have e3:w5.drew.frozen? ⟨blk,j,none⟩=false:=f1'
      have hjne:¬jp=j:=by have:=HJP.out;omega
      have hjne2:¬j=jp:=by have:=HJP.out;omega
      have hji2:jp≤i:=by have:=HJP.out;omega
      clear h8 h5 hS5' e0 e1 e2 e3
      go_upto_region 6 with(fail)
      go_region
      go_wp2_with (fail)
      go_roundw
      case rel=>exact⟨jp,swp l2 jp,rfl,hji2,h10,h9⟩
      case measure=>have:=HJP.out;clear hw;simp [intOf];omega
     ·have h9:Hid (insO (fun a b=>decide (cf a b<0)) (i+1) (n - (i+1)) l2=R):=by
       have h:=h8.out
       rw [if_neg hr0] at h
       show _=_
       rw [←h5.out,h]
      clear h8 h5 c0' c1' f0' f1'
      go_wp2_with (fail)
      go_roundw
      case rel=>exact⟨i+1,l2,i64e (by omega),by omega,by omega,hS5',h9⟩
      case measure=>simp [intOf];omega
  ·go_wp2_with (fail)
   go_end0
   refine⟨rfl,?_⟩
   have h3:=h2.out
   rw [show n - i=0 by omega] at h3
   rw [←h3]
   exact h1.out
end Go.Proofs.YtgbkbgiogdhnaaaGreatDoor
