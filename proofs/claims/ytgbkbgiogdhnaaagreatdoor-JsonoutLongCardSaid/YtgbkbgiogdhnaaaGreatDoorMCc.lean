/- The walk of slices.SortFunc at twelve integers or fewer, by the comparisons of canon's entries and of jsonout's content. -/
import Derived.Test.YtgbkbgiogdhnaaaGreatDoorMCb
import Derived.Test.YtgbkbgiogdhnaaaGreatDoorShelf
import Derived.Test.YtgbkbgiogdhnaaaGreatDoorMBb
import Derived.Maps.OwnSet
import Derived.DeepKeys4
import Derived.Deep.RegionHeld3
import Derived.Deep.DrawnRows
set_option linter.unusedVariables false
set_option linter.unusedSimpArgs false
set_option linter.defProp false
set_option linter.constructorNameAsVariable false
namespace Go.Proofs.YtgbkbgiogdhnaaaGreatDoor
open Go.RowKit
set_option maxRecDepth 20000 in
theorem bits_len (n:Nat) (hn:n≤12) (w:World):Calls Tryz.prog 150 #[.int .u64 (n:Int)] w fun e w'=>e=.returned (.int .i64 (Lib.bitLen n))∧w=w':=by
 have D:=Lib.hid (Tryz.bits_Len64 (n:Int) w (by omega) (by omega))
 rw [Int.toNat_natCast] at D
 generalize Lib.bitLen n=b at *
 go_enter Tryz.func150,Tryz.ntmps150
 go_wp2_with (go_at_call 195;((with_reducible refine D.out.mono ?_));rintro e w5 ⟨rfl,rfl⟩)
 go_ret
 exact⟨rfl,rfl⟩
set_option maxRecDepth 100000 in
set_option maxHeartbeats 4000000 in
theorem pdq_e {blk c n x y:Nat} {lim:Int} {cf:Int→Int→Int} {S:List Int→World→Prop} (hS:SortS blk n 141 x y cf S) (hn:n≤12) (l:List Int) (w:World) (h:S l w) :
  Calls Tryz.prog 149 #[.slice (some ⟨blk,0,none⟩) n c,.int .i64 0,.int .i64 (n:Int),.int .i64 lim,.func (.func 141) #[] #[.pointer (some ⟨x,0,none⟩),.pointer (some ⟨y,0,none⟩)]] w fun e w'=>e=.returned (.tuple #[])∧S (insS (fun a b=>decide (cf a b<0)) l) w':=by
 have D:=Lib.hid (insertion_e (c:=c) hS hn l w h)
 generalize insS (fun a b=>decide (cf a b<0)) l=R at *
 have hn':(n:Int)≤12:=by omega
 clear hS h
 go_enter Tryz.func149,Tryz.ntmps149
 go_wp2_with (fail)
 refine wp_loop_rounds 1 ?_
 rw [rounds_succ]
 go_wp2_with (go_at_call 186;((with_reducible refine D.out.mono ?_));rintro e w5 ⟨rfl,h5⟩)
 (try simp only [Exit.inBlock,Exit.then])
 refine bodyPost_ret (results_none rfl _ _ _) rfl ?_
 exact⟨rfl,h5⟩
set_option maxRecDepth 100000 in
set_option maxHeartbeats 4000000 in
theorem sortf_e {blk c n x y:Nat} {cf:Int→Int→Int} {S:List Int→World→Prop} (hS:SortS blk n 141 x y cf S) (hn:n≤12) (l:List Int) (w:World) (h:S l w) :
  Calls Tryz.prog 110 #[.slice (some ⟨blk,0,none⟩) n c,.func (.func 141) #[] #[.pointer (some ⟨x,0,none⟩),.pointer (some ⟨y,0,none⟩)]] w fun e w'=>e=.returned (.tuple #[])∧S (insS (fun a b=>decide (cf a b<0)) l) w':=by
 have D:=Lib.hid (fun lim=>pdq_e (c:=c) (lim:=lim) hS hn l w h)
 generalize insS (fun a b=>decide (cf a b<0)) l=R at *
 have hn':(n:Int)≤12:=by omega
 have hlen:=Lib.hid (bits_len n hn)
 clear hS h
 go_enter Tryz.func110,Tryz.ntmps110
 go_wp2_with (first | (go_at_call 150;((with_reducible refine(hlen.out _).mono ?_));rintro e w5 ⟨rfl,rfl⟩) | (go_at_call 149;((with_reducible refine(D.out _).mono ?_));rintro e w6 ⟨rfl,h6⟩))
 go_end0
 exact⟨rfl,h6⟩
set_option maxRecDepth 100000 in
set_option maxHeartbeats 4000000 in
theorem pdq_c {blk c n x y:Nat} {lim:Int} {cf:Int→Int→Int} {S:List Int→World→Prop} (hS:SortS blk n 111 x y cf S) (hn:n≤12) (l:List Int) (w:World) (h:S l w) :
  Calls Tryz.prog 149 #[.slice (some ⟨blk,0,none⟩) n c,.int .i64 0,.int .i64 (n:Int),.int .i64 lim,.func (.func 111) #[] #[.pointer (some ⟨x,0,none⟩),.pointer (some ⟨y,0,none⟩)]] w fun e w'=>e=.returned (.tuple #[])∧S (insS (fun a b=>decide (cf a b<0)) l) w':=by
 have D:=Lib.hid (insertion_c (c:=c) hS hn l w h)
 generalize insS (fun a b=>decide (cf a b<0)) l=R at *
 have hn':(n:Int)≤12:=by omega
 clear hS h
 go_enter Tryz.func149,Tryz.ntmps149
 go_wp2_with (fail)
 refine wp_loop_rounds 1 ?_
 rw [rounds_succ]
 go_wp2_with (go_at_call 186;((with_reducible refine D.out.mono ?_));rintro e w5 ⟨rfl,h5⟩)
 (try simp only [Exit.inBlock,Exit.then])
 refine bodyPost_ret (results_none rfl _ _ _) rfl ?_
 exact⟨rfl,h5⟩
set_option maxRecDepth 100000 in
set_option maxHeartbeats 4000000 in
theorem sortf_c {blk c n x y:Nat} {cf:Int→Int→Int} {S:List Int→World→Prop} (hS:SortS blk n 111 x y cf S) (hn:n≤12) (l:List Int) (w:World) (h:S l w) :
  Calls Tryz.prog 110 #[.slice (some ⟨blk,0,none⟩) n c,.func (.func 111) #[] #[.pointer (some ⟨x,0,none⟩),.pointer (some ⟨y,0,none⟩)]] w fun e w'=>e=.returned (.tuple #[])∧S (insS (fun a b=>decide (cf a b<0)) l) w':=by
 have D:=Lib.hid (fun lim=>pdq_c (c:=c) (lim:=lim) hS hn l w h)
 generalize insS (fun a b=>decide (cf a b<0)) l=R at *
 have hn':(n:Int)≤12:=by omega
 have hlen:=Lib.hid (bits_len n hn)
 clear hS h
 go_enter Tryz.func110,Tryz.ntmps110
 go_wp2_with (first | (go_at_call 150;((with_reducible refine(hlen.out _).mono ?_));rintro e w5 ⟨rfl,rfl⟩) | (go_at_call 149;((with_reducible refine(D.out _).mono ?_));rintro e w6 ⟨rfl,h6⟩))
 go_end0
 exact⟨rfl,h6⟩
end Go.Proofs.YtgbkbgiogdhnaaaGreatDoor
namespace Go.Proofs.YtgbkbgiogdhnaaaGreatDoor
open Go.RowKit Go.Maps
open Go.WideMaps (KeyLaw)
def RetI (B:Nat) (w:World) (e:Ending) (w':World):Prop:=∃r:Int,e=.returned (.int .i64 r)∧Below B w w'
def RetD (D sa sb:Nat) (w:World) (e:Ending) (w':World):Prop:=∃r:Int,e=.returned (.int .i64 r)∧Below D w w'∧∀b,b<w.heap.size→b≠sa→b≠sb→w'.heap[b]? = w.heap[b]?
theorem leaf_cells {w:World} {B g:Nat} {nd:GNode} (hG:GRd w B g 0 [nd]) (hk:nd.kind=5) (ho:nd.ord=false):w.cell? ⟨g,0,none⟩=some (.int .i64 5)∧w.cell? ⟨g,1,none⟩=some (.string (mks nd.text))∧w.cell? ⟨g,2,none⟩=some (.bool false):=by
 obtain⟨K,ck,I,ci,c0,c1,c2,_⟩:=hG.of_at (i:=0) (by simp)
 have e0:ndAt [nd] 0=nd:=rfl
 rw [e0] at c0 c1 c2
 rw [hk] at c0
 rw [ho] at c2
 exact⟨c0,c1,c2⟩
set_option maxRecDepth 20000 in
set_option maxHeartbeats 8000000 in
theorem cdiffer_leaf {B D ta sa ga ca tb sb gb cb:Nat} {na nb:GNode} (mv:Value) (a2:na.items = []) (ak:na.kind=5) (ao:na.ord=false) (b2:nb.items = []) (bk:nb.kind=5) (bo:nb.ord=false) (w:World) (hA:GRd w B ga 0 [na]) (hB:GRd w B gb 0 [nb])
  (hTA:TabR w ta sa ga ca) (hTB:TabR w tb sb gb cb) (hD:D≤w.heap.size) (hsa:D≤sa) (hsb:D≤sb) (hBa:B≤sa) (n1:sa≠sb) (n2:sa≠tb) :
  Calls Tryz.prog 180 #[.pointer (some ⟨ta,0,none⟩),.int .i64 0,.pointer (some ⟨tb,0,none⟩),.int .i64 0,mv] w (RetD D sa sb w):=by
 obtain⟨a0,a1,a3⟩:=leaf_cells hA ak ao
 obtain⟨b0,b1,b3⟩:=leaf_cells hB bk bo
 have t0:=hTA.tab.cell' (i:=0) rfl
 have u0:=hTB.tab.cell' (i:=0) rfl
 generalize mks na.text=sx at *
 generalize mks nb.text=sy at *
 obtain⟨r,hr⟩:∃r,sclV sx sy=r:=⟨_,rfl⟩
 have DS:=Lib.hid (fun w'=>cscalar_any sx sy w')
 rw [hr] at DS
 have D1:=Lib.hid (fun(w':World) (hG:GRd w' B ga 0 [na]) (hT:TabR w' ta sa ga ca)=>centries_leaf a2 ak w' hG hT)
 have D2:=Lib.hid (fun(w':World) (hG:GRd w' B gb 0 [nb]) (hT:TabR w' tb sb gb cb)=>centries_leaf b2 bk w' hG hT)
 have HA:=Lib.hid hA
 have HB:=Lib.hid hB
 have HTA:=Lib.hid hTA
 have HTB:=Lib.hid hTB
 clear hr hA hB hTA hTB a2 ak ao b2 bk bo
 go_enter Tryz.func180,Tryz.ntmps180
 go_upto_region 1 with(fail)
 go_quiet (fail)
 have hbq:Below w.heap.size w (w.drewN nq):=Below.drewN' (Below.refl _ _) nq
 replace a0:=(hbq.cell (block_lt_of_cell a0)).trans a0
 replace a1:=(hbq.cell (block_lt_of_cell a1)).trans a1
 replace a3:=(hbq.cell (block_lt_of_cell a3)).trans a3
 replace b0:=(hbq.cell (block_lt_of_cell b0)).trans b0
 replace b1:=(hbq.cell (block_lt_of_cell b1)).trans b1
 replace b3:=(hbq.cell (block_lt_of_cell b3)).trans b3
 replace t0:=(hbq.cell (block_lt_of_cell t0)).trans t0
 replace u0:=(hbq.cell (block_lt_of_cell u0)).trans u0
 replace HA:=Lib.hid (HA.out.below hbq HA.out.2.1)
 replace HB:=Lib.hid (HB.out.below hbq HB.out.2.1)
 replace HTA:=Lib.hid (HTA.out.keep hbq)
 replace HTB:=Lib.hid (HTB.out.keep hbq)
 have hDW:Hid (Below w.heap.size w (w.drewN nq)):=hbq
 clear hbq
 generalize (w.drewN nq)=w1 at *
 go_upto_region 2 with(fail)
 go_quiet (fail)
 have hbq:Below w1.heap.size w1 (w1.drewN nq):=Below.drewN' (Below.refl _ _) nq
 replace a0:=(hbq.cell (block_lt_of_cell a0)).trans a0
 replace a1:=(hbq.cell (block_lt_of_cell a1)).trans a1
 replace a3:=(hbq.cell (block_lt_of_cell a3)).trans a3
 replace b0:=(hbq.cell (block_lt_of_cell b0)).trans b0
 replace b1:=(hbq.cell (block_lt_of_cell b1)).trans b1
 replace b3:=(hbq.cell (block_lt_of_cell b3)).trans b3
 replace t0:=(hbq.cell (block_lt_of_cell t0)).trans t0
 replace u0:=(hbq.cell (block_lt_of_cell u0)).trans u0
 replace HA:=Lib.hid (HA.out.below hbq HA.out.2.1)
 replace HB:=Lib.hid (HB.out.below hbq HB.out.2.1)
 replace HTA:=Lib.hid (HTA.out.keep hbq)
 replace HTB:=Lib.hid (HTB.out.keep hbq)
 replace hDW:=Lib.hid (hDW.out.trans (hbq.mono hDW.out.size))
 clear hbq
 generalize (w1.drewN nq)=w2 at *
 go_upto_region 4 with(fail)
 go_quiet (fail)
 have hbq:Below w2.heap.size w2 (w2.drewN nq):=Below.drewN' (Below.refl _ _) nq
 replace a0:=(hbq.cell (block_lt_of_cell a0)).trans a0
 replace a1:=(hbq.cell (block_lt_of_cell a1)).trans a1
 replace a3:=(hbq.cell (block_lt_of_cell a3)).trans a3
 replace b0:=(hbq.cell (block_lt_of_cell b0)).trans b0
 replace b1:=(hbq.cell (block_lt_of_cell b1)).trans b1
 replace b3:=(hbq.cell (block_lt_of_cell b3)).trans b3
 replace t0:=(hbq.cell (block_lt_of_cell t0)).trans t0
 replace u0:=(hbq.cell (block_lt_of_cell u0)).trans u0
 replace HA:=Lib.hid (HA.out.below hbq HA.out.2.1)
 replace HB:=Lib.hid (HB.out.below hbq HB.out.2.1)
 replace HTA:=Lib.hid (HTA.out.keep hbq)
 replace HTB:=Lib.hid (HTB.out.keep hbq)
 replace hDW:=Lib.hid (hDW.out.trans (hbq.mono hDW.out.size))
 clear hbq
 generalize (w2.drewN nq)=w3 at *
 go_upto_region 6 with(fail)
 go_quiet (fail)
 have hbq:Below w3.heap.size w3 (w3.drewN nq):=Below.drewN' (Below.refl _ _) nq
 replace a0:=(hbq.cell (block_lt_of_cell a0)).trans a0
 replace a1:=(hbq.cell (block_lt_of_cell a1)).trans a1
 replace a3:=(hbq.cell (block_lt_of_cell a3)).trans a3
 replace b0:=(hbq.cell (block_lt_of_cell b0)).trans b0
 replace b1:=(hbq.cell (block_lt_of_cell b1)).trans b1
 replace b3:=(hbq.cell (block_lt_of_cell b3)).trans b3
 replace t0:=(hbq.cell (block_lt_of_cell t0)).trans t0
 replace u0:=(hbq.cell (block_lt_of_cell u0)).trans u0
 replace HA:=Lib.hid (HA.out.below hbq HA.out.2.1)
 replace HB:=Lib.hid (HB.out.below hbq HB.out.2.1)
 replace HTA:=Lib.hid (HTA.out.keep hbq)
 replace HTB:=Lib.hid (HTB.out.keep hbq)
 replace hDW:=Lib.hid (hDW.out.trans (hbq.mono hDW.out.size))
 clear hbq
 generalize (w3.drewN nq)=w4 at *
 go_upto_region 10 with(fail)
 go_quiet (((go_at_call 215;exact Calls.quiet_of_same (DS.out _))))
 have hbq:Below w4.heap.size w4 (w4.drewN nq):=Below.drewN' (Below.refl _ _) nq
 replace a0:=(hbq.cell (block_lt_of_cell a0)).trans a0
 replace a1:=(hbq.cell (block_lt_of_cell a1)).trans a1
 replace a3:=(hbq.cell (block_lt_of_cell a3)).trans a3
 replace b0:=(hbq.cell (block_lt_of_cell b0)).trans b0
 replace b1:=(hbq.cell (block_lt_of_cell b1)).trans b1
 replace b3:=(hbq.cell (block_lt_of_cell b3)).trans b3
 replace t0:=(hbq.cell (block_lt_of_cell t0)).trans t0
 replace u0:=(hbq.cell (block_lt_of_cell u0)).trans u0
 replace HA:=Lib.hid (HA.out.below hbq HA.out.2.1)
 replace HB:=Lib.hid (HB.out.below hbq HB.out.2.1)
 replace HTA:=Lib.hid (HTA.out.keep hbq)
 replace HTB:=Lib.hid (HTB.out.keep hbq)
 replace hDW:=Lib.hid (hDW.out.trans (hbq.mono hDW.out.size))
 clear hbq
 generalize (w4.drewN nq)=w5 at *
 clear a0 a1 a3 b0 b1 b3 t0 u0
 by_cases hr0:r=0
 ·subst hr0
  go_upto_region 14 with(first
   | (go_at_call 105;((with_reducible refine(D1.out _ HA.out HTA.out).mono ?_));rintro e w6 ⟨oa,rfl,hg6⟩;have HB6:=HB.out.grown hg6 (by omega);have HTB6:TabR w6 tb sb gb cb:=⟨HTB.out.tab.grown hg6 (fun e=>n2 (Option.some.inj e).symm),HTB.out.srt.grown hg6 (fun e=>n1 (Option.some.inj e).symm)⟩)
   | (go_at_call 105;((with_reducible refine(D2.out _ HB6 HTB6).mono ?_));rintro e w7 ⟨ob,rfl,hg7⟩))
  have hD6:Below D w w6:=below_row (hDW.out.mono hD) hg6 (by have:=hDW.out.size;omega) hsa
  have hD7:Hid (Below D w w7):=below_row hD6 hg7 (by have:=hD6.size;omega) hsb
  have hkp:Hid (∀b,b<w.heap.size→b≠sa→b≠sb→w7.heap[b]? = w.heap[b]?):=fun b hb h1 h2=>by
   have hs5:=hDW.out.size
   have hs6:=hg6.size
   exact(hg7.block b (by omega) (fun e=>h2 (Option.some.inj e))).trans ((hg6.block b (by omega) (fun e=>h1 (Option.some.inj e))).trans (hDW.out.block b hb))
  clear D1 D2 HA HB HTA HTB HB6 HTB6 hD6 hg6 hg7 DS
  go_upto_region 15 with(fail)
  go_loop [94] (fun v=>v=.int .i64 0) (fun _=>0)
  case atStart=>rfl
  case round=>
   obtain rfl:=hrel
   go_wp2_with (fail)
   go_ret
   exact⟨0,rfl,hD7.out,hkp.out⟩
 ·have hr1:(r != 0)=true:=by simpa using hr0
  go_wp2_with (fail)
  go_ret
  exact⟨r,rfl,hDW.out.mono hD,fun b hb _ _=>hDW.out.block b hb⟩
theorem pair_law:KeyLaw Tryz.prog 237:=
 deep_law_laid (m:=3) (by kernel_rfl) (by omega) (of_decide_eq_true (by kernel_rfl)) (by kernel_rfl) (by kernel_rfl)
theorem under_pairs:Tryz.prog.underlying 202=some (.map 237 3):=by kernel_rfl
theorem zero_int1 (u:World):(zeroValue 3).run Tryz.prog u=.ok (.int .i64 0) u:=by kernel_rfl
theorem map_neq (mb:Nat) (w:World):(binOp BinOp.neq 202 (.map (some mb)) (.map none)).run Tryz.prog w=.ok (.bool true) w:=by kernel_rfl
def anyR (_:Value):Option (DataW Unit×List MemPlace):=some (.nil,[])
theorem pair_key:∃kl,keyOf Tryz.prog 237 (.agg #[.int .i64 0,.int .i64 0])=some kl:=⟨(keyOf Tryz.prog 237 (.agg #[.int .i64 0,.int .i64 0])).getD (.bool false),by kernel_rfl⟩
set_option maxRecDepth 20000 in
set_option maxHeartbeats 8000000 in
theorem ccompare_leaf {B D ta sa ga ca tb sb gb cb mb:Nat} {na nb:GNode} (a2:na.items = []) (ak:na.kind=5) (ao:na.ord=false) (b2:nb.items = []) (bk:nb.kind=5) (bo:nb.ord=false) (w:World) (hA:GRd w B ga 0 [na]) (hB:GRd w B gb 0 [nb])
  (hTA:TabR w ta sa ga ca) (hTB:TabR w tb sb gb cb) (hM:w.ownsMap Tryz.prog 237 anyR mb 0 (.map [])) (hD:D≤w.heap.size) (hsa:D≤sa) (hsb:D≤sb) (hmb:D≤mb) (hBa:B≤sa) (n1:sa≠sb) (n2:sa≠tb) (n3:sa≠mb) (n4:sb≠mb) :
  Calls Tryz.prog 139 #[.pointer (some ⟨ta,0,none⟩),.int .i64 0,.pointer (some ⟨tb,0,none⟩),.int .i64 0,.map (some mb)] w (RetI D w):=by
 have D1:=Lib.hid (cdiffer_leaf (.map (some mb)) a2 ak ao b2 bk bo w hA hB hTA hTB hD hsa hsb hBa n1 n2)
 obtain⟨kl,hkl⟩:=pair_key
 clear hA hB hTA hTB a2 ak ao b2 bk bo
 go_enter Tryz.func139,Tryz.ntmps139
 go_upto_region 2 with(at_lookup;go_loud (refine wpList_lookup_own_ok _ rfl _ _ 202 rfl 237 3 (Keyed.of_law pair_law) under_pairs anyR (zero_int1 _) .nil [] rfl mb 0 (.map []) rfl hM _ _ rfl hkl ?_;intro v ps hv))
 have hz:Maps.has (DataW.map []:DataW Unit) kl=false:=rfl
 clear hv
 have HM:=Lib.hid hM
 have hml:=hM.lt
 clear hM
 go_upto_region 5 with(go_at_call 180;((with_reducible refine D1.out.mono ?_));rintro e w2 ⟨r,rfl,hb2,hk2⟩)
 have hM2:w2.ownsMap Tryz.prog 237 anyR mb 0 (.map []):=by
  obtain⟨es,clock,hb,F,hs,hD⟩:=HM.out
  exact⟨es,clock,(hk2 mb hml (Ne.symm n3) (Ne.symm n4)).trans hb,F,hs,hD⟩
 have HB2:=Lib.hid hb2
 clear hk2 D1 hb2
 have hmn:=map_neq mb w2
 go_wp2_with (at_mapUpdate;go_loud (refine wpList_mapUpdate_own _ rfl _ _ _ 202 rfl 237 3 (Keyed.of_law pair_law) under_pairs anyR mb 0 (.map []) rfl hM2 (by unfold maxLen;omega) _ _ kl rfl rfl hkl .nil [] rfl ?_;intro w3 hM3 hg3))
 go_ret
 exact⟨r,rfl,below_row HB2.out hg3 (by have:=HB2.out.size;omega) hmb⟩
end Go.Proofs.YtgbkbgiogdhnaaaGreatDoor
namespace Go.Proofs.YtgbkbgiogdhnaaaGreatDoor
open Go.RowKit Go.Maps
attribute [local go_sem ↓] Go.wp_at_zero Go.wp_at_succ
theorem alloc_size (w:World) (o:Obj):(w.alloc o).heap.size=w.heap.size+1:=by simp
theorem drew_size (w:World):w.drew.heap.size=w.heap.size:=rfl
theorem le_cur {z:Nat} {w w':World} (h:Below z w w') (hz:w.heap.size=z):z≤w'.heap.size:=by have:=h.size;omega
theorem omap_keep {w w':World} {k:TypeId} {R:Value→Option (DataW Unit×List MemPlace)} {b n:Nat} {D:DataW Unit} (h:w.ownsMap Tryz.prog k R b n D) (hb:Below w.heap.size w w'):w'.ownsMap Tryz.prog k R b n D:=
 h.kept (row:=none) ⟨hb.os,hb.tape,hb.output,hb.size,fun j hj _=>hb.block j hj⟩ (by simp)
theorem omap_made2 (w:World) (k:TypeId) (R:Value→Option (DataW Unit×List MemPlace)):(w.alloc (.map #[] 0)).drew.ownsMap Tryz.prog k R w.heap.size 0 (.map []):=World.ownsMap_made w _ _ _
theorem tab_alloc {w:World} {tb sb g c:Nat} (h:TabR w tb sb g c) (o:Obj):TabR (w.alloc o) tb sb g c:=h.keep ((Below.refl _ _).alloc (Nat.le_refl _) o)
def RetCm (w:World) (e:Ending) (w':World):Prop:=∃r c:Int,e=.returned (.tuple #[.int .i64 r,.int .i64 c])∧Below w.heap.size w w'
set_option maxRecDepth 20000 in
set_option maxHeartbeats 16000000 in
theorem cCompare_leaf {B ga ca gb cb:Nat} {na nb:GNode} (hOa:ChkOK [na] 0) (hOb:ChkOK [nb] 0) (a2:na.items = []) (ak:na.kind=5) (ao:na.ord=false) (b2:nb.items = []) (bk:nb.kind=5) (bo:nb.ord=false) (w:World) (hw:LibE w) (hA:GRd w B ga 0 [na]) (hB:GRd w B gb 0 [nb]) :
  Calls Tryz.prog 100 #[.agg #[.slice (some ⟨ga,0,none⟩) 1 ca,.int .i64 0],.agg #[.slice (some ⟨gb,0,none⟩) 1 cb,.int .i64 0]] w (RetCm w):=by
 obtain⟨h1,h2,hb1,hz1⟩:=box2 w 29 29 [.slice (some ⟨ga,0,none⟩) 1 ca,.int .i64 0] [.slice (some ⟨gb,0,none⟩) 1 cb,.int .i64 0]
 have HB1:=Lib.hid hb1
 have HA:=Lib.hid hA
 have HB:=Lib.hid hB
 have HW:=Lib.hid hw
 obtain⟨va,hva⟩:∃v,chkV [na] 0=v:=⟨_,rfl⟩
 obtain⟨vb,hvb⟩:∃v,chkV [nb] 0=v:=⟨_,rfl⟩
 obtain⟨ya,hya⟩:∃v,acyV [na] 0=v:=⟨_,rfl⟩
 obtain⟨yb,hyb⟩:∃v,acyV [nb] 0=v:=⟨_,rfl⟩
 have DA:Hid (∀w',LibE w'→GRd w' B ga 0 [na]→Calls Tryz.prog 40 #[.agg #[.slice (some ⟨ga,0,none⟩) 1 ca,.int .i64 0]] w' fun e w''=>e=.returned (.int .i64 va)∧Below w'.heap.size w' w''):=fun w' h h'=>by rw [←hva];exact gcheck_any (c:=ca) hOa w' h h'
 have DB:Hid (∀w',LibE w'→GRd w' B gb 0 [nb]→Calls Tryz.prog 40 #[.agg #[.slice (some ⟨gb,0,none⟩) 1 cb,.int .i64 0]] w' fun e w''=>e=.returned (.int .i64 vb)∧Below w'.heap.size w' w''):=fun w' h h'=>by rw [←hvb];exact gcheck_any (c:=cb) hOb w' h h'
 have EA:Hid (∀w',LibE w'→GRd w' B ga 0 [na]→Calls Tryz.prog 138 #[.agg #[.slice (some ⟨ga,0,none⟩) 1 ca,.int .i64 0]] w' fun e w''=>e=.returned (.int .i64 ya)∧Below w'.heap.size w' w''):=fun w' h h'=>by rw [←hya];exact acyclic_any (c:=ca) hOa w' h h'
 have EB:Hid (∀w',LibE w'→GRd w' B gb 0 [nb]→Calls Tryz.prog 138 #[.agg #[.slice (some ⟨gb,0,none⟩) 1 cb,.int .i64 0]] w' fun e w''=>e=.returned (.int .i64 yb)∧Below w'.heap.size w' w''):=fun w' h h'=>by rw [←hyb];exact acyclic_any (c:=cb) hOb w' h h'
 have CA:=Lib.hid (And.intro a2 (And.intro ak ao))
 have CB:=Lib.hid (And.intro b2 (And.intro bk bo))
 have hmm:=@run_makeMap Tryz.prog
 clear hva hvb hya hyb hb1 hA hB hw a2 ak ao b2 bk bo hOa hOb
 obtain⟨ab,hab⟩:∃b,w.heap.size=b:=⟨_,rfl⟩
 obtain⟨bb,hbb⟩:∃b,w.heap.size+1=b:=⟨_,rfl⟩
 go_enter Tryz.func100,Tryz.ntmps100
 go_upto_region 1 with(fail)
 generalize ((w.alloc (.cells #[.slice (some ⟨ga,0,none⟩) 1 ca,.int .i64 0] 29)).alloc (.cells #[.slice (some ⟨gb,0,none⟩) 1 cb,.int .i64 0] 29))=W at *
 have hbb2:bb=ab+1:=by omega
 rw [hab] at h1 HB1
 rw [hbb] at h2
 have HAB:=Lib.hid hab
 have HBB:=Lib.hid hbb2
 try rw [hab]
 rw [←hbb2]
 have lb:bb<W.heap.size:=h2.out.lt
 clear hab hbb hbb2 hz1
 have la:ab<W.heap.size:=h1.out.lt
 have hAW:=Lib.hid (HA.out.below HB1.out (by have:=HA.out.2.1;have:=HAB.out;omega))
 have hWW:=Lib.hid (HW.out.keep (by rw [HAB.out];exact HB1.out))
 have x0:=h1.out.cell' (i:=0) rfl
 have x1:=h1.out.cell' (i:=1) rfl
 by_cases hc1:va=0
 ·subst hc1
  have e0:((0:Int) != 0)=false:=by decide
  by_cases hc2:vb=0
  ·subst hc2
   go_upto_region 3 with(first
    | (go_at_call 40;((with_reducible refine(DA.out _ hWW.out hAW.out).mono ?_));rintro e w2 ⟨rfl,hb2⟩;have HB2:=Lib.hid (HB1.out.trans (hb2.mono (by have:=HB1.out.size;have:=HAB.out;omega)));have y0:=(h2.out.keep hb2).cell' (i:=0) rfl;have y1:=(h2.out.keep hb2).cell' (i:=1) rfl;have hB2:=Lib.hid (HB.out.below HB2.out (by have:=HB.out.2.1;have:=HAB.out;omega));have hW2:=Lib.hid (HW.out.keep (by rw [HAB.out];exact HB2.out)))
    | (go_at_call 40;((with_reducible refine(DB.out _ hW2.out hB2.out).mono ?_));rintro e w3 ⟨rfl,hb3⟩))
   have h13:=Lib.hid ((h1.out.keep hb2).keep hb3)
   have h23:=Lib.hid ((h2.out.keep hb2).keep hb3)
   have HB3:=Lib.hid (HB2.out.trans (hb3.mono (by have:=HB2.out.size;have:=HAB.out;omega)))
   have hsz3:W.heap.size≤w3.heap.size:=Nat.le_trans hb2.size hb3.size
   clear h1 h2 HB1 HB2 hb2 hb3 y0 y1 hB2 hW2 x0 x1 hAW hWW DA DB
   have x0:=h13.out.cell' (i:=0) rfl
   have x1:=h13.out.cell' (i:=1) rfl
   have hA3:=Lib.hid (HA.out.below HB3.out (by have:=HA.out.2.1;have:=HAB.out;omega))
   have hW3:=Lib.hid (HW.out.keep (by rw [HAB.out];exact HB3.out))
   by_cases hc3:ya=0
   ·subst hc3
    by_cases hc4:yb=0
    ·subst hc4
     go_upto_region 5 with(first
      | (go_at_call 138;((with_reducible refine(EA.out _ hW3.out hA3.out).mono ?_));rintro e w4 ⟨rfl,hb4⟩;have HB4:=Lib.hid (HB3.out.trans (hb4.mono (by have:=HB3.out.size;have:=HAB.out;omega)));have y0:=(h23.out.keep hb4).cell' (i:=0) rfl;have y1:=(h23.out.keep hb4).cell' (i:=1) rfl;have hB4:=Lib.hid (HB.out.below HB4.out (by have:=HB.out.2.1;have:=HAB.out;omega));have hW4:=Lib.hid (HW.out.keep (by rw [HAB.out];exact HB4.out)))
      | (go_at_call 138;((with_reducible refine(EB.out _ hW4.out hB4.out).mono ?_));rintro e w5 ⟨rfl,hb5⟩))
     have h15:=Lib.hid ((h13.out.keep hb4).keep hb5)
     have h25:=Lib.hid ((h23.out.keep hb4).keep hb5)
     have HB5:=Lib.hid (HB4.out.trans (hb5.mono (by have:=HB4.out.size;have:=HAB.out;omega)))
     have hsz5:W.heap.size≤w5.heap.size:=Nat.le_trans hsz3 (Nat.le_trans hb4.size hb5.size)
     clear h13 h23 HB3 HB4 hb4 hb5 y0 y1 hB4 hW4 x0 x1 hA3 hW3 EA EB
     obtain⟨z,hz⟩:∃z,w5.heap.size=z:=⟨_,rfl⟩
     have HZ:=Lib.hid hz
     have HA5:=Lib.hid (HA.out.below HB5.out (by have:=HA.out.2.1;have:=HAB.out;omega))
     have HBQ5:=Lib.hid (HB.out.below HB5.out (by have:=HB.out.2.1;have:=HAB.out;omega))
     have hBz:Hid (B≤z):=by have h1:=HA5.out.2.1;show B≤z;omega
     have laz:ab<z:=by omega
     have lbz:bb<z:=by omega
     clear hz
     have x0:∀w',Below z w5 w'→w'.cell? ⟨ab,0,none⟩=some (.slice (some ⟨ga,0,none⟩) 1 ca):=fun w' h=>(h15.out.below h laz).cell' (i:=0) rfl
     have x1:∀w',Below z w5 w'→w'.cell? ⟨ab,1,none⟩=some (.int .i64 0):=fun w' h=>(h15.out.below h laz).cell' (i:=1) rfl
     have y0:∀w',Below z w5 w'→w'.cell? ⟨bb,0,none⟩=some (.slice (some ⟨gb,0,none⟩) 1 cb):=fun w' h=>(h25.out.below h lbz).cell' (i:=0) rfl
     have y1:∀w',Below z w5 w'→w'.cell? ⟨bb,1,none⟩=some (.int .i64 0):=fun w' h=>(h25.out.below h lbz).cell' (i:=1) rfl
     have HGa:Hid (∀w',Below z w5 w'→GRd w' B ga 0 [na]):=fun w' h=>HA5.out.below h hBz.out
     have HGb:Hid (∀w',Below z w5 w'→GRd w' B gb 0 [nb]):=fun w' h=>HBQ5.out.below h hBz.out
     have hS:Below z w5 w5.drew:=(Below.refl _ _).drew
     have hzs:z≤w5.drew.heap.size:=by have:=HZ.out;show z≤w5.heap.size;omega
     go_region_held3 (fun w'=>Below z w5 w') (first | assumption | exact Below.alloc (by assumption) (by first | assumption | (have:=HZ.out;simp;omega)) _)
      (first
       | (go_at_call 103;((with_reducible refine(canonOf_any (g:=ga) (c:=ca) _).mono ?_));rintro e w6 ⟨ta,sa,rfl,hta,hsa,hb6,hTA⟩;have hsa2:=hTA.srt.lt;have z6:=hb6.size;have hS6:Below z w5 w6:=Below.trans (by first | assumption | exact Below.alloc (by assumption) (by first | assumption | (have:=HZ.out;simp;omega)) _) (hb6.mono (by first | assumption | (have:=HZ.out;simp;omega))))
       | (go_at_call 103;((with_reducible refine(canonOf_any (g:=gb) (c:=cb) _).mono ?_));rintro e w7 ⟨tb,sb,rfl,htb,hsb,hb7,hTB⟩;have hsb2:=hTB.srt.lt;have z7:=hb7.size;have hS7:Below z w5 w7:=Below.trans (by first | assumption | exact Below.alloc (by assumption) (by first | assumption | (have:=HZ.out;simp;omega)) _) (hb7.mono (by first | assumption | (have:=HZ.out;simp;omega) | exact le_cur (by first | assumption | exact Below.alloc (by assumption) (by first | assumption | (have:=HZ.out;simp;omega)) _) HZ.out)))
       | (go_at_call 139;go_loud (refine(ccompare_leaf (B:=B) (D:=z) CA.out.1 CA.out.2.1 CA.out.2.2 CB.out.1 CB.out.2.1 CB.out.2.2 _ (HGa.out _ (by first | assumption | exact Below.alloc (by assumption) (by first | assumption | (have:=HZ.out;simp;omega)) _)) (HGb.out _ (by first | assumption | exact Below.alloc (by assumption) (by first | assumption | (have:=HZ.out;simp;omega)) _)) (by first | exact hTA.keep hb7 | exact(tab_alloc hTA _).keep hb7 | exact tab_alloc (hTA.keep hb7) _) (by first | exact hTB | exact tab_alloc hTB _) (by first | exact World.ownsMap_made _ _ _ _ | exact omap_keep (World.ownsMap_made _ _ _ _) hb7 | exact omap_keep (omap_keep (World.ownsMap_made _ _ _ _) hb6) hb7 | exact omap_keep (omap_keep (omap_made2 _ _ _) hb6) hb7) (le_cur (by first | assumption | exact Below.alloc (by assumption) (by first | assumption | (have:=HZ.out;simp;omega)) _) HZ.out) (by have a1:=hsa;have a2:=hsb;have a3:=htb;have a4:=hsa2;have a5:=hsb2;have a6:=z6;have a7:=z7;simp only [alloc_size,drew_size] at a1 a2 a3 a6 a7 ⊢;have h5:=HZ.out;have hbz:=hBz.out;omega) (by have a1:=hsa;have a2:=hsb;have a3:=htb;have a4:=hsa2;have a5:=hsb2;have a6:=z6;have a7:=z7;simp only [alloc_size,drew_size] at a1 a2 a3 a6 a7 ⊢;have h5:=HZ.out;have hbz:=hBz.out;omega) (by have a1:=hsa;have a2:=hsb;have a3:=htb;have a4:=hsa2;have a5:=hsb2;have a6:=z6;have a7:=z7;simp only [alloc_size,drew_size] at a1 a2 a3 a6 a7 ⊢;have h5:=HZ.out;have hbz:=hBz.out;omega) (by have a1:=hsa;have a2:=hsb;have a3:=htb;have a4:=hsa2;have a5:=hsb2;have a6:=z6;have a7:=z7;simp only [alloc_size,drew_size] at a1 a2 a3 a6 a7 ⊢;have h5:=HZ.out;have hbz:=hBz.out;omega) (by have a1:=hsa;have a2:=hsb;have a3:=htb;have a4:=hsa2;have a5:=hsb2;have a6:=z6;have a7:=z7;simp only [alloc_size,drew_size] at a1 a2 a3 a6 a7 ⊢;have h5:=HZ.out;have hbz:=hBz.out;omega) (by have a1:=hsa;have a2:=hsb;have a3:=htb;have a4:=hsa2;have a5:=hsb2;have a6:=z6;have a7:=z7;simp only [alloc_size,drew_size] at a1 a2 a3 a6 a7 ⊢;have h5:=HZ.out;have hbz:=hBz.out;omega) (by have a1:=hsa;have a2:=hsb;have a3:=htb;have a4:=hsa2;have a5:=hsb2;have a6:=z6;have a7:=z7;simp only [alloc_size,drew_size] at a1 a2 a3 a6 a7 ⊢;have h5:=HZ.out;have hbz:=hBz.out;omega) (by have a1:=hsa;have a2:=hsb;have a3:=htb;have a4:=hsa2;have a5:=hsb2;have a6:=z6;have a7:=z7;simp only [alloc_size,drew_size] at a1 a2 a3 a6 a7 ⊢;have h5:=HZ.out;have hbz:=hBz.out;omega)).mono ?_;rintro e w8 ⟨r,rfl,hb8⟩;have hS8:Below z w5 w8:=Below.trans (by first | assumption | exact Below.alloc (by assumption) (by first | assumption | (have:=HZ.out;simp;omega)) _) hb8)))
     all_goals
      go_wp2_with (fail)
      go_ret2
      exact⟨r,0,rfl,by rw [HAB.out];exact HB5.out.trans (hS8.mono (by omega))⟩
    ·have e4:(yb != 0)=true:=by simpa using hc4
     go_wp2_with (first | (go_at_call 138;((with_reducible refine(EA.out _ hW3.out hA3.out).mono ?_));rintro e w4 ⟨rfl,hb4⟩;have HB4:=Lib.hid (HB3.out.trans (hb4.mono (by have:=HB3.out.size;have:=HAB.out;omega)));have y0:=(h23.out.keep hb4).cell' (i:=0) rfl;have y1:=(h23.out.keep hb4).cell' (i:=1) rfl;have hB4:=Lib.hid (HB.out.below HB4.out (by have:=HB.out.2.1;have:=HAB.out;omega));have hW4:=Lib.hid (HW.out.keep (by rw [HAB.out];exact HB4.out))) | (go_at_call 138;((with_reducible refine(EB.out _ hW4.out hB4.out).mono ?_));rintro e w5 ⟨rfl,hb5⟩))
     go_ret2
     exact⟨0,14,rfl,by rw [HAB.out];exact HB4.out.trans (hb5.mono (by have:=HB4.out.size;have:=HAB.out;omega))⟩
   ·have e3:(ya != 0)=true:=by simpa using hc3
    go_wp2_with (go_at_call 138;((with_reducible refine(EA.out _ hW3.out hA3.out).mono ?_));rintro e w4 ⟨rfl,hb4⟩;have HB4:=Lib.hid (HB3.out.trans (hb4.mono (by have:=HB3.out.size;have:=HAB.out;omega)));have y0:=(h23.out.keep hb4).cell' (i:=0) rfl;have y1:=(h23.out.keep hb4).cell' (i:=1) rfl;have hB4:=Lib.hid (HB.out.below HB4.out (by have:=HB.out.2.1;have:=HAB.out;omega));have hW4:=Lib.hid (HW.out.keep (by rw [HAB.out];exact HB4.out)))
    go_ret2
    exact⟨0,14,rfl,by rw [HAB.out];exact HB4.out⟩
  ·have e2:(vb != 0)=true:=by simpa using hc2
   go_wp2_with (first | (go_at_call 40;((with_reducible refine(DA.out _ hWW.out hAW.out).mono ?_));rintro e w2 ⟨rfl,hb2⟩;have HB2:=Lib.hid (HB1.out.trans (hb2.mono (by have:=HB1.out.size;have:=HAB.out;omega)));have y0:=(h2.out.keep hb2).cell' (i:=0) rfl;have y1:=(h2.out.keep hb2).cell' (i:=1) rfl;have hB2:=Lib.hid (HB.out.below HB2.out (by have:=HB.out.2.1;have:=HAB.out;omega));have hW2:=Lib.hid (HW.out.keep (by rw [HAB.out];exact HB2.out))) | (go_at_call 40;((with_reducible refine(DB.out _ hW2.out hB2.out).mono ?_));rintro e w3 ⟨rfl,hb3⟩))
   go_ret2
   exact⟨0,3,rfl,by rw [HAB.out];exact HB2.out.trans (hb3.mono (by have:=HB2.out.size;have:=HAB.out;omega))⟩
 ·have e1:(va != 0)=true:=by simpa using hc1
  go_wp2_with (go_at_call 40;((with_reducible refine(DA.out _ hWW.out hAW.out).mono ?_));rintro e w2 ⟨rfl,hb2⟩;have HB2:=Lib.hid (HB1.out.trans (hb2.mono (by have:=HB1.out.size;have:=HAB.out;omega)));have y0:=(h2.out.keep hb2).cell' (i:=0) rfl;have y1:=(h2.out.keep hb2).cell' (i:=1) rfl;have hB2:=Lib.hid (HB.out.below HB2.out (by have:=HB.out.2.1;have:=HAB.out;omega));have hW2:=Lib.hid (HW.out.keep (by rw [HAB.out];exact HB2.out)))
  go_ret2
  exact⟨0,3,rfl,by rw [HAB.out];exact HB2.out⟩
end Go.Proofs.YtgbkbgiogdhnaaaGreatDoor
