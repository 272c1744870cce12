/- The walks of ini's header and entry. -/
import Derived.Test.YtnnnagnjikdnnaaGreatDoorMBt
import Derived.Test.YtnnnagnjikdnnaaGreatDoorMBi
set_option linter.unusedVariables false
set_option linter.unusedSimpArgs false
set_option linter.defProp false
set_option linter.constructorNameAsVariable false
namespace Go.Proofs.YtnnnagnjikdnnaaGreatDoor
open Go.RowKit
theorem name_ib {pb i e en stop x:Nat} {S t:List Nat} (hS:By S) (hl:S.length≤100000) (he:e≤S.length) (hn:NameAt S i e en t stop x) (z:Int) (hz:(en:Int)=z) (w:World) (hp:w.cell? ⟨pb,2,none⟩=some (.string (mks S))) :
  Calls Tryz.prog 77 #[.pointer (some ⟨pb,0,none⟩),.int .i64 (i:Int),.int .i64 (e:Int),.int .u8 z] w fun r w'=>r=.returned (.tuple #[.string (mks t),.int .i64 (stop:Int),.int .i64 ((x+1:Nat):Int),.bool true])∧Below w.heap.size w w':=by
 subst hz
 cases hn with
 | quo hq hs hb hx hen ht=>
  subst hs
  exact nameQ_cb hS hl ht hq hb hx hen w hp
 | bare h0 hr hx hen hs hi ht=>exact nameB_cb hS hl he h0 hr hx hen hs hi ht w hp
theorem NameAt.lt {S t:List Nat} {i e en stop x:Nat} (h:NameAt S i e en t stop x):x<e:=by
 cases h with
 | quo hq hs hb hx hen ht=>exact hx
 | bare h0 hr hx hen hs hi ht=>exact hx
set_option maxRecDepth 20000 in
set_option maxHeartbeats 8000000 in
theorem header_ib {w:World} {B i j stop x b:Nat} {S t:List Nat} {vn vs:Value} {ncs:List Value} {lab:Nat→Option Nat} {st:ISt} (h:IM w B S vn vs ncs lab none st) (hS:By S) (hl:S.length≤100000) (hb:b≤S.length) (hi:i<b)
  (hj:BlkI S (i+1) b j) (hn:NameAt S j b 93 t stop x) (he:BlkI S (x+1) b b) (ha:AddOK st.nodes 0 t) (hs:st.spans.length≤4096) :
  Calls Tryz.prog 48 #[.pointer (some ⟨B,0,none⟩),.int .i64 (i:Int),.int .i64 (b:Int)] w fun e w'=>
   e=.returned (.bool true) ∧
   ∃vn' vs' ncs' lab' sp',IM w' B S vn' vs' ncs' lab' none { tn:=st.nodes.length+1,ts:=st.spans.length,nodes:=addN st.nodes 0 t ⟨10,[],false,[],[]⟩,spans:=st.spans ++ [sp'] }∧PStep w w' (IF B vn vs lab) (IF B vn' vs' lab'):=by
 have hx:=hn.lt
 have p2:=h.par.cell' (i:=2) rfl
 have i1:(i:Int)+1=((i+1:Nat):Int):=by omega
 have D1:=Lib.hid (fun(w':World) (hb':Below w.heap.size w w')=>blanks_cb hS hl hb hj w' ((hb'.cell (block_lt_of_cell p2)).trans p2))
 have D2:=Lib.hid (fun(w':World) (hb':Below w.heap.size w w')=>name_ib hS hl hb hn 93 rfl w' ((hb'.cell (block_lt_of_cell p2)).trans p2))
 have D3:=Lib.hid (fun(w':World) (hb':Below w.heap.size w w')=>blanks_cb hS hl hb he w' ((hb'.cell (block_lt_of_cell p2)).trans p2))
 have i3:((x+1:Nat):Int)=(x:Int)+1:=by omega
 have D4:Hid (∀(w':World),Below w.heap.size w w'→Calls Tryz.prog 79 #[.pointer (some ⟨B,0,none⟩),.agg #[.int .i64 0,.int .i64 0],.string (mks t),.agg #[.int .i64 10,.string ⟨#[]⟩,.bool false,.slice none 0 0,.slice none 0 0],.agg #[.int .i64 0,.int .i64 0,.int .i64 0,.int .i64 (i:Int),.int .i64 ((x:Int)+1),.int .i64 (j:Int),.int .i64 (stop:Int),.bool false,.bool false]] w' fun e w''=>
   e=.returned (.tuple #[.agg #[.int .i64 ((st.nodes.length+1:Nat):Int),.int .i64 (st.spans.length:Int)],.bool true]) ∧
   ∃vn' vs' ncs' lab' sp',IM w'' B S vn' vs' ncs' lab' none { st with nodes:=addN st.nodes 0 t ⟨10,[],false,[],[]⟩,spans:=st.spans ++ [sp'] }∧PStep w' w'' (IF B vn vs lab) (IF B vn' vs' lab')):=
  fun w' hb'=>add_ib (ts:=0) (kd:=10) (tx:=[]) (sp:=⟨0,0,0,(i:Int),(x:Int)+1,(j:Int),(stop:Int),false,false⟩) (h.below hb') ha hs
 rw [i3] at D3
 clear i3
 rw [←i1] at D1
 clear i1
 have HB:=Lib.hid (Below.refl w.heap.size w)
 have HI:=Lib.hid h
 have hbb:¬(b:Int)<b:=by omega
 have hi9:(i:Int)+1≤100001:=by omega
 clear h hS hl hb hi hj hn he ha hs hx p2
 go_enter Tryz.func48,Tryz.ntmps48
 go_upto_region 3 with(first | (go_at_call 47;((with_reducible refine(D1.out _ HB.out).mono ?_));rintro r w1 ⟨rfl,hb1⟩) | (go_at_call 77;((with_reducible refine(D2.out _ hb1).mono ?_));rintro r w2 ⟨rfl,hb2⟩;have hb3:=hb1.trans (hb2.mono hb1.size)))
 have HB3:=Lib.hid hb3
 clear hb1 hb2 hb3 D1 D2
 go_upto_region 8 with(go_at_call 47;((with_reducible refine(D3.out _ HB3.out).mono ?_));rintro r w4 ⟨rfl,hb4⟩;have HB4:=Lib.hid (HB3.out.trans (hb4.mono HB3.out.size));clear hb4 HB3)
 clear D3
 go_upto_region 9 with(go_at_call 79;((with_reducible refine(D4.out _ HB4.out).mono ?_));rintro r w5 ⟨rfl,vn5,vs5,ncs5,lab5,sp5,hI5,hP5⟩;have HI5:=Lib.hid hI5;have HP5:=Lib.hid hP5;clear hI5 hP5)
 have hS6:=Lib.hid (Arr.new w5 68 [.int .i64 ((st.nodes.length:Int)+1),.int .i64 (st.spans.length:Int)])
 have hb6:Below w5.heap.size w5 (w5.alloc (.cells #[.int .i64 ((st.nodes.length:Int)+1),.int .i64 (st.spans.length:Int)] 68)):=(Below.refl _ _).alloc (Nat.le_refl _) _
 change Hid (Arr (w5.alloc (.cells #[.int .i64 ((st.nodes.length:Int)+1),.int .i64 (st.spans.length:Int)] 68)) w5.heap.size 68 [.int .i64 ((st.nodes.length:Int)+1),.int .i64 (st.spans.length:Int)]) at hS6
 have HI6:=Lib.hid (HI5.out.below hb6)
 have HP6:=Lib.hid ((PStep.of_below HB4.out).trans (HP5.out.below' hb6))
 clear HI5 HP5 HB4 hb6 D4 HB
 generalize w5.alloc (.cells #[.int .i64 ((st.nodes.length:Int)+1),.int .i64 (st.spans.length:Int)] 68)=W6 at *
 have s0:=hS6.out.cell' (i:=0) rfl
 have s1:=hS6.out.cell' (i:=1) rfl
 have p0:=HI6.out.par.cell' (i:=0) rfl
 have p1:=HI6.out.par.cell' (i:=1) rfl
 have f0:=HI6.out.par.frozen 0
 have f1:=HI6.out.par.frozen 1
 go_wp2_with (fail)
 go_ret
 refine⟨rfl,_,_,_,_,⟨_,HI6.out.setSec (st.nodes.length+1) st.spans.length⟩,?_⟩
 exact(HP6.out.far (p:=⟨B,0,none⟩) (.inr (.inl rfl)) _).far (p:=⟨B,1,none⟩) (.inr (.inl rfl)) _
set_option maxRecDepth 20000 in
set_option maxHeartbeats 8000000 in
theorem entry_ib {w:World} {B i stop x b f g:Nat} {S k v:List Nat} {vn vs:Value} {ncs:List Value} {lab:Nat→Option Nat} {st:ISt} (h:IM w B S vn vs ncs lab none st) (hS:By S) (hl:S.length≤100000) (hb:b≤S.length)
  (hn:NameAt S i b 61 k stop x) (hf:BlkI S (x+1) b f) (hv:ValAt S f b v g) (ha:AddOK st.nodes st.tn k) (hs:st.spans.length≤4096) (hts:st.ts<st.spans.length) :
  Calls Tryz.prog 49 #[.pointer (some ⟨B,0,none⟩),.int .i64 (i:Int),.int .i64 (b:Int)] w fun e w'=>
   e=.returned (.bool true) ∧
   ∃vn' vs' ncs' lab' sp',IM w' B S vn' vs' ncs' lab' none { st with nodes:=addN st.nodes st.tn k (tN v),spans:=sp' }∧sp'.length=st.spans.length+1∧PStep w w' (IF B vn vs lab) (IF B vn' vs' lab'):=by
 have hx:=hn.lt
 have hfb:=hf.2.1
 have hfx:=hf.1
 have p2:=h.par.cell' (i:=2) rfl
 obtain⟨g0,bq,ht0,hQ1,hQ2⟩:∃(g0:Nat) (bq:Bool),TrmI S f b g0∧(bq=true→f<b∧QuoAt S f b v∧f+(quoI v).length=g∧BlkI S g b b∧By v)∧(bq=false→(f=b∨∃c,S[f]? = some c∧c≠34)∧g0=g∧(S.take g).drop f=v):=by
  cases hv with
  | quo g0 hf h0 hq hg hb ht=>exact⟨g0,true,h0,fun _=>⟨hf,hq,hg,hb,ht⟩,fun e=>by cases e⟩
  | bare h0 hs ht=>exact⟨g,false,hs,(fun e=>by cases e),fun _=>⟨h0,rfl,ht⟩⟩
 have HQ1:=Lib.hid hQ1
 have HQ2:=Lib.hid hQ2
 clear hQ1 hQ2
 have D1:=Lib.hid (fun(w':World) (hb':Below w.heap.size w w')=>name_ib hS hl hb hn 61 rfl w' ((hb'.cell (block_lt_of_cell p2)).trans p2))
 have D2:=Lib.hid (fun(w':World) (hb':Below w.heap.size w w')=>blanks_cb hS hl hb hf w' ((hb'.cell (block_lt_of_cell p2)).trans p2))
 have D3:=Lib.hid (fun(w':World) (hb':Below w.heap.size w w')=>trimmed_cb hS hl hb ht0 w' ((hb'.cell (block_lt_of_cell p2)).trans p2))
 have i3:((x+1:Nat):Int)=(x:Int)+1:=by omega
 rw [i3] at D2
 clear i3
 have HB:=Lib.hid (Below.refl w.heap.size w)
 have HI:=Lib.hid h
 have HS:=Lib.hid hS
 have HSL:=Lib.hid hl
 have HBL:=Lib.hid hb
 have HA:=Lib.hid ha
 have HSS:=Lib.hid hs
 have HTS:=Lib.hid hts
 have hg1:=ht0.1
 have hg2:=ht0.2.1
 have HT0:=Lib.hid ht0
 clear h hS hn hf hv ha hs p2 ht0 hl hts
 go_enter Tryz.func49,Tryz.ntmps49
 go_upto_region 6 with(first | (go_at_call 77;((with_reducible refine(D1.out _ HB.out).mono ?_));rintro r w1 ⟨rfl,hb1⟩;have HB1:=Lib.hid hb1;clear hb1) | (go_at_call 47;((with_reducible refine(D2.out _ HB1.out).mono ?_));rintro r w2 ⟨rfl,hb2⟩;have HB2:=Lib.hid (HB1.out.trans (hb2.mono HB1.out.size));clear hb2) | (go_at_call 80;((with_reducible refine(D3.out _ HB2.out).mono ?_));rintro r w3 ⟨rfl,hb3⟩;have HB3:=Lib.hid (HB2.out.trans (hb3.mono HB2.out.size));clear hb3))
 have hS6:Hid (Arr (w3.alloc (.cells #[.int .i64 0,.int .i64 0,.int .i64 0,.int .i64 (f:Int),.int .i64 (g0:Int),.int .i64 (i:Int),.int .i64 (stop:Int),.bool false,.bool true] 72)) w3.heap.size 72 [.int .i64 0,.int .i64 0,.int .i64 0,.int .i64 (f:Int),.int .i64 (g0:Int),.int .i64 (i:Int),.int .i64 (stop:Int),.bool false,.bool true]):=Arr.new w3 _ _
 have hb6:Below w3.heap.size w3 (w3.alloc (.cells #[.int .i64 0,.int .i64 0,.int .i64 0,.int .i64 (f:Int),.int .i64 (g0:Int),.int .i64 (i:Int),.int .i64 (stop:Int),.bool false,.bool true] 72)):=(Below.refl _ _).alloc (Nat.le_refl _) _
 have HB6:=Lib.hid (HB3.out.trans (hb6.mono HB3.out.size))
 have HZ6:=Lib.hid HB3.out.size
 clear HB3 hb6 D1 D2 D3 HB
 generalize w3.alloc (.cells #[.int .i64 0,.int .i64 0,.int .i64 0,.int .i64 (f:Int),.int .i64 (g0:Int),.int .i64 (i:Int),.int .i64 (stop:Int),.bool false,.bool true] 72)=W6 at *
 obtain⟨q,hq⟩:∃q,w3.heap.size=q:=⟨_,rfl⟩
 rw [hq] at hS6 HZ6 ⊢
 clear hq
 have p2:=(HI.out.below HB6.out).par.cell' (i:=2) rfl
 have s3:=hS6.out.cell' (i:=3) rfl
 have s4:=hS6.out.cell' (i:=4) rfl
 obtain⟨m,hm⟩:∃m,S.length=m:=⟨_,rfl⟩
 have hsz:(mks S).size=m:=by rw [size_mks];exact hm
 have hbm:b≤m:=by rw [←hm];exact HBL.out
 have hml:m≤100000:=by rw [←hm];exact HSL.out
 have HM:=Lib.hid hm
 clear hm
 have e1:(f:Int)≤g0:=by omega
 have e2:(g0:Int)≤m:=by omega
 have e0:(0:Int)≤f:=by omega
 go_region
 have HB7:Hid (Below w.heap.size w W6.drew):=HB6.out.drew
 have hS7:Hid (Arr W6.drew q 72 [.int .i64 0,.int .i64 0,.int .i64 0,.int .i64 (f:Int),.int .i64 (g0:Int),.int .i64 (i:Int),.int .i64 (stop:Int),.bool false,.bool true]):=hS6.out
 clear HB6 hS6 p2 s3 s4
 generalize W6.drew=W7 at *
 obtain⟨tx0,htx⟩:∃t,mks ((S.take g0).drop f)=t:=⟨_,rfl⟩
 rw [htx]
 have HTX:=Lib.hid htx
 clear htx
 go_upto_region 7 with(fail)
 go_cut [63] (fun p wx=>p=.bool bq∧Hid (W7=wx))
 case first=>
  have p2:=(HI.out.below HB7.out).par.cell' (i:=2) rfl
  cases bq with
  | true=>
   obtain⟨hfb,hq,hg,hbl,ht⟩:=HQ1.out rfl
   have f1:(f:Int)<b:=by omega
   have f2:(f:Int)<m:=by omega
   have q0:f<(mks S).size:=by rw [hsz];omega
   have hgx:=get_mks hq.first (by decide) q0
   clear hq hg hbl ht
   go_wp2_with (fail)
   go_meet
   exact⟨rfl,rfl⟩
  | false=>
   obtain⟨h0,_,_⟩:=HQ2.out rfl
   by_cases hfb:f<b
   ·obtain⟨c,hc,hc2⟩:∃c,S[f]? = some c∧c≠34:=by
     rcases h0 with rfl | h0
     ·omega
     ·exact h0
    have f1:(f:Int)<b:=by omega
    have f2:(f:Int)<m:=by omega
    have q0:f<(mks S).size:=by rw [hsz];omega
    have hcb:=HS.out.get hc
    have hgx:=get_mks hc hcb q0
    have n34:((c:Int) == 34)=false:=by simp;omega
    clear hc h0
    go_wp2_with (fail)
    go_meet
    exact⟨rfl,rfl⟩
   ·have f1:¬(f:Int)<b:=by omega
    go_wp2_with (fail)
    go_meet
    exact⟨rfl,rfl⟩
 case rest=>
  obtain⟨rfl,hw⟩:=hcut
  obtain⟨W8,hw8⟩:∃x,x=wc:=⟨_,rfl⟩
  subst hw8
  obtain rfl:=hw.out
  go_upto_if 63 with(fail)
  go_cut [13] (fun p wx=>p=.string (mks v)∧Hid (Arr wx q 72 [.int .i64 0,.int .i64 0,.int .i64 0,.int .i64 (f:Int),.int .i64 (g:Int),.int .i64 (i:Int),.int .i64 (stop:Int),.bool false,.bool true])∧Hid (Below w.heap.size w wx))
  case first=>
   cases bq with
   | true=>
    obtain⟨hfb,hq,hg,hbl,ht⟩:=HQ1.out rfl
    have p2:=HI.out.par.cell' (i:=2) rfl
    have D5:=Lib.hid (fun(w':World) (hb':Below w.heap.size w w')=>quotedI_cb HS.out HSL.out ht hq w' ((hb'.cell (block_lt_of_cell p2)).trans p2))
    have D6:=Lib.hid (fun(w':World) (hb':Below w.heap.size w w')=>blanks_cb HS.out HSL.out HBL.out hbl w' ((hb'.cell (block_lt_of_cell p2)).trans p2))
    rw [hg] at D5
    have hbb:¬(b:Int)<b:=by omega
    clear hq hg hbl ht p2
    go_upto_region 14 with(first | (go_at_call 81;((with_reducible refine(D5.out _ HB7.out).mono ?_));rintro r w9 ⟨rfl,hb9⟩;have HB9:=Lib.hid (HB7.out.trans (hb9.mono HB7.out.size));have hS9:=Lib.hid (hS7.out.keep hb9);clear hb9) | (go_at_call 47;((with_reducible refine(D6.out _ HB9.out).mono ?_));rintro r w10 ⟨rfl,hb10⟩;have HB10:=Lib.hid (HB9.out.trans (hb10.mono HB9.out.size));have hS10:=Lib.hid (hS9.out.keep hb10);clear hb10))
    have s4:=hS10.out.cell' (i:=4) rfl
    have f4:=hS10.out.frozen 4
    go_wp2_with (fail)
    go_meet
    exact⟨rfl,hS10.out.store 4 _,HB10.out.setCell (p:=⟨q,4,none⟩) HZ6.out _⟩
   | false=>
    obtain⟨_,hg,ht⟩:=HQ2.out rfl
    go_wp2_with (fail)
    go_meet
    exact⟨by rw [←HTX.out,hg,ht],by rw [←hg];exact hS7.out,HB7.out⟩
  case rest=>
   obtain⟨rfl,hS11,HB11⟩:=hcut
   obtain⟨W11,hw11⟩:∃x,x=wc:=⟨_,rfl⟩
   subst hw11
   go_upto_region 15 with(fail)
   have D7:Hid (∀(w':World),Below w.heap.size w w'→Calls Tryz.prog 79 #[.pointer (some ⟨B,0,none⟩),.agg #[.int .i64 (st.tn:Int),.int .i64 (st.ts:Int)],.string (mks k),.agg #[.int .i64 5,.string (mks v),.bool false,.slice none 0 0,.slice none 0 0],.agg #[.int .i64 0,.int .i64 0,.int .i64 0,.int .i64 (f:Int),.int .i64 (g:Int),.int .i64 (i:Int),.int .i64 (stop:Int),.bool false,.bool true]] w' fun e w''=>
     e=.returned (.tuple #[.agg #[.int .i64 ((st.nodes.length+1:Nat):Int),.int .i64 (st.spans.length:Int)],.bool true]) ∧
     ∃vn' vs' ncs' lab' sp',IM w'' B S vn' vs' ncs' lab' none { st with nodes:=addN st.nodes st.tn k (tN v),spans:=st.spans ++ [sp'] }∧PStep w' w'' (IF B vn vs lab) (IF B vn' vs' lab')):=
    fun w' hb'=>add_ib (kd:=5) (tx:=v) (sp:=⟨0,0,0,(f:Int),(g:Int),(i:Int),(stop:Int),false,true⟩) (HI.out.below hb') HA.out HSS.out
   have HI11:=Lib.hid (HI.out.below HB11.out)
   have hqF:Hid (¬IF B vn vs lab q):=fun hF=>by have:=HI.out.cfLt q hF;have:=HZ6.out;omega
   have hB0:=HI11.out.par.cell' (i:=0) rfl
   have hB1:=HI11.out.par.cell' (i:=1) rfl
   have hq0:=hS11.out.cell' (i:=0) rfl
   have hq1:=hS11.out.cell' (i:=1) rfl
   have hq2:=hS11.out.cell' (i:=2) rfl
   have hq3:=hS11.out.cell' (i:=3) rfl
   have hq4:=hS11.out.cell' (i:=4) rfl
   have hq5:=hS11.out.cell' (i:=5) rfl
   have hq6:=hS11.out.cell' (i:=6) rfl
   have hq7:=hS11.out.cell' (i:=7) rfl
   have hq8:=hS11.out.cell' (i:=8) rfl
   have hgF:Hid (¬IF B vn vs lab W11.heap.size):=fun hF=>by have:=HI.out.cfLt _ hF;have:=HB11.out.size;omega
   have hne18:Hid (q≠W11.heap.size):=fun e=>by have:=hS11.out.lt;omega
   have hneB:Hid (B≠W11.heap.size):=fun e=>by have:=HI11.out.par.lt;omega
   go_cut [19] (fun p wx=>p=.bool true∧∃vn' vs' ncs' lab' sp',IM wx B S vn' vs' ncs' lab' none { st with nodes:=addN st.nodes st.tn k (tN v),spans:=st.spans ++ [sp'] }∧PStep w wx (IF B vn vs lab) (IF B vn' vs' lab')∧Arr wx q 72 [.int .i64 0,.int .i64 0,.int .i64 0,.int .i64 (f:Int),.int .i64 (g:Int),.int .i64 (i:Int),.int .i64 (stop:Int),.bool false,.bool true]∧¬IF B vn' vs' lab' q)
   case first=>
    go_region_held3 (fun w'=>w'.cell? ⟨B,0,none⟩=some (.int .i64 (st.tn:Int))∧w'.cell? ⟨B,1,none⟩=some (.int .i64 (st.ts:Int))∧w'.cell? ⟨q,0,none⟩=some (.int .i64 0)∧w'.cell? ⟨q,1,none⟩=some (.int .i64 0)∧w'.cell? ⟨q,2,none⟩=some (.int .i64 0)∧w'.cell? ⟨q,3,none⟩=some (.int .i64 (f:Int))∧w'.cell? ⟨q,4,none⟩=some (.int .i64 (g:Int))∧w'.cell? ⟨q,5,none⟩=some (.int .i64 (i:Int))∧w'.cell? ⟨q,6,none⟩=some (.int .i64 (stop:Int))∧w'.cell? ⟨q,7,none⟩=some (.bool false)∧w'.cell? ⟨q,8,none⟩=some (.bool true)) (first | exact⟨by assumption,by assumption,by assumption,by assumption,by assumption,by assumption,by assumption,by assumption,by assumption,by assumption,by assumption⟩ | go_keep) (first | (go_at_call 79;((with_reducible refine(D7.out _ (by first | exact HB11.out.drew | exact(HB11.out.alloc HB11.out.size _).drew)).mono ?_));rintro e w12 ⟨rfl,vn5,vs5,ncs5,lab5,sp5,hI5,hP5⟩;have hA5:Arr w12 q 72 [.int .i64 0,.int .i64 0,.int .i64 0,.int .i64 (f:Int),.int .i64 (g:Int),.int .i64 (i:Int),.int .i64 (stop:Int),.bool false,.bool true]:=hP5.arr (by first | exact hS11.out | exact hS11.out.alloc _) hqF.out;have kB0:=hI5.par.cell' (i:=0) rfl;have kB1:=hI5.par.cell' (i:=1) rfl;have kq0:=hA5.cell' (i:=0) rfl;have kq1:=hA5.cell' (i:=1) rfl;have kq2:=hA5.cell' (i:=2) rfl;have kq3:=hA5.cell' (i:=3) rfl;have kq4:=hA5.cell' (i:=4) rfl;have kq5:=hA5.cell' (i:=5) rfl;have kq6:=hA5.cell' (i:=6) rfl;have kq7:=hA5.cell' (i:=7) rfl;have kq8:=hA5.cell' (i:=8) rfl;(try (have hG5:Arr w12 W11.heap.size 68 [.int .i64 0,.int .i64 0]:=hP5.arr (Arr.new W11 68 [.int .i64 0,.int .i64 0]) hgF.out;have g50:=hG5.cell' (i:=0) rfl;have g51:=hG5.cell' (i:=1) rfl;have gf0:=hG5.frozen 0;have gf1:=hG5.frozen 1;clear hG5));have hA6:Arr ((w12.setCell ⟨W11.heap.size,0,none⟩ (.int .i64 ((st.nodes.length:Int)+1))).setCell ⟨W11.heap.size,1,none⟩ (.int .i64 (st.spans.length:Int))) q 72 [.int .i64 0,.int .i64 0,.int .i64 0,.int .i64 (f:Int),.int .i64 (g:Int),.int .i64 (i:Int),.int .i64 (stop:Int),.bool false,.bool true]:=(hA5.far (p:=⟨W11.heap.size,0,none⟩) hne18.out _).far (p:=⟨W11.heap.size,1,none⟩) hne18.out _;have hP6:=(hI5.par.far (p:=⟨W11.heap.size,0,none⟩) hneB.out (.int .i64 ((st.nodes.length:Int)+1))).far (p:=⟨W11.heap.size,1,none⟩) hneB.out (.int .i64 (st.spans.length:Int));have jB0:=hP6.cell' (i:=0) rfl;have jB1:=hP6.cell' (i:=1) rfl;have jq0:=hA6.cell' (i:=0) rfl;have jq1:=hA6.cell' (i:=1) rfl;have jq2:=hA6.cell' (i:=2) rfl;have jq3:=hA6.cell' (i:=3) rfl;have jq4:=hA6.cell' (i:=4) rfl;have jq5:=hA6.cell' (i:=5) rfl;have jq6:=hA6.cell' (i:=6) rfl;have jq7:=hA6.cell' (i:=7) rfl;have jq8:=hA6.cell' (i:=8) rfl;clear hA6 hP6;have HA5:=Lib.hid hA5;have HI5:=Lib.hid hI5;have HP5:=Lib.hid hP5;clear hI5 hP5 hA5))
    all_goals
     go_wp2_with (fail)
     go_meet
     first
      | exact⟨rfl,_,_,_,_,_,HI5.out.below ((Below.refl _ _).alloc (Nat.le_refl _) _),((PStep.of_below HB11.out.drew).trans HP5.out).below' ((Below.refl _ _).alloc (Nat.le_refl _) _),HA5.out.alloc _,HP5.out.out hS11.out.lt hqF.out⟩
      | exact⟨rfl,_,_,_,_,_,(HI5.out.far (p:=⟨W11.heap.size,0,none⟩) (HP5.out.out (by simp) hgF.out) _).far (p:=⟨W11.heap.size,1,none⟩) (HP5.out.out (by simp) hgF.out) _,((((PStep.of_below (HB11.out.alloc HB11.out.size _).drew).trans HP5.out).far (p:=⟨W11.heap.size,0,none⟩) (.inl HB11.out.size) _).far (p:=⟨W11.heap.size,1,none⟩) (.inl HB11.out.size) _),(HA5.out.far (p:=⟨W11.heap.size,0,none⟩) hne18.out _).far (p:=⟨W11.heap.size,1,none⟩) hne18.out _,HP5.out.out (by have:=hS11.out.lt;simp;omega) hqF.out⟩
   case rest=>
    obtain⟨rfl,vn5,vs5,ncs5,lab5,sp5,I5,P5,A5,Q5⟩:=hcut
    obtain⟨W13,hw13⟩:∃x,x=wc:=⟨_,rfl⟩
    subst hw13
    have HI5:=Lib.hid I5
    have HP5:=Lib.hid P5
    have HA5:=Lib.hid A5
    clear I5 P5 A5 hB0 hB1 hq0 hq1 hq2 hq3 hq4 hq5 hq6 hq7 hq8
    go_upto_region 18 with(fail)
    have b1:=HI5.out.par.cell' (i:=1) rfl
    by_cases h0:st.ts > 0
    ·have h1:(st.ts:Int) > 0:=by omega
     obtain⟨gs,cap,rfl,hc1,hc2⟩:=own_slice0 HI5.out.spn (by show 0<(st.spans ++ [sp5]).length;simp)
     have b7:=HI5.out.par.cell' (i:=7) rfl
     have a4:=HA5.out.cell' (i:=4) rfl
     have hts:=HTS.out
     have ht2:(st.ts:Int)<((st.spans ++ [sp5]).length:Int):=by simp;omega
     have ht0:(0:Int)≤st.ts:=by omega
     have hput:=HI5.out.spanTo (k:=st.ts) rfl (by show st.ts<(st.spans ++ [sp5]).length;simp;omega) (g:Int)
     have h9:(st.spans ++ [sp5]).length=st.spans.length+1:=by simp
     have h8:(spansC (st.spans ++ [sp5])).length=(st.spans ++ [sp5]).length*9:=HI5.out.spn.1
     obtain⟨u4,hu4⟩:∃u,(spansC (st.spans ++ [sp5]))[st.ts*9+4]? = some u:=⟨_,List.getElem?_eq_getElem (by omega)⟩
     clear h8 h9
     obtain⟨c4,f4⟩:=own_cell HI5.out.spn hu4
     have HPUT:=Lib.hid hput
     clear hput hu4
     go_upto_region 19 with(fail)
     go_region
     all_goals
      go_wp2_with (fail)
      go_ret
      exact⟨rfl,_,_,_,_,_,HPUT.out.1.drew,by simp,(HP5.out.trans HPUT.out.2).drew⟩
    ·have h1:¬(st.ts:Int) > 0:=by omega
     go_wp2_with (fail)
     go_ret
     exact⟨rfl,_,_,_,_,_,HI5.out,by simp,HP5.out⟩
end Go.Proofs.YtnnnagnjikdnnaaGreatDoor
namespace Go.Proofs.YtnnnagnjikdnnaaGreatDoor
open Go.RowKit
def OneP (w:World) (B:Nat) (S:List Nat) (vn vs:Value) (lab:Nat→Option Nat) (sl:Nat) (r:Nat×List GNode) (e:Ending) (w':World):Prop:=
 e=.returned (.bool true)∧∃vn' vs' ncs' lab' ts' sp',IM w' B S vn' vs' ncs' lab' none ⟨r.1,ts',r.2,sp'⟩∧ts'<sp'.length∧sp'.length≤sl+1∧PStep w w' (IF B vn vs lab) (IF B vn' vs' lab')
set_option maxRecDepth 20000 in
set_option maxHeartbeats 8000000 in
theorem one_ib {w:World} {B a b:Nat} {S:List Nat} {vn vs:Value} {ncs:List Value} {lab:Nat→Option Nat} {st:ISt} {it:Item} {r:Nat×List GNode} (h:IM w B S vn vs ncs lab none st) (hS:By S) (hl:S.length≤100000) (hb:b≤S.length)
  (ho:OneAt S a b it) (hr:StepI it (st.tn,st.nodes) r) (hs:st.spans.length≤4096) (hts:st.ts<st.spans.length) :
  Calls Tryz.prog 25 #[.pointer (some ⟨B,0,none⟩),.agg #[.int .i64 (a:Int),.int .i64 (b:Int)]] w (OneP w B S vn vs lab st.spans.length r):=by
 obtain⟨i,hi⟩:∃i,BlkI S a b i∧(it=.none→i=b)∧(∀t,it=.hdr t→i<b∧S[i]? = some 91∧∃j stop x,BlkI S (i+1) b j∧NameAt S j b 93 t stop x∧BlkI S (x+1) b b) ∧
   (∀k v,it=.ent k v→i<b∧∃c,S[i]? = some c∧c≠59∧c≠35∧c≠91∧∃stop x f g,NameAt S i b 61 k stop x∧BlkI S (x+1) b f∧ValAt S f b v g):=by
  cases ho with
  | none h=>exact⟨b,h,fun _=>rfl,(fun _ e=>by cases e),(fun _ _ e=>by cases e)⟩
  | hdr i j stop x h hi hc hj hn he=>exact⟨i,h,(fun e=>by cases e),fun t e=>by injection e with e;subst e;exact⟨hi,hc,j,stop,x,hj,hn,he⟩,(fun _ _ e=>by cases e)⟩
  | ent i c stop x f g h hi hc h1 h2 h3 hn hf hv=>exact⟨i,h,(fun e=>by cases e),(fun _ e=>by cases e),fun k v e=>by injection e with e1 e2;subst e1 e2;exact⟨hi,c,hc,h1,h2,h3,stop,x,f,g,hn,hf,hv⟩⟩
 obtain⟨h0,hN,hH,hE⟩:=hi
 have p2:=h.par.cell' (i:=2) rfl
 have D1:=Lib.hid (fun(w':World) (hb':Below w.heap.size w w')=>blanks_cb hS hl hb h0 w' ((hb'.cell (block_lt_of_cell p2)).trans p2))
 have hX:=Lib.hid (Arr.new w 77 [.int .i64 (a:Int),.int .i64 (b:Int)])
 have hbx:Below w.heap.size w (w.alloc (.cells #[.int .i64 (a:Int),.int .i64 (b:Int)] 77)):=(Below.refl _ _).alloc (Nat.le_refl _) _
 change Hid (Arr (w.alloc (.cells #[.int .i64 (a:Int),.int .i64 (b:Int)] 77)) w.heap.size 77 [.int .i64 (a:Int),.int .i64 (b:Int)]) at hX
 have HB:=Lib.hid hbx
 have HI:=Lib.hid h
 have HS:=Lib.hid hS
 have HL:=Lib.hid hl
 have HBL:=Lib.hid hb
 have HSS:=Lib.hid hs
 have HTS:=Lib.hid hts
 have HR:=Lib.hid hr
 have hib:=h0.2.1
 clear h hS hl ho hr hs hts h0 p2 hbx
 go_enter Tryz.func25,Tryz.ntmps25
 go_upto_region 1 with(fail)
 generalize w.alloc (.cells #[.int .i64 (a:Int),.int .i64 (b:Int)] 77)=W at *
 obtain⟨q,hq⟩:∃q,Hid (w.heap.size=q):=⟨_,rfl⟩
 rw [hq.out] at hX ⊢
 have x0:=hX.out.cell' (i:=0) rfl
 have x1:=hX.out.cell' (i:=1) rfl
 go_upto_region 2 with(go_at_call 47;((with_reducible refine(D1.out _ HB.out).mono ?_));rintro e w1 ⟨rfl,hb1⟩;have HX1:=Lib.hid (hX.out.keep hb1);have HB1:=Lib.hid (HB.out.trans (hb1.mono HB.out.size));clear hb1)
 have y0:=HX1.out.cell' (i:=0) rfl
 have y1:=HX1.out.cell' (i:=1) rfl
 have p2:=(HI.out.below HB1.out).par.cell' (i:=2) rfl
 have D2:Hid (∀(w':World),Below w.heap.size w w'→∀t j stop x,i<b→BlkI S (i+1) b j→NameAt S j b 93 t stop x→BlkI S (x+1) b b→AddOK st.nodes 0 t→Calls Tryz.prog 48 #[.pointer (some ⟨B,0,none⟩),.int .i64 (i:Int),.int .i64 (b:Int)] w' fun e w''=>
   e=.returned (.bool true)∧∃vn' vs' ncs' lab' sp',IM w'' B S vn' vs' ncs' lab' none { tn:=st.nodes.length+1,ts:=st.spans.length,nodes:=addN st.nodes 0 t ⟨10,[],false,[],[]⟩,spans:=st.spans ++ [sp'] }∧PStep w' w'' (IF B vn vs lab) (IF B vn' vs' lab')):=
  fun w' hb' t j stop x h1 h2 h3 h4 h5=>header_ib (HI.out.below hb') HS.out HL.out HBL.out h1 h2 h3 h4 h5 HSS.out
 have D3:Hid (∀(w':World),Below w.heap.size w w'→∀k v stop x f g,NameAt S i b 61 k stop x→BlkI S (x+1) b f→ValAt S f b v g→AddOK st.nodes st.tn k→Calls Tryz.prog 49 #[.pointer (some ⟨B,0,none⟩),.int .i64 (i:Int),.int .i64 (b:Int)] w' fun e w''=>
   e=.returned (.bool true)∧∃vn' vs' ncs' lab' sp',IM w'' B S vn' vs' ncs' lab' none { st with nodes:=addN st.nodes st.tn k (tN v),spans:=sp' }∧sp'.length=st.spans.length+1∧PStep w' w'' (IF B vn vs lab) (IF B vn' vs' lab')):=
  fun w' hb' k v stop x f g h1 h2 h3 h4=>entry_ib (HI.out.below hb') HS.out HL.out HBL.out h1 h2 h3 h4 HSS.out HTS.out
 obtain⟨m,hm⟩:∃m,S.length=m:=⟨_,rfl⟩
 have hsz:(mks S).size=m:=by rw [size_mks];exact hm
 have hbm:b≤m:=by rw [←hm];exact HBL.out
 have hml:m≤100000:=by rw [←hm];exact HL.out
 have HM:=Lib.hid hm
 have i0:(0:Int)≤i:=by omega
 clear hm hX HB x0 x1 D1 W
 cases it with
 | none=>
  have hN:=hN rfl
  subst hN
  clear hH hE
  go_wp2_with (fail)
  go_ret
  cases HR.out
  exact⟨rfl,_,_,_,_,st.ts,st.spans,HI.out.below HB1.out,HTS.out,Nat.le_succ _,PStep.of_below HB1.out⟩
 | hdr t=>
  obtain⟨hib2,hc,j,stop,x,hj,hn,he⟩:=hH t rfl
  have D4:=Lib.hid (fun w' hb' ha=>D2.out w' hb' t j stop x hib2 hj hn he ha)
  have n1:((i:Int) == b)=false:=by simp;omega
  have i1:(i:Int)<m:=by omega
  have q0:i<(mks S).size:=by rw [hsz];omega
  have hg:=get_mks hc (by decide) q0
  have hr:∃ha:AddOK st.nodes 0 t,r=(st.nodes.length+1,addN st.nodes 0 t ⟨10,[],false,[],[]⟩):=by
   cases HR.out with
   | hdr h=>exact⟨h,rfl⟩
  obtain⟨ha,hr⟩:=hr
  have HA:=Lib.hid ha
  have HRR:=Lib.hid hr
  clear hj hn he hc hN hH hE D2 D3 ha hr HR
  go_wp2_with (go_at_call 48;((with_reducible refine(D4.out _ HB1.out HA.out).mono ?_));rintro e w3 ⟨rfl,vn5,vs5,ncs5,lab5,sp5,hI5,hP5⟩;have HI5:=Lib.hid hI5;have HP5:=Lib.hid hP5;clear hI5 hP5)
  go_ret
  refine⟨rfl,?_⟩
  rw [HRR.out]
  exact⟨_,_,_,_,_,_,HI5.out,by simp,by simp,(PStep.of_below HB1.out).trans HP5.out⟩
 | ent k v=>
  obtain⟨hib2,c,hc,c1,c2,c3,stop,x,f,g,hn,hf,hv⟩:=hE k v rfl
  have D4:=Lib.hid (fun w' hb' ha=>D3.out w' hb' k v stop x f g hn hf hv ha)
  have n1:((i:Int) == b)=false:=by simp;omega
  have i1:(i:Int)<m:=by omega
  have q0:i<(mks S).size:=by rw [hsz];omega
  have hg:=get_mks hc (HS.out.get hc) q0
  have n2:((c:Int) == 59)=false:=by simp;omega
  have n3:((c:Int) == 35)=false:=by simp;omega
  have n4:((c:Int) == 91)=false:=by simp;omega
  have hr:∃ha:AddOK st.nodes st.tn k,r=(st.tn,addN st.nodes st.tn k (tN v)):=by
   cases HR.out with
   | ent h=>exact⟨h,rfl⟩
  obtain⟨ha,hr⟩:=hr
  have HA:=Lib.hid ha
  have HRR:=Lib.hid hr
  clear hn hf hv hc hN hH hE D2 D3 ha hr HR c1 c2 c3
  go_wp2_with (go_at_call 49;((with_reducible refine(D4.out _ HB1.out HA.out).mono ?_));rintro e w3 ⟨rfl,vn5,vs5,ncs5,lab5,sp5,hI5,hL5,hP5⟩;have HI5:=Lib.hid hI5;have HP5:=Lib.hid hP5;have HL5:=Lib.hid hL5;clear hI5 hP5 hL5)
  go_ret
  refine⟨rfl,?_⟩
  rw [HRR.out]
  exact⟨_,_,_,_,_,_,HI5.out,by have:=HTS.out;have:=HL5.out;show st.ts<sp5.length;omega,by have:=HL5.out;omega,(PStep.of_below HB1.out).trans HP5.out⟩
end Go.Proofs.YtnnnagnjikdnnaaGreatDoor
namespace Go.Proofs.YtnnnagnjikdnnaaGreatDoor
open Go.RowKit
set_option maxRecDepth 20000 in
set_option maxHeartbeats 4000000 in
theorem control_cb {S:List Nat} (hS:By S) (hl:S.length≤100000) (h:∀x∈S,32≤x∨x=10) (w:World) :
  Calls Tryz.prog 23 #[.string (mks S)] w fun en w'=>en=.returned (.int .i64 (-1))∧Below w.heap.size w w':=by
 obtain⟨m,hm⟩:∃m,S.length=m:=⟨_,rfl⟩
 have hsz:(mks S).size=m:=by rw [size_mks];exact hm
 have HM:=Lib.hid hm
 have HS:=Lib.hid hS
 have HH:=Lib.hid h
 have HB:=Lib.hid (Below.refl w.heap.size w)
 rw [hm] at hl
 clear hS h hm
 go_enter Tryz.func23,Tryz.ntmps23
 go_wp2_with (fail)
 go_loopw [8] (fun iv wr=>∃x:Nat,x≤m∧iv=.int .i64 (x:Int)∧Hid (Below w.heap.size w wr)) (fun iv _=>m - (intOf iv).toNat)
 case atStart=>exact⟨0,Nat.zero_le _,rfl,HB⟩
 case round=>
  obtain⟨x,hx,rfl,hB⟩:=hrel
  have x0:(0:Int)≤x:=by omega
  by_cases hxm:x=m
  ·have x1:¬(x:Int)<m:=by omega
   go_wp2_with (fail)
   go_ret
   exact⟨rfl,hB.out⟩
  ·have x1:(x:Int)<m:=by omega
   obtain⟨c,hc⟩:∃c,S[x]? = some c:=⟨_,List.getElem?_eq_getElem (by have:=HM.out;omega)⟩
   have hcb:=HS.out.get hc
   have qx:x<(mks S).size:=by rw [hsz];omega
   have hg:=get_mks hc hcb qx
   by_cases h10:c=10
   ·subst h10
    clear hc
    go_wp2_with (fail)
    go_roundw
    case rel=>exact⟨x+1,by omega,i64e (by omega),hB⟩
    case measure=>simp [intOf];omega
   ·have h32:32≤c:=by
     rcases HH.out c (List.mem_of_getElem? hc) with h | h
     ·exact h
     ·exact absurd h h10
    have n1:((c:Int) == 10)=false:=by simp;omega
    have n2:((c:Int) == 13)=false:=by simp;omega
    have n3:¬(c:Int)<32:=by omega
    clear hc h10
    go_wp2_with (fail)
    go_roundw
    case rel=>exact⟨x+1,by omega,i64e (by omega),hB⟩
    case measure=>simp [intOf];omega
end Go.Proofs.YtnnnagnjikdnnaaGreatDoor
