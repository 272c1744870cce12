/- The walk of the law JsonoutQuotes, given that awake is true. -/
import Derived.Test.YtgbkbgiogdhnaaaGreatDoorNEe
import Derived.Test.YtgbkbgiogdhnaaaGreatDoorMCi
import Derived.Test.YtgbkbgiogdhnaaaGreatDoorNFf
import Derived.Test.YtgbkbgiogdhnaaaGreatDoorNAw
import Derived.Test.YtgbkbgiogdhnaaaGreatDoorMCa
import Derived.Test.YtgbkbgiogdhnaaaGreatDoorMDd
set_option linter.unusedVariables false
set_option linter.unusedSimpArgs false
set_option linter.defProp false
set_option linter.constructorNameAsVariable false
namespace Go.Proofs.YtgbkbgiogdhnaaaGreatDoor
open Go.RowKit
theorem quoteR_ok {s t:List Nat} (h:quoteR s=(t,0)):checkV s=none∧t=quoteV s∧(quoteV s).length≤65536:=by
 unfold quoteR at h
 split at h
 ·rename_i hc
  unfold limV2 at h
  split at h
  ·have:=(Prod.mk.inj h).2;omega
  ·exact⟨hc,(Prod.mk.inj h).1.symm,by omega⟩
 ·have:=(Prod.mk.inj h).2;omega
set_option maxRecDepth 20000 in
set_option maxHeartbeats 8000000 in
theorem quotes_any (hA:AwakeT) (s:List Nat) (hs:By s) (hsl:s.length≤maxLen) (w:World) (hw:LibE w) :
  Calls Tryz.prog 4 #[.string (mks s)] w fun e w'=>e=.returned (.bool true)∧Below w.heap.size w w':=by
 have HA:=Lib.hid (fun w' (h:Below w.heap.size w w')=>hA w' (hw.keep h))
 obtain⟨n,hn⟩:∃n,s.length=n:=⟨_,rfl⟩
 have hsz:(mks s).size=n:=by rw [size_mks];exact hn
 by_cases h5:500<n
 ·have h5':(n:Int) > 500:=by omega
  clear hw hs
  go_enter Tryz.func4,Tryz.ntmps4
  go_wp2_with (go_at_call 10;((with_reducible refine(HA.out _ (Below.refl _ _)).mono ?_));rintro e w3 ⟨rfl,hb3⟩)
  go_ret
  exact⟨rfl,hb3⟩
 have h5':¬(n:Int) > 500:=by omega
 have DQ:=Lib.hid (fun w' (h:Below w.heap.size w w')=>jquote_any s hs (by omega) w' (hw.keep h).lib)
 have DR:=Lib.hid (fun w'=>rquoted_any s hs (by omega) w')
 obtain⟨q,hq⟩:∃q,quoteR s=q:=⟨_,rfl⟩
 rw [hq] at DQ DR
 obtain⟨t,e⟩:=q
 by_cases he:e=0
 ·subst he
  obtain⟨hc,ht,hlen⟩:=quoteR_ok hq
  have htb:By t:=by rw [ht];exact quote_by hs
  obtain⟨r1,r2,r3,r4,r5⟩:=quote_read hs hc
  rw [←ht] at r1 r2 r3 r4 r5 hlen
  have DP:=Lib.hid (fun w' (h:Below w.heap.size w w')=>jparse_str t s htb hs (by omega) r5 hlen r1 r2 r3 r4 w' (hw.keep h).lib)
  unfold ParseQ at DP
  clear hq hw hc ht htb hs r1 r2 r3 r4 r5
  go_enter Tryz.func4,Tryz.ntmps4
  go_upto_region 4 with(go_at_call 6;((with_reducible refine(DQ.out _ (Below.refl _ _)).mono ?_));rintro e1 w1 ⟨rfl,hb1⟩)
  go_upto_region 5 with(go_at_call 11;((with_reducible refine(DR.out _).mono ?_));rintro e2 w2 ⟨rfl,hb2⟩)
  have hb3:=hb1.trans (hb2.mono hb1.size)
  go_upto_region 10 with(go_at_call 12;((with_reducible refine(DP.out _ hb3).mono ?_));rintro e3 w3 ⟨hb4,vn,vs,vo,ncs,sp,rfl,hN,hNr,hvs,hvo⟩;obtain⟨As,cs,hvs2,_,_⟩:=own_slice hvs;obtain⟨Ao,co,hvo2,_,_⟩:=own_slice hvo;obtain⟨An,cn0,hvn2,_,_⟩:=own_slice hN;subst hvs2 hvo2 hvn2;clear hvs hvo)
  obtain⟨gn,cn,hvn,_,_⟩:=own_some hN (Nat.zero_lt_one)
  injection hvn with e1 e2 e3
  subst e1 e3
  obtain⟨K,nk,ck,I,ni,ci,hcs,_,_⟩:=hNr.2 0 _ rfl
  obtain⟨e0,e9,_,_,_⟩:=node_cells (k:=0) hcs
  have n0:=(own_cell hN e0).1
  have n1:=(own_cell hN e9).1
  have hg:=(hN.lt gn rfl).2
  have hdc:Hid (Arr (w3.alloc (.cells #[.int .i64 0,.string (mks t),.slice (some ⟨gn,0,none⟩) 1 cn0,.int .i64 0,.slice As 1 cs,.slice Ao 0 co] 38)) w3.heap.size 38 [.int .i64 0,.string (mks t),.slice (some ⟨gn,0,none⟩) 1 cn0,.int .i64 0,.slice As 1 cs,.slice Ao 0 co]):=Arr.new w3 _ _
  have hbA:Below w3.heap.size w3 (w3.alloc (.cells #[.int .i64 0,.string (mks t),.slice (some ⟨gn,0,none⟩) 1 cn0,.int .i64 0,.slice As 1 cs,.slice Ao 0 co] 38)):=(Below.refl _ _).alloc (Nat.le_refl _) _
  have hb5:Below w.heap.size w (w3.alloc (.cells #[.int .i64 0,.string (mks t),.slice (some ⟨gn,0,none⟩) 1 cn0,.int .i64 0,.slice As 1 cs,.slice Ao 0 co] 38)):=(hb3.trans (hb4.mono hb3.size)).trans (hbA.mono (Nat.le_trans hb3.size hb4.size))
  have m0:=(hbA.cell (block_lt_of_cell n0)).trans n0
  have m1:=(hbA.cell (block_lt_of_cell n1)).trans n1
  have d2:=hdc.out.cell' (i:=2) rfl
  clear n0 n1 hbA hdc hN hNr hcs e0 e9 DQ DR DP
  generalize w3.alloc (.cells #[.int .i64 0,.string (mks t),.slice (some ⟨gn,0,none⟩) 1 cn0,.int .i64 0,.slice As 1 cs,.slice Ao 0 co] 38)=W at *
  go_wp2_with (go_at_call 10;((with_reducible refine(HA.out _ hb5).mono ?_));rintro e3 w6 ⟨rfl,hb6⟩;have m0':=(hb6.cell (block_lt_of_cell m0)).trans m0;have m1':=(hb6.cell (block_lt_of_cell m1)).trans m1;have d2':=(hb6.cell (block_lt_of_cell d2)).trans d2)
  go_ret
  exact⟨rfl,hb5.trans (hb6.mono hb5.size)⟩
 ·have he':(e != 0)=true:=by simp [he]
  have hee:(e == e)=true:=by simp
  clear hq hw hs
  go_enter Tryz.func4,Tryz.ntmps4
  go_upto_region 4 with(go_at_call 6;((with_reducible refine(DQ.out _ (Below.refl _ _)).mono ?_));rintro e1 w1 ⟨rfl,hb1⟩)
  go_upto_region 5 with(go_at_call 11;((with_reducible refine(DR.out _).mono ?_));rintro e2 w2 ⟨rfl,hb2⟩)
  have hb3:=hb1.trans (hb2.mono hb1.size)
  go_wp2_with (go_at_call 10;((with_reducible refine(HA.out _ hb3).mono ?_));rintro e3 w3 ⟨rfl,hb4⟩)
  go_ret
  exact⟨rfl,hb3.trans (hb4.mono hb3.size)⟩
end Go.Proofs.YtgbkbgiogdhnaaaGreatDoor
