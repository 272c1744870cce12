/- The walk of IniOutTexts: the law is true. -/
import Derived.Test.YtnnnagnjikdnnaaGreatDoorMBp
import Derived.Test.YtnnnagnjikdnnaaGreatDoorMBq
import Derived.Test.YtnnnagnjikdnnaaGreatDoorMBv
import Derived.Test.YtnnnagnjikdnnaaGreatDoorMBw
set_option linter.unusedVariables false
set_option linter.unusedSimpArgs false
set_option linter.defProp false
set_option linter.constructorNameAsVariable false
namespace Go.Proofs.YtnnnagnjikdnnaaGreatDoor
open Go.RowKit
set_option maxRecDepth 20000 in
set_option maxHeartbeats 4000000 in
theorem print_bad {B g o c n:Nat} {nodes:List GNode} (hn:nodes.length=n) (hO:ChkOK nodes 0) (h0:chkV nodes 0≠0) (w:World) (hw:LibE w) (hG:GRd w B g o nodes) :
  Calls Tryz.prog 7 #[.agg #[.slice (some ⟨g,o,none⟩) n c,.int .i64 0]] w fun e w'=>e=.returned (.tuple #[.string ⟨#[]⟩,.int .i64 3])∧Below w.heap.size w w':=by
 have h1:Hid (Arr (w.alloc (.cells #[.slice (some ⟨g,o,none⟩) n c,.int .i64 0] 26)) w.heap.size 26 [.slice (some ⟨g,o,none⟩) n c,.int .i64 0]):=Arr.new w _ _
 have hb1:Below w.heap.size w (w.alloc (.cells #[.slice (some ⟨g,o,none⟩) n c,.int .i64 0] 26)):=(Below.refl _ _).alloc (Nat.le_refl _) _
 have HB1:=Lib.hid hb1
 have HD:=Lib.hid (fun w' (h:LibE w') (h2:GRd w' B g o nodes)=>tree_bad (c:=c) (r:=0) hn hO h0 w' h h2)
 have hW1:=Lib.hid (hw.keep hb1)
 have hG1:=Lib.hid (hG.below hb1 hG.2.1)
 clear hn hO h0 hw hG hb1
 go_enter Tryz.func7,Tryz.ntmps7
 go_upto_region 1 with(fail)
 generalize (w.alloc (.cells #[.slice (some ⟨g,o,none⟩) n c,.int .i64 0] 26))=w1 at *
 have DT:Hid (Calls Tryz.prog 12 #[.agg #[.slice (some ⟨g,o,none⟩) n c,.int .i64 0]] w1 fun e w'=>e=.returned (.int .i64 3)∧Below w1.heap.size w1 w'):=HD.out w1 hW1.out hG1.out
 have x0:=h1.out.cell' (i:=0) rfl
 have x1:=h1.out.cell' (i:=1) rfl
 clear HD hW1 hG1
 go_wp2_with (go_at_call 12;((with_reducible refine DT.out.mono ?_));rintro e w2 ⟨rfl,hb2⟩)
 go_ret2
 exact⟨rfl,HB1.out.trans (hb2.mono HB1.out.size)⟩
theorem few_one (s:List Nat):fewG [tN s]=decide (s.length≤100):=by
 unfold fewG
 have h1:refsN [tN s]=0:=rfl
 have h2:bytesN [tN s]=s.length:=by simp [bytesN,tN]
 have h3:[tN s].all fewN=decide (s.length≤100):=by simp [fewN,tN]
 rw [h1,h2,h3]
 by_cases h:s.length≤100
 ·rw [decide_eq_true h,decide_eq_true (show s.length≤300 by omega)]
  rfl
 ·rw [decide_eq_false h]
  rfl
theorem fewt_cb {b c:Nat} (s:List Nat) (w:World) (hG:GRd w w.heap.size b 0 [tN s]) :
  Calls Tryz.prog 5 #[.agg #[.slice (some ⟨b,0,none⟩) 1 c,.int .i64 0]] w fun e w'=>e=.returned (.bool (decide (s.length≤100)))∧Below w.heap.size w w':=by
 have h:=few10_any (c:=c) (r:=0) (N:=[tN s]) (fun i hi=>by
  have:i=0:=by simp at hi;exact hi
  subst this
  exact⟨Nat.zero_le _,Nat.zero_le _⟩) w hG
 rw [few_one] at h
 exact h
structure LibI (w:World):Prop where
 e:LibE w
 d:DB16 w
theorem LibI.keep {w w':World} (h:LibI w) (hb:Below w.heap.size w w'):LibI w':=⟨h.e.keep hb,h.d.keep hb⟩
theorem ints_one {W:World} {b:Nat} {x:Int} (h:Arr W b 3 [.int .i64 x]):IntsRd W (fun _=>True) (some ⟨b,0,none⟩) 1 [x]:=⟨rfl,h.rd,fun ad e=>by
 obtain rfl:=Option.some.inj e
 exact⟨trivial,_,_,h⟩⟩
theorem law_graph (k v:List Nat) (w W:World) (hW:((((((w.alloc (.cells #[.int .i64 1] 3)).alloc (.cells #[.int .i64 2] 3)).alloc (.cells #[.int .i64 3] 3)).alloc (.cells #[.int .i64 4] 3)).alloc (.cells #[.int .i64 10,.string ⟨#[]⟩,.bool false,.slice (some ⟨w.heap.size,0,none⟩) 1 1,.slice (some ⟨w.heap.size+1,0,none⟩) 1 1,.int .i64 5,.string (mks k),.bool false,.slice none 0 0,.slice none 0 0,.int .i64 10,.string ⟨#[]⟩,.bool false,.slice (some ⟨w.heap.size+1+1,0,none⟩) 1 1,.slice (some ⟨w.heap.size+1+1+1,0,none⟩) 1 1,.int .i64 5,.string (mks k),.bool false,.slice none 0 0,.slice none 0 0,.int .i64 5,.string (mks v),.bool false,.slice none 0 0,.slice none 0 0] 30)).alloc (.cells #[.slice (some ⟨w.heap.size+1+1+1+1,0,none⟩) 5 5,.int .i64 0] 26))=W) :
  Hid (Arr W (w.heap.size+1+1+1+1+1) 26 [.slice (some ⟨w.heap.size+1+1+1+1,0,none⟩) 5 5,.int .i64 0])∧Hid (GRd W W.heap.size (w.heap.size+1+1+1+1) 0 (nodesI k v))∧Hid (Below w.heap.size w W):=by
 have b1:=Arr.new w 3 [.int .i64 1]
 have b2:=Arr.new (w.alloc (.cells #[.int .i64 1] 3)) 3 [.int .i64 2]
 have b3:=Arr.new ((w.alloc (.cells #[.int .i64 1] 3)).alloc (.cells #[.int .i64 2] 3)) 3 [.int .i64 3]
 have b4:=Arr.new (((w.alloc (.cells #[.int .i64 1] 3)).alloc (.cells #[.int .i64 2] 3)).alloc (.cells #[.int .i64 3] 3)) 3 [.int .i64 4]
 have b5:=Arr.new ((((w.alloc (.cells #[.int .i64 1] 3)).alloc (.cells #[.int .i64 2] 3)).alloc (.cells #[.int .i64 3] 3)).alloc (.cells #[.int .i64 4] 3)) 30 [.int .i64 10,.string ⟨#[]⟩,.bool false,.slice (some ⟨w.heap.size,0,none⟩) 1 1,.slice (some ⟨w.heap.size+1,0,none⟩) 1 1,.int .i64 5,.string (mks k),.bool false,.slice none 0 0,.slice none 0 0,.int .i64 10,.string ⟨#[]⟩,.bool false,.slice (some ⟨w.heap.size+1+1,0,none⟩) 1 1,.slice (some ⟨w.heap.size+1+1+1,0,none⟩) 1 1,.int .i64 5,.string (mks k),.bool false,.slice none 0 0,.slice none 0 0,.int .i64 5,.string (mks v),.bool false,.slice none 0 0,.slice none 0 0]
 have hb:Below w.heap.size w W:=by
  rw [←hW]
  exact((((((Below.refl _ _).alloc (Nat.le_refl _) _).alloc (by simp) _).alloc (by simp;omega) _).alloc (by simp;omega) _).alloc (by simp;omega) _).alloc (by simp;omega) _
 simp only [World.size_alloc] at b1 b2 b3 b4 b5
 have a1:Arr W w.heap.size 3 [.int .i64 1]:=by rw [←hW];exact((((b1.alloc _).alloc _).alloc _).alloc _).alloc _
 have a2:Arr W (w.heap.size+1) 3 [.int .i64 2]:=by rw [←hW];exact(((b2.alloc _).alloc _).alloc _).alloc _
 have a3:Arr W (w.heap.size+1+1) 3 [.int .i64 3]:=by rw [←hW];exact((b3.alloc _).alloc _).alloc _
 have a4:Arr W (w.heap.size+1+1+1) 3 [.int .i64 4]:=by rw [←hW];exact(b4.alloc _).alloc _
 have a5:Arr W (w.heap.size+1+1+1+1) 30 [.int .i64 10,.string ⟨#[]⟩,.bool false,.slice (some ⟨w.heap.size,0,none⟩) 1 1,.slice (some ⟨w.heap.size+1,0,none⟩) 1 1,.int .i64 5,.string (mks k),.bool false,.slice none 0 0,.slice none 0 0,.int .i64 10,.string ⟨#[]⟩,.bool false,.slice (some ⟨w.heap.size+1+1,0,none⟩) 1 1,.slice (some ⟨w.heap.size+1+1+1,0,none⟩) 1 1,.int .i64 5,.string (mks k),.bool false,.slice none 0 0,.slice none 0 0,.int .i64 5,.string (mks v),.bool false,.slice none 0 0,.slice none 0 0]:=by rw [←hW];exact b5.alloc _
 have a6:Arr W (w.heap.size+1+1+1+1+1) 26 [.slice (some ⟨w.heap.size+1+1+1+1,0,none⟩) 5 5,.int .i64 0]:=by
  rw [←hW]
  have h:=Arr.new (((((w.alloc (.cells #[.int .i64 1] 3)).alloc (.cells #[.int .i64 2] 3)).alloc (.cells #[.int .i64 3] 3)).alloc (.cells #[.int .i64 4] 3)).alloc (.cells #[.int .i64 10,.string ⟨#[]⟩,.bool false,.slice (some ⟨w.heap.size,0,none⟩) 1 1,.slice (some ⟨w.heap.size+1,0,none⟩) 1 1,.int .i64 5,.string (mks k),.bool false,.slice none 0 0,.slice none 0 0,.int .i64 10,.string ⟨#[]⟩,.bool false,.slice (some ⟨w.heap.size+1+1,0,none⟩) 1 1,.slice (some ⟨w.heap.size+1+1+1,0,none⟩) 1 1,.int .i64 5,.string (mks k),.bool false,.slice none 0 0,.slice none 0 0,.int .i64 5,.string (mks v),.bool false,.slice none 0 0,.slice none 0 0] 30)) 26 [.slice (some ⟨w.heap.size+1+1+1+1,0,none⟩) 5 5,.int .i64 0]
  simp only [World.size_alloc] at h
  exact h
 refine⟨a6,?_,hb⟩
 refine grd_arr (F:=fun _=>True) a5 ⟨rfl,fun i nd hi=>?_⟩
 match i,hi with
 | 0,hi=>
  obtain rfl:(⟨10,[],false,[1],[2]⟩:GNode)=nd:=by simpa [nodesI] using hi
  exact⟨_,1,1,_,1,1,rfl,ints_one a1,ints_one a2⟩
 | 1,hi=>
  obtain rfl:tN k=nd:=by simpa [nodesI] using hi
  exact⟨none,0,0,none,0,0,rfl,ints_none _,ints_none _⟩
 | 2,hi=>
  obtain rfl:(⟨10,[],false,[3],[4]⟩:GNode)=nd:=by simpa [nodesI] using hi
  exact⟨_,1,1,_,1,1,rfl,ints_one a3,ints_one a4⟩
 | 3,hi=>
  obtain rfl:tN k=nd:=by simpa [nodesI] using hi
  exact⟨none,0,0,none,0,0,rfl,ints_none _,ints_none _⟩
 | 4,hi=>
  obtain rfl:tN v=nd:=by simpa [nodesI] using hi
  exact⟨none,0,0,none,0,0,rfl,ints_none _,ints_none _⟩
 | i+5,hi=>simp [nodesI] at hi
set_option maxRecDepth 20000 in
set_option maxHeartbeats 16000000 in
theorem initexts_law {k v:List Nat} (hk:By k) (hv:By v) (w:World) (hw:LibI w) :
  Calls Tryz.prog 3 #[.string (mks k),.string (mks v)] w fun e w'=>e=.returned (.bool true)∧Below w.heap.size w w':=by
 have HW:=Lib.hid hw
 have HK:=Lib.hid hk
 have HV:=Lib.hid hv
 have DA:=Lib.hid (awake31_true w hw.e hw.d)
 have DT:=Lib.hid (fun(s:List Nat) (w':World)=>ltext_cb s w')
 have DF:=Lib.hid (fun(s:List Nat) (b c:Nat) (w':World) (h:GRd w' w'.heap.size b 0 [tN s])=>fewt_cb (b:=b) (c:=c) s w' h)
 clear hw hk hv
 go_enter Tryz.func3,Tryz.ntmps3
 go_upto_region 3 with(go_at_call 4;((with_reducible refine DA.out.mono ?_));rintro e w1 ⟨rfl,hb1⟩)
 have HB1:=Lib.hid hb1
 clear hb1 DA
 have DT1:=Lib.hid (DT.out k w1)
 by_cases lk:k.length≤100
 ·by_cases lv:v.length≤100
  ·go_upto_region 5 with(first
    | (go_at_call 6;((with_reducible refine DT1.out.mono ?_));rintro e w2 ⟨nb,rfl,hb2,hK2⟩;have HB2:=Lib.hid (HB1.out.trans (hb2.mono HB1.out.size));have hF:=DF.out k nb 1 w2 hK2.rd;rw [decide_eq_true lk] at hF;have HF:=Lib.hid hF;clear hb2 hK2 hF)
    | (go_at_call 5;((with_reducible refine HF.out.mono ?_));rintro e w3 ⟨rfl,hb3⟩;have HB3:=Lib.hid (HB2.out.trans (hb3.mono HB2.out.size));have DT2:=Lib.hid (DT.out v w3);clear hb3)
    | (go_at_call 6;((with_reducible refine DT2.out.mono ?_));rintro e w4 ⟨nb2,rfl,hb4,hK4⟩;have HB4:=Lib.hid (HB3.out.trans (hb4.mono HB3.out.size));have hF2:=DF.out v nb2 1 w4 hK4.rd;rw [decide_eq_true lv] at hF2;have HF2:=Lib.hid hF2;clear hb4 hK4 hF2)
    | (go_at_call 5;((with_reducible refine HF2.out.mono ?_));rintro e w5 ⟨rfl,hb5⟩;have HB5:=Lib.hid (HB4.out.trans (hb5.mono HB4.out.size));clear hb5))
   clear HB1 HB2 HB3 HB4 HF HF2 DT1 DT2 DF
   go_upto_region 6 with(fail)
   obtain⟨W6,hW6⟩:∃W,((((((w5.alloc (.cells #[.int .i64 1] 3)).alloc (.cells #[.int .i64 2] 3)).alloc (.cells #[.int .i64 3] 3)).alloc (.cells #[.int .i64 4] 3)).alloc (.cells #[.int .i64 10,.string ⟨#[]⟩,.bool false,.slice (some ⟨w5.heap.size,0,none⟩) 1 1,.slice (some ⟨w5.heap.size+1,0,none⟩) 1 1,.int .i64 5,.string (mks k),.bool false,.slice none 0 0,.slice none 0 0,.int .i64 10,.string ⟨#[]⟩,.bool false,.slice (some ⟨w5.heap.size+1+1,0,none⟩) 1 1,.slice (some ⟨w5.heap.size+1+1+1,0,none⟩) 1 1,.int .i64 5,.string (mks k),.bool false,.slice none 0 0,.slice none 0 0,.int .i64 5,.string (mks v),.bool false,.slice none 0 0,.slice none 0 0] 30)).alloc (.cells #[.slice (some ⟨w5.heap.size+1+1+1+1,0,none⟩) 5 5,.int .i64 0] 26))=W:=⟨_,rfl⟩
   obtain⟨HA6,HG6,hb6⟩:=law_graph k v w5 W6 hW6
   rw [hW6]
   have HB6:=Lib.hid (HB5.out.trans (hb6.out.mono HB5.out.size))
   obtain⟨q4,hq4⟩:∃q,w5.heap.size+1+1+1+1=q:=⟨_,rfl⟩
   rw [hq4] at HA6 HG6
   have hq5:Hid (w5.heap.size+1+1+1+1+1=q4+1):=by show _=_;omega
   rw [hq4]
   obtain⟨q5,hq5'⟩:∃q,q4+1=q:=⟨_,rfl⟩
   rw [hq5'] at HA6 ⊢
   have hql:q5<W6.heap.size:=HA6.out.lt
   clear hW6 hq4 hq5 hq5' hb6 HB5
   have hW6L:LibI W6:=HW.out.keep HB6.out
   have HWL:=Lib.hid hW6L
   have lk9:k.length≤1000:=by omega
   have lv9:v.length≤1000:=by omega
   have x0:=HA6.out.cell' (i:=0) rfl
   have x1:=HA6.out.cell' (i:=1) rfl
   clear hW6L
   have DL:Hid (∀(s:List Nat) (b c:Nat) (w':World),By s→s.length≤1000→VU s→LibI w'→GRd w' w'.heap.size b 0 [tN s]→Calls Tryz.prog 8 #[.agg #[.slice (some ⟨b,0,none⟩) 1 c,.int .i64 0]] w' fun e w2=>e=.returned (.tuple #[.string (mks (valI s)),.int .i64 0])∧Below w'.heap.size w' w2):=fun s b c w' h1 h2 h3 h4 h5=>literal_ok h1 h2 h3 w' h4.e h4.d h5
   have DM:Hid (∀(s:List Nat) (b c:Nat) (w':World),By s→s.length≤1000→¬VU s→LibI w'→GRd w' w'.heap.size b 0 [tN s]→Calls Tryz.prog 8 #[.agg #[.slice (some ⟨b,0,none⟩) 1 c,.int .i64 0]] w' fun e w2=>e=.returned (.tuple #[.string ⟨#[]⟩,.int .i64 3])∧Below w'.heap.size w' w2):=fun s b c w' h1 h2 h3 h4 h5=>literal_bad h1 h2 h3 w' h4.e h5
   by_cases uk:VU k
   ·by_cases uv:VU v
    ·have DP:Hid (Calls Tryz.prog 7 #[.agg #[.slice (some ⟨q4,0,none⟩) 5 5,.int .i64 0]] W6 (PrintR (srcI k v) W6)):=print_cb (r:=0) (nodes:=nodesI k v) rfl (nodesI_print HK.out HV.out uk uv lk9 lv9) W6 HWL.out.e HWL.out.d HG6.out
     obtain⟨L,hL0,hL1,hL2⟩:=srcI_run (srcI_at (k:=k) (v:=v) rfl rfl) HK.out HV.out rfl rfl
     have hsl:(srcI k v).length≤65536:=by
      have h1:=(keyI_len HK.out).2
      have h2:=(valI_len HV.out).2
      unfold srcI
      simp only [List.length_cons,List.length_append,List.length_nil]
      omega
     have DX:Hid (∀w',LibI w'→Calls Tryz.prog 9 #[.string (mks (srcI k v))] w' fun e w2=>∃(g c:Nat) (sa:Option Addr) (sn sc:Nat),e=.returned (.tuple #[.agg #[.int .i64 3,.string (mks (srcI k v)),.slice (some ⟨g,0,none⟩) 5 c,.int .i64 0,.slice sa sn sc,.slice none 0 0],.int .i64 0,.int .i64 0])∧Below w'.heap.size w' w2∧GRd w2 w2.heap.size g 0 (nodesI k v)):=fun w' h=>parse_ib (srcI_by HK.out HV.out) (srcI_vu HK.out HV.out uk uv) srcI_seen hsl hL1 hL0 hL2 (show 0<5 by decide) w' h.e.lib
     obtain⟨vz,sz,hvis,hv1,hv2⟩:=nodesI_vis (k:=k) (v:=v)
     have DS:Hid (∀(a b ca:Nat) w',LibI w'→GRd w' w'.heap.size a 0 (nodesI k v)→GRd w' w'.heap.size b 0 (nodesI k v)→Calls Tryz.prog 10 #[.agg #[.slice (some ⟨a,0,none⟩) 5 ca,.int .i64 0],.agg #[.slice (some ⟨b,0,none⟩) 5 5,.int .i64 0]] w' fun e w2=>e=.returned (.bool true)∧Below w'.heap.size w' w2):=fun a b ca w' h1 h2 h3=>csame_cb nodesI_norm (nodesI_ck HK.out HV.out lk9 lv9) (nodesI_chk uk uv) hvis hv1 hv2 w' h1.e h2 h3
     obtain⟨sx,hsx⟩:∃sx,mks (srcI k v)=sx:=⟨_,rfl⟩
     unfold PrintR at DP
     rw [hsx] at DP DX
     clear hL0 hL1 hL2 hsl hvis hv1 hv2 hsx
     go_upto_region 11 with(first
      | (go_at_call 7;((with_reducible refine DP.out.mono ?_));rintro e w7 ⟨rfl,hb7⟩;have HB7:=Lib.hid (HB6.out.trans (hb7.mono HB6.out.size));have HG7:=Lib.hid (hb7);have DT1:=Lib.hid (DT.out k w7);clear hb7)
      | (go_at_call 6;((with_reducible refine DT1.out.mono ?_));rintro e w8 ⟨c1,rfl,hb8,hK8⟩;have HB8:=Lib.hid (HB7.out.trans (hb8.mono HB7.out.size));have HG8:=Lib.hid (HG7.out.trans (hb8.mono HG7.out.size));have DL1:=Lib.hid (DL.out k c1 1 w8 HK.out lk9 uk (HW.out.keep HB8.out) hK8.rd);clear hb8 hK8)
      | (go_at_call 8;((with_reducible refine DL1.out.mono ?_));rintro e w9 ⟨rfl,hb9⟩;have HB9:=Lib.hid (HB8.out.trans (hb9.mono HB8.out.size));have HG9:=Lib.hid (HG8.out.trans (hb9.mono HG8.out.size));have DT2:=Lib.hid (DT.out v w9);clear hb9)
      | (go_at_call 6;((with_reducible refine DT2.out.mono ?_));rintro e wA ⟨c2,rfl,hbA,hKA⟩;have HBA:=Lib.hid (HB9.out.trans (hbA.mono HB9.out.size));have HGA:=Lib.hid (HG9.out.trans (hbA.mono HG9.out.size));have DL2:=Lib.hid (DL.out v c2 1 wA HV.out lv9 uv (HW.out.keep HBA.out) hKA.rd);clear hbA hKA)
      | (go_at_call 8;((with_reducible refine DL2.out.mono ?_));rintro e wB ⟨rfl,hbB⟩;have HBB:=Lib.hid (HBA.out.trans (hbB.mono HBA.out.size));have HGB:=Lib.hid (HGA.out.trans (hbB.mono HGA.out.size));clear hbB))
     clear HB7 HB8 HB9 HBA HG7 HG8 HG9 HGA DT1 DT2 DL1 DL2 DP DL DM
     have DXX:=Lib.hid (DX.out wB (HW.out.keep HBB.out))
     go_upto_region 12 with(go_at_call 9;((with_reducible refine DXX.out.mono ?_));rintro e wC ⟨g,c,sa,sn,sc,rfl,hbC,hGC⟩;have HBC:=Lib.hid (HBB.out.trans (hbC.mono HBB.out.size));have HGC:=Lib.hid (HGB.out.trans (hbC.mono HGB.out.size));have HGP:=Lib.hid hGC;clear hbC hGC)
     have hbA:Below wC.heap.size wC (wC.alloc (.cells #[.int .i64 3,.string sx,.slice (some ⟨g,0,none⟩) 5 c,.int .i64 0,.slice sa sn sc,.slice none 0 0] 37)):=(Below.refl _ _).alloc (Nat.le_refl _) _
     have HD9:Hid (Arr (wC.alloc (.cells #[.int .i64 3,.string sx,.slice (some ⟨g,0,none⟩) 5 c,.int .i64 0,.slice sa sn sc,.slice none 0 0] 37)) wC.heap.size 37 [.int .i64 3,.string sx,.slice (some ⟨g,0,none⟩) 5 c,.int .i64 0,.slice sa sn sc,.slice none 0 0]):=Arr.new wC _ _
     have HBD:=Lib.hid (HBC.out.trans (hbA.mono HBC.out.size))
     have HGD:=Lib.hid (HGC.out.trans (hbA.mono HGC.out.size))
     have HP9:=Lib.hid ((HGP.out.below hbA (Nat.le_refl _)).up hbA.size (Nat.le_refl _))
     have HQ9:=Lib.hid ((HG6.out.below HGD.out (Nat.le_refl _)).up HGD.out.size (Nat.le_refl _))
     have HA9:=Lib.hid (HA6.out.keep HGD.out)
     generalize (wC.alloc (.cells #[.int .i64 3,.string sx,.slice (some ⟨g,0,none⟩) 5 c,.int .i64 0,.slice sa sn sc,.slice none 0 0] 37))=wD at *
     have DSS:=Lib.hid (DS.out g q4 c wD (HW.out.keep HBD.out) HP9.out HQ9.out)
     have d2:=HD9.out.cell' (i:=2) rfl
     have d3:=HD9.out.cell' (i:=3) rfl
     have g0:=HA9.out.cell' (i:=0) rfl
     have g1:=HA9.out.cell' (i:=1) rfl
     clear x0 x1 hbA HBC HGC HGP HA6 HG6 HB6 HBB HGB DXX DX DS HD9 HA9 HP9 HQ9 HGD
     go_wp2_with (go_at_call 10;((with_reducible refine DSS.out.mono ?_));rintro e wE ⟨rfl,hbE⟩)
     go_ret
     exact⟨rfl,HBD.out.trans (hbE.mono HBD.out.size)⟩
    ·have DP:Hid (Calls Tryz.prog 7 #[.agg #[.slice (some ⟨q4,0,none⟩) 5 5,.int .i64 0]] W6 fun e w'=>e=.returned (.tuple #[.string ⟨#[]⟩,.int .i64 3])∧Below W6.heap.size W6 w'):=print_bad rfl (nodesI_ck HK.out HV.out lk9 lv9) (nodesI_bad (.inr uv)) W6 HWL.out.e HG6.out
     go_wp2_with (first
      | (go_at_call 7;((with_reducible refine DP.out.mono ?_));rintro e w7 ⟨rfl,hb7⟩;have HB7:=Lib.hid (HB6.out.trans (hb7.mono HB6.out.size));have DT1:=Lib.hid (DT.out k w7);clear hb7)
      | (go_at_call 6;((with_reducible refine DT1.out.mono ?_));rintro e w8 ⟨c1,rfl,hb8,hK8⟩;have HB8:=Lib.hid (HB7.out.trans (hb8.mono HB7.out.size));have DL1:=Lib.hid (DL.out k c1 1 w8 HK.out lk9 uk (HW.out.keep HB8.out) hK8.rd);clear hb8 hK8)
      | (go_at_call 8;((with_reducible refine DL1.out.mono ?_));rintro e w9 ⟨rfl,hb9⟩;have HB9:=Lib.hid (HB8.out.trans (hb9.mono HB8.out.size));have DT2:=Lib.hid (DT.out v w9);clear hb9)
      | (go_at_call 6;((with_reducible refine DT2.out.mono ?_));rintro e wA ⟨c2,rfl,hbA,hKA⟩;have HBA:=Lib.hid (HB9.out.trans (hbA.mono HB9.out.size));have DL2:=Lib.hid (DM.out v c2 1 wA HV.out lv9 uv (HW.out.keep HBA.out) hKA.rd);clear hbA hKA)
      | (go_at_call 8;((with_reducible refine DL2.out.mono ?_));rintro e wB ⟨rfl,hbB⟩;have HBB:=Lib.hid (HBA.out.trans (hbB.mono HBA.out.size));clear hbB))
     go_ret
     exact⟨rfl,HBB.out⟩
   ·have DP:Hid (Calls Tryz.prog 7 #[.agg #[.slice (some ⟨q4,0,none⟩) 5 5,.int .i64 0]] W6 fun e w'=>e=.returned (.tuple #[.string ⟨#[]⟩,.int .i64 3])∧Below W6.heap.size W6 w'):=print_bad rfl (nodesI_ck HK.out HV.out lk9 lv9) (nodesI_bad (.inl uk)) W6 HWL.out.e HG6.out
    by_cases uv:VU v
    ·go_wp2_with (first
      | (go_at_call 7;((with_reducible refine DP.out.mono ?_));rintro e w7 ⟨rfl,hb7⟩;have HB7:=Lib.hid (HB6.out.trans (hb7.mono HB6.out.size));have DT1:=Lib.hid (DT.out k w7);clear hb7)
      | (go_at_call 6;((with_reducible refine DT1.out.mono ?_));rintro e w8 ⟨c1,rfl,hb8,hK8⟩;have HB8:=Lib.hid (HB7.out.trans (hb8.mono HB7.out.size));have DL1:=Lib.hid (DM.out k c1 1 w8 HK.out lk9 uk (HW.out.keep HB8.out) hK8.rd);clear hb8 hK8)
      | (go_at_call 8;((with_reducible refine DL1.out.mono ?_));rintro e w9 ⟨rfl,hb9⟩;have HB9:=Lib.hid (HB8.out.trans (hb9.mono HB8.out.size));have DT2:=Lib.hid (DT.out v w9);clear hb9)
      | (go_at_call 6;((with_reducible refine DT2.out.mono ?_));rintro e wA ⟨c2,rfl,hbA,hKA⟩;have HBA:=Lib.hid (HB9.out.trans (hbA.mono HB9.out.size));have DL2:=Lib.hid (DL.out v c2 1 wA HV.out lv9 uv (HW.out.keep HBA.out) hKA.rd);clear hbA hKA)
      | (go_at_call 8;((with_reducible refine DL2.out.mono ?_));rintro e wB ⟨rfl,hbB⟩;have HBB:=Lib.hid (HBA.out.trans (hbB.mono HBA.out.size));clear hbB))
     go_ret
     exact⟨rfl,HBB.out⟩
    ·go_wp2_with (first
      | (go_at_call 7;((with_reducible refine DP.out.mono ?_));rintro e w7 ⟨rfl,hb7⟩;have HB7:=Lib.hid (HB6.out.trans (hb7.mono HB6.out.size));have DT1:=Lib.hid (DT.out k w7);clear hb7)
      | (go_at_call 6;((with_reducible refine DT1.out.mono ?_));rintro e w8 ⟨c1,rfl,hb8,hK8⟩;have HB8:=Lib.hid (HB7.out.trans (hb8.mono HB7.out.size));have DL1:=Lib.hid (DM.out k c1 1 w8 HK.out lk9 uk (HW.out.keep HB8.out) hK8.rd);clear hb8 hK8)
      | (go_at_call 8;((with_reducible refine DL1.out.mono ?_));rintro e w9 ⟨rfl,hb9⟩;have HB9:=Lib.hid (HB8.out.trans (hb9.mono HB8.out.size));have DT2:=Lib.hid (DT.out v w9);clear hb9)
      | (go_at_call 6;((with_reducible refine DT2.out.mono ?_));rintro e wA ⟨c2,rfl,hbA,hKA⟩;have HBA:=Lib.hid (HB9.out.trans (hbA.mono HB9.out.size));have DL2:=Lib.hid (DM.out v c2 1 wA HV.out lv9 uv (HW.out.keep HBA.out) hKA.rd);clear hbA hKA)
      | (go_at_call 8;((with_reducible refine DL2.out.mono ?_));rintro e wB ⟨rfl,hbB⟩;have HBB:=Lib.hid (HBA.out.trans (hbB.mono HBA.out.size));clear hbB))
     go_ret
     exact⟨rfl,HBB.out⟩
  ·go_wp2_with (first
    | (go_at_call 6;((with_reducible refine DT1.out.mono ?_));rintro e w2 ⟨nb,rfl,hb2,hK2⟩;have HB2:=Lib.hid (HB1.out.trans (hb2.mono HB1.out.size));have hF:=DF.out k nb 1 w2 hK2.rd;rw [decide_eq_true lk] at hF;have HF:=Lib.hid hF;clear hb2 hK2 hF)
    | (go_at_call 5;((with_reducible refine HF.out.mono ?_));rintro e w3 ⟨rfl,hb3⟩;have HB3:=Lib.hid (HB2.out.trans (hb3.mono HB2.out.size));have DT2:=Lib.hid (DT.out v w3);clear hb3)
    | (go_at_call 6;((with_reducible refine DT2.out.mono ?_));rintro e w4 ⟨nb2,rfl,hb4,hK4⟩;have HB4:=Lib.hid (HB3.out.trans (hb4.mono HB3.out.size));have hF2:=DF.out v nb2 1 w4 hK4.rd;rw [decide_eq_false lv] at hF2;have HF2:=Lib.hid hF2;clear hb4 hK4 hF2)
    | (go_at_call 5;((with_reducible refine HF2.out.mono ?_));rintro e w5 ⟨rfl,hb5⟩;have HB5:=Lib.hid (HB4.out.trans (hb5.mono HB4.out.size));clear hb5))
   go_ret
   exact⟨rfl,HB5.out⟩
 ·go_wp2_with (first
   | (go_at_call 6;((with_reducible refine DT1.out.mono ?_));rintro e w2 ⟨nb,rfl,hb2,hK2⟩;have HB2:=Lib.hid (HB1.out.trans (hb2.mono HB1.out.size));have hF:=DF.out k nb 1 w2 hK2.rd;rw [decide_eq_false lk] at hF;have HF:=Lib.hid hF;clear hb2 hK2 hF)
   | (go_at_call 5;((with_reducible refine HF.out.mono ?_));rintro e w3 ⟨rfl,hb3⟩))
  go_ret
  exact⟨rfl,HB2.out.trans (hb3.mono HB2.out.size)⟩
end Go.Proofs.YtnnnagnjikdnnaaGreatDoor
