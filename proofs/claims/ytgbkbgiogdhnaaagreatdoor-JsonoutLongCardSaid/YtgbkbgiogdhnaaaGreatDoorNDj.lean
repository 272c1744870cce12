/- The walks of jsonout's both, Literal and Print. -/
import Derived.Test.YtgbkbgiogdhnaaaGreatDoorMDc
import Derived.Test.YtgbkbgiogdhnaaaGreatDoorNDg
import Derived.Test.YtgbkbgiogdhnaaaGreatDoorNDi
import Derived.Test.YtgbkbgiogdhnaaaGreatDoorMCh
import Derived.Test.YtgbkbgiogdhnaaaGreatDoorNDk
import Derived.Test.YtgbkbgiogdhnaaaGreatDoorNEc
import Derived.Test.YtgbkbgiogdhnaaaGreatDoorMEb
import Derived.Test.YtgbkbgiogdhnaaaGreatDoorNAw
import Derived.Deep.RegionHeld3
set_option linter.unusedVariables false
set_option linter.unusedSimpArgs false
set_option linter.defProp false
set_option linter.constructorNameAsVariable false
namespace Go.Proofs.YtgbkbgiogdhnaaaGreatDoor
open Go.RowKit
structure OutOK (nodes N2:List GNode) (r:Nat) (dec:List Nat→List Nat) (F:Nat):Prop where
 nOK:NormOK nodes
 chk:ChkOK nodes (r:Int)
 chk0:chkV nodes (r:Int)=0
 lt:r<nodes.length
 nv:NormV nodes r N2
 up:UpI nodes
 srt:∀k,k<nodes.length→(ndAt nodes k).kind=10→SortN nodes (ndAt nodes k)
 one:∀k,(countsI nodes (r:Int)).getD k 0≤1
 prt:PrtOK N2
 f3:F≤3
 dec:∀w,LibE w→DecOK w w.heap.size N2 dec
def endV (lit:Bool):List Nat:=if lit then [] else [10]
set_option maxRecDepth 20000 in
set_option maxHeartbeats 16000000 in
theorem both_any {B g o c r n F:Nat} {nodes N2:List GNode} {lit:Bool} {dec:List Nat→List Nat} {t:List Nat} (hn:nodes.length=n) (hO:OutOK nodes N2 r dec F) (hpr:printP N2 dec (ordP N2) lit F 0 0=.ok t) (hb:By t) (h0:t≠[]) (htl:t.length≤4294967290) (w:World) (hw:LibE w) (hG:GRd w B g o nodes) :
  Calls Tryz.prog 22 #[.agg #[.slice (some ⟨g,o,none⟩) n c,.int .i64 (r:Int)],.bool lit] w fun e w'=>e=.returned (.tuple #[.string (mks (limV2 (t ++ endV lit)).1),.int .i64 (limV2 (t ++ endV lit)).2])∧Below w.heap.size w w':=by
 have D1:=Lib.hid (fun(w':World) (h:LibE w') (h':GRd w' B g o nodes)=>gcheck_any (c:=c) hO.chk w' h h')
 have D2:=Lib.hid (fun(w':World) (h:LibE w') (h':GRd w' B g o nodes)=>cyclic_no (c:=c) r hO.lt hO.chk hO.chk0 hO.up hO.srt w' h h')
 have D3:=Lib.hid (fun(w':World) (h:LibE w') (h':GRd w' B g o nodes)=>tree_true (c:=c) r hO.lt hO.chk hO.chk0 hO.srt hO.one w' h h')
 have D4:=Lib.hid (fun(w':World) (h:LibE w') (h':GRd w' B g o nodes)=>Normal_any (c:=c) hn hO.nOK hO.chk hO.chk0 hO.lt hO.nv w' h h')
 have HO:=Lib.hid hO
 rw [hO.chk0,hn] at D1
 rw [hn] at D2 D3
 have DL:=Lib.hid (fun w'=>limited_any (t ++ endV lit) (by unfold endV;rw [List.length_append];split <;> simp <;> omega) w')
 generalize limV2 (t ++ endV lit)=lv at *
 have HPR:=Lib.hid hpr
 have HBY:=Lib.hid hb
 have HG:=Lib.hid hG
 have HW:=Lib.hid hw
 have h1:Hid (Arr (w.alloc (.cells #[.slice (some ⟨g,o,none⟩) n c,.int .i64 (r:Int)] 29)) w.heap.size 29 [.slice (some ⟨g,o,none⟩) n c,.int .i64 (r:Int)]):=Arr.new w _ _
 have HB:Hid (Below w.heap.size w (w.alloc (.cells #[.slice (some ⟨g,o,none⟩) n c,.int .i64 (r:Int)] 29))):=(Below.refl _ _).alloc (Nat.le_refl _) _
 have hn0:0<n:=by have:=hO.lt;omega
 clear hO hpr hb hn hw hG
 go_enter Tryz.func22,Tryz.ntmps22
 go_upto_region 1 with(fail)
 obtain⟨gb,hgb⟩:∃x,w.heap.size=x:=⟨_,rfl⟩
 have HGB:=Lib.hid hgb
 generalize (w.alloc (.cells #[.slice (some ⟨g,o,none⟩) n c,.int .i64 (r:Int)] 29))=W at *
 rw [hgb] at h1 HB ⊢
 clear hgb
 have hwW:=Lib.hid (HW.out.keep (by rw [HGB.out];exact HB.out))
 have hGW:=Lib.hid (HG.out.below HB.out (by have:=HG.out.2.1;have:=HGB.out;omega))
 have lW:gb<W.heap.size:=h1.out.lt
 have x0:=h1.out.cell' (i:=0) rfl
 have x1:=h1.out.cell' (i:=1) rfl
 go_upto_region 4 with(go_at_call 40;((with_reducible refine(D1.out _ hwW.out hGW.out).mono ?_));rintro e w1 ⟨rfl,hb1⟩)
 clear x0 x1 D1
 have h1a:=Lib.hid (h1.out.keep hb1)
 have HB1:=Lib.hid (HB.out.trans (hb1.mono (by omega)))
 have hw1:=Lib.hid (hwW.out.keep hb1)
 have hG1:=Lib.hid (hGW.out.below hb1 hGW.out.2.1)
 have l1:gb<w1.heap.size:=h1a.out.lt
 clear h1 HB hwW hGW hb1
 have x0:=h1a.out.cell' (i:=0) rfl
 have x1:=h1a.out.cell' (i:=1) rfl
 go_upto_region 7 with(go_at_call 41;((with_reducible refine(D2.out _ hw1.out hG1.out).mono ?_));rintro e w2 ⟨rfl,hb1⟩)
 clear x0 x1 D2
 have h1b:=Lib.hid (h1a.out.keep hb1)
 have HB2:=Lib.hid (HB1.out.trans (hb1.mono (by omega)))
 have hw2:=Lib.hid (hw1.out.keep hb1)
 have hG2:=Lib.hid (hG1.out.below hb1 hG1.out.2.1)
 have l2:gb<w2.heap.size:=h1b.out.lt
 clear h1a HB1 hw1 hG1 hb1
 have x0:=h1b.out.cell' (i:=0) rfl
 have x1:=h1b.out.cell' (i:=1) rfl
 go_upto_region 9 with(go_at_call 42;((with_reducible refine(D3.out _ hw2.out hG2.out).mono ?_));rintro e w3 ⟨rfl,hb1⟩)
 clear x0 x1 D3
 have h1c:=Lib.hid (h1b.out.keep hb1)
 have HB3:=Lib.hid (HB2.out.trans (hb1.mono (by omega)))
 have hw3:=Lib.hid (hw2.out.keep hb1)
 have hG3:=Lib.hid (hG2.out.below hb1 hG2.out.2.1)
 have l3:gb<w3.heap.size:=h1c.out.lt
 clear h1b HB2 hw2 hG2 hb1
 have x0:=h1c.out.cell' (i:=0) rfl
 have x1:=h1c.out.cell' (i:=1) rfl
 go_upto_region 10 with(go_at_call 43;((with_reducible refine(D4.out _ hw3.out hG3.out).mono ?_));rintro e w4 ⟨om,rfl,hb1,hG4,hl4⟩;have hN4:Hid (Arr (w4.alloc (.cells #[.slice (some ⟨om,0,none⟩) n n,.int .i64 0] 29)) w4.heap.size 29 [.slice (some ⟨om,0,none⟩) n n,.int .i64 0]):=Arr.new w4 _ _;have hb2:Below w4.heap.size w4 (w4.alloc (.cells #[.slice (some ⟨om,0,none⟩) n n,.int .i64 0] 29)):=(Below.refl _ _).alloc (Nat.le_refl _) _)
 clear x0 x1 D4
 have HB5:=Lib.hid ((HB3.out.trans (hb1.mono (by omega))).trans (hb2.mono (by have:=hb1.size;omega)))
 have hw5:=Lib.hid ((hw3.out.keep hb1).keep hb2)
 have hG5:=Lib.hid ((hG4.below hb2 (Nat.le_refl _)).up hb2.size (Nat.le_refl _))
 have HL4:=Lib.hid hl4
 clear h1c HB3 hw3 hG3 hb1 hb2 hG4 hl4
 generalize (w4.alloc (.cells #[.slice (some ⟨om,0,none⟩) n n,.int .i64 0] 29))=w5 at *
 obtain⟨nb,hnb⟩:∃x,w4.heap.size=x:=⟨_,rfl⟩
 rw [hnb] at hN4 ⊢
 clear hnb
 have hF6:=Lib.hid (PrF.new w5 (.slice (some ⟨om,0,none⟩) n n) (.int .i64 0) (.bool lit))
 have hb6:Hid (Below w5.heap.size w5 (w5.alloc (.cells #[.pointer none,.slice none 0 0,.slice (some ⟨om,0,none⟩) n n,.int .i64 0,.bool lit] 64))):=(Below.refl _ _).alloc (Nat.le_refl _) _
 have hN6:=Lib.hid (hN4.out.keep hb6.out)
 have x0:=hN4.out.cell' (i:=0) rfl
 have x1:=hN4.out.cell' (i:=1) rfl
 go_upto_region 11 with(fail)
 clear x0 x1 hN4
 have hbs:w5.heap.size≤(w5.alloc (.cells #[.pointer none,.slice none 0 0,.slice (some ⟨om,0,none⟩) n n,.int .i64 0,.bool lit] 64)).heap.size:=hb6.out.size
 have hG6:=Lib.hid (hG5.out.below hb6.out (Nat.le_refl _))
 generalize (w5.alloc (.cells #[.pointer none,.slice none 0 0,.slice (some ⟨om,0,none⟩) n n,.int .i64 0,.bool lit] 64))=w6 at *
 obtain⟨pb,hpb⟩:∃x,w5.heap.size=x:=⟨_,rfl⟩
 have HPB:=Lib.hid hpb
 have DN:=node_any (w0:=w5) (Bp:=w5.heap.size) (b:=w5.heap.size) (g:=om) (o:=0) (c:=n) (nodes:=N2) (root:=0) (lit:=lit) HO.out.prt (HO.out.dec w5 hw5.out) F 0 0 [] t w6 (by rw [HL4.out];have:=HO.out.nOK.len;exact hn0) (by rw [Nat.zero_add];exact HO.out.f3) HPR.out (by simp;omega) hb6.out hG6.out (by rw [HL4.out];exact hF6.out)
 unfold ContR at DN
 rw [HL4.out,List.nil_append] at DN
 have e0:((0:Nat):Int)=0:=rfl
 rw [e0] at DN
 clear e0
 have hpg:gb≤pb:=by have:=HB5.out.size;have:=HPB.out;have:=HGB.out;omega
 rw [hpb] at DN hF6 hbs hb6 ⊢
 have HDN:=Lib.hid DN
 clear DN hpb
 have x0:=hN6.out.cell' (i:=0) rfl
 have x1:=hN6.out.cell' (i:=1) rfl
 cases lit with
 | true=>
  have e0:t ++ endV true=t:=by simp [endV]
  rw [e0] at DL
  clear e0
  go_upto_region 16 with(go_at_call 44;((with_reducible refine HDN.out.mono ?_));rintro e w7 ⟨rfl,hI0⟩)
  have hI:=Lib.hid hI0
  clear hI0 HDN x0 x1
  have DS:=Lib.hid (pr_done hI.out HBY.out h0)
  go_wp2_with (first | (go_at_call 18;((with_reducible refine DS.out.mono ?_));rintro e w8 ⟨rfl,hb8,ho8⟩) | (go_at_call 21;((with_reducible refine(DL.out _).mono ?_));rintro e w9 ⟨rfl,rfl⟩))
  go_ret2
  exact⟨rfl,by rw [HGB.out];exact((HB5.out.trans (hb6.out.mono hpg)).trans (hI.out.2.1.mono hpg)).trans (hb8.mono hpg)⟩
 | false=>
  have e0:t ++ endV false=t ++ [10]:=by simp [endV]
  rw [e0] at DL
  clear e0
  go_upto_region 14 with(go_at_call 44;((with_reducible refine HDN.out.mono ?_));rintro e w7 ⟨rfl,hI0⟩)
  have hI:=Lib.hid hI0
  clear hI0 HDN x0 x1
  have hbn:(B8 t).length+1≤140737488355328:=by rw [len_B8];omega
  have HBN:=Lib.hid hbn
  go_upto_region 16 with(go_at_call 38;((with_reducible refine(pr_byte pb pb _ _ _ _ _ _ (PrI.pf hI.out) HBN.out (PrI.le hI.out)).mono ?_));rintro e w8 ⟨rfl,hPa,hba,hoa⟩)
  have hI2:=Lib.hid (PrI.byte (bs:=[]) (x:=10) hI.out hPa hba hoa)
  have DS:=Lib.hid (pr_done hI2.out (By.append HBY.out (by intro c hc;simp at hc;omega)) (by simp))
  clear hPa hba hoa hbn
  go_wp2_with (first | (go_at_call 18;((with_reducible refine DS.out.mono ?_));rintro e w9 ⟨rfl,hb8,ho8⟩) | (go_at_call 21;((with_reducible refine(DL.out _).mono ?_));rintro e w10 ⟨rfl,rfl⟩))
  go_ret2
  exact⟨rfl,by rw [HGB.out];exact((HB5.out.trans (hb6.out.mono hpg)).trans (hI2.out.2.1.mono hpg)).trans (hb8.mono hpg)⟩
set_option maxRecDepth 20000 in
set_option maxHeartbeats 8000000 in
theorem outLiteral_any {B g o c r n F:Nat} {nodes N2:List GNode} {dec:List Nat→List Nat} {t:List Nat} (hn:nodes.length=n) (hO:OutOK nodes N2 r dec F) (hpr:printP N2 dec (ordP N2) true F 0 0=.ok t) (hb:By t) (h0:t≠[]) (htl:t.length≤4294967290) (w:World) (hw:LibE w) (hG:GRd w B g o nodes) :
  Calls Tryz.prog 7 #[.agg #[.slice (some ⟨g,o,none⟩) n c,.int .i64 (r:Int)]] w fun e w'=>e=.returned (.tuple #[.string (mks (limV2 (t ++ endV true)).1),.int .i64 (limV2 (t ++ endV true)).2])∧Below w.heap.size w w':=by
 have D:=Lib.hid (fun(w':World) (h:LibE w') (h':GRd w' B g o nodes)=>both_any (c:=c) hn hO hpr hb h0 htl w' h h')
 generalize limV2 (t ++ endV true)=lv at *
 have HG:=Lib.hid hG
 have HW:=Lib.hid hw
 have h1:Hid (Arr (w.alloc (.cells #[.slice (some ⟨g,o,none⟩) n c,.int .i64 (r:Int)] 29)) w.heap.size 29 [.slice (some ⟨g,o,none⟩) n c,.int .i64 (r:Int)]):=Arr.new w _ _
 have HB:Hid (Below w.heap.size w (w.alloc (.cells #[.slice (some ⟨g,o,none⟩) n c,.int .i64 (r:Int)] 29))):=(Below.refl _ _).alloc (Nat.le_refl _) _
 have hwW:=Lib.hid (HW.out.keep HB.out)
 have hGW:=Lib.hid (HG.out.below HB.out HG.out.2.1)
 clear hO hpr hb hn hw hG
 go_enter Tryz.func7,Tryz.ntmps7
 go_upto_region 1 with(fail)
 generalize (w.alloc (.cells #[.slice (some ⟨g,o,none⟩) n c,.int .i64 (r:Int)] 29))=W at *
 have x0:=h1.out.cell' (i:=0) rfl
 have x1:=h1.out.cell' (i:=1) rfl
 go_wp2_with (go_at_call 22;((with_reducible refine(D.out _ hwW.out hGW.out).mono ?_));rintro e w1 ⟨rfl,hb1⟩)
 go_ret2
 exact⟨rfl,HB.out.trans (hb1.mono HB.out.size)⟩
set_option maxRecDepth 20000 in
set_option maxHeartbeats 8000000 in
theorem outPrint_any {B g o c r n F:Nat} {nodes N2:List GNode} {dec:List Nat→List Nat} {t:List Nat} (hn:nodes.length=n) (hO:OutOK nodes N2 r dec F) (hpr:printP N2 dec (ordP N2) false F 0 0=.ok t) (hb:By t) (h0:t≠[]) (htl:t.length≤4294967290) (w:World) (hw:LibE w) (hG:GRd w B g o nodes) :
  Calls Tryz.prog 9 #[.agg #[.slice (some ⟨g,o,none⟩) n c,.int .i64 (r:Int)]] w fun e w'=>e=.returned (.tuple #[.string (mks (limV2 (t ++ endV false)).1),.int .i64 (limV2 (t ++ endV false)).2])∧Below w.heap.size w w':=by
 have D:=Lib.hid (fun(w':World) (h:LibE w') (h':GRd w' B g o nodes)=>both_any (c:=c) hn hO hpr hb h0 htl w' h h')
 generalize limV2 (t ++ endV false)=lv at *
 have HG:=Lib.hid hG
 have HW:=Lib.hid hw
 have h1:Hid (Arr (w.alloc (.cells #[.slice (some ⟨g,o,none⟩) n c,.int .i64 (r:Int)] 29)) w.heap.size 29 [.slice (some ⟨g,o,none⟩) n c,.int .i64 (r:Int)]):=Arr.new w _ _
 have HB:Hid (Below w.heap.size w (w.alloc (.cells #[.slice (some ⟨g,o,none⟩) n c,.int .i64 (r:Int)] 29))):=(Below.refl _ _).alloc (Nat.le_refl _) _
 have hwW:=Lib.hid (HW.out.keep HB.out)
 have hGW:=Lib.hid (HG.out.below HB.out HG.out.2.1)
 clear hO hpr hb hn hw hG
 go_enter Tryz.func9,Tryz.ntmps9
 go_upto_region 1 with(fail)
 generalize (w.alloc (.cells #[.slice (some ⟨g,o,none⟩) n c,.int .i64 (r:Int)] 29))=W at *
 have x0:=h1.out.cell' (i:=0) rfl
 have x1:=h1.out.cell' (i:=1) rfl
 go_wp2_with (go_at_call 22;((with_reducible refine(D.out _ hwW.out hGW.out).mono ?_));rintro e w1 ⟨rfl,hb1⟩)
 go_ret2
 exact⟨rfl,HB.out.trans (hb1.mono HB.out.size)⟩
end Go.Proofs.YtgbkbgiogdhnaaaGreatDoor
namespace Go.Proofs.YtgbkbgiogdhnaaaGreatDoor
open Go.RowKit
def decW:List Nat→List Nat:=fun _=>[49,46,53]
def gMn:List GNode:=[⟨10,[],false,[1,3],[2,4]⟩,gText 97,gMap0,gText 98,⟨9,[],false,[],[5,6]⟩,gInt,gDec]
def litM:List Nat:=[123,34,97,34,58,32,123,125,44,32,34,98,34,58,32,91,49,44,32,49,46,53,93,125]
def prtM:List Nat:=[123,10,32,32,34,97,34,58,32,123,125,44,10,32,32,34,98,34,58,32,91,10,32,32,32,32,49,44,10,32,32,32,32,49,46,53,10,32,32,93,10,125]
theorem norm_gM:NormV gM 0 gMn:=⟨0,⟨[0,3,4,5,6,1,2],7,gMn⟩,by kernel_rfl,rfl⟩
theorem lit_gM:printP gMn decW (ordP gMn) true 3 0 0=.ok litM:=by kernel_rfl
theorem prt_gM:printP gMn decW (ordP gMn) false 3 0 0=.ok prtM:=by kernel_rfl
theorem up_gM:UpI gM:=fun k hk x hx=>by
 have h:=all_of (n:=gM.length) (p:=fun k=>(ndAt gM k).items.all (fun x=>decide ((k:Int)<x∧x<(gM.length:Int)))) (by kernel_rfl) hk
 exact of_decide_eq_true (List.all_eq_true.1 h x hx)
theorem idx_gMn:Idx gMn:=fun k hk x hx=>by
 have h:=all_of (n:=gMn.length) (p:=fun k=>(refs (ndAt gMn k)).all (fun x=>decide (0≤x∧x<(gMn.length:Int)))) (by kernel_rfl) hk
 exact of_decide_eq_true (List.all_eq_true.1 h x hx)
theorem prt_ok:PrtOK gMn where
 idx:=idx_gMn
 nl:=fun k hk=>by
  have h:=all_of (n:=gMn.length) (p:=fun k=>decide ((ndAt gMn k).keys.length≤65536∧(ndAt gMn k).items.length≤65536)) (by kernel_rfl) hk
  exact of_decide_eq_true h
 len:=by show 7≤4096;omega
 txt:=fun k hk=>by
  have h:=all_of (n:=gMn.length) (p:=fun k=>(ndAt gMn k).text.all (fun c=>decide (c<256)) && decide ((ndAt gMn k).text.length≤100000)) (by kernel_rfl) hk
  rw [Bool.and_eq_true] at h
  exact⟨by_dec h.1,of_decide_eq_true h.2⟩
 few:=fun k hk _=>by
  have h:=all_of (n:=gMn.length) (p:=fun k=>decide ((ndAt gMn k).kind=10→((ndAt gMn k).items.length≤12∧(ndAt gMn k).keys.length=(ndAt gMn k).items.length))) (by kernel_rfl) hk
  exact of_decide_eq_true h (by assumption)
theorem ent_gM (k:Nat) (hk:k<gM.length) (h10:(ndAt gM k).kind=10):EntOK gM (ndAt gM k) where
 len:=(treeM.sort k hk h10).len
 few:=by
  have h:=all_of (n:=gM.length) (p:=fun k=>decide ((ndAt gM k).items.length≤12)) (by kernel_rfl) hk
  exact of_decide_eq_true h
 key:=fun x hx=>by
  have h:=all_of (n:=gM.length) (p:=fun k=>(ndAt gM k).keys.all (fun x=>decide (0≤x∧x.toNat<gM.length∧(ndAt gM x.toNat).kind=5∧(ndAt gM x.toNat).ord=false))) (by kernel_rfl) hk
  have h:=of_decide_eq_true (List.all_eq_true.1 h x hx)
  exact⟨h.1,h.2⟩
 ne:=fun a b ha hb hab=>by
  have h:=all_of (n:=gM.length) (p:=fun k=>!((ndAt gM k).kind == 10) || (List.range (ndAt gM k).items.length).all fun a=>(List.range (ndAt gM k).items.length).all fun b=>a == b || !(cmpK gM (ndAt gM k) (a:Int) (b:Int) == 0)) (by kernel_rfl) hk
  rw [h10] at h
  have h:=all_of (all_of (show(List.range (ndAt gM k).items.length).all _=true from h) ha) hb
  intro e
  rw [e] at h
  simp [hab] at h
theorem dec_ok (w:World) (hw:LibE w):DecOK w w.heap.size gMn decW:=fun k hk h3=>by
 have ht:(ndAt gMn k).text = [49,53,101,45,49]:=by
  have h:=all_of (n:=gMn.length) (p:=fun k=>decide ((ndAt gMn k).kind=3→(ndAt gMn k).text = [49,53,101,45,49])) (by kernel_rfl) hk
  exact of_decide_eq_true h h3
 refine⟨by_dec (by rfl),by show 3≤100000;omega,fun w' hb=>?_⟩
 rw [ht]
 have h:=dtext_15 w' (hw.keep hb)
 exact h
theorem out_gM:OutOK gM gMn 0 decW 3 where
 nOK:=⟨(idx_of (chkV_zero treeM.zero).1).2,treeM.chk.nl,treeM.chk.n1,fun k hk h10 _=>ent_gM k hk h10,fun k hk h10=>(treeM.sort k hk h10).len⟩
 chk:=treeM.chk
 chk0:=treeM.zero
 lt:=treeM.chk.n0
 nv:=norm_gM
 up:=up_gM
 srt:=treeM.sort
 one:=treeM.cnt
 prt:=prt_ok
 f3:=Nat.le_refl _
 dec:=dec_ok
theorem list_gL:listN [[gInt],[gDec]]=gL:=by rfl
theorem map_gM:mapN [([gText 98],gL),([gText 97],[gMap0])]=gM:=by rfl
theorem map_0:mapN [] = [gMap0]:=by rfl
theorem arg_of {N:List GNode} (h:TreeG N):ArgOK N:=⟨h.chk,h.zero⟩
theorem key_text (c:Nat) (h:TreeG [gText c]):KeyOK [gText c] where
 arg:=arg_of h
 one:=by
  have h:(countsV [gText c] 0).all (fun x=>decide (x≤1))=true:=by rfl
  exact fun x hx=>of_decide_eq_true (List.all_eq_true.1 h x hx)
 len:=by rfl
theorem lim_lit:limV2 (litM ++ endV true)=(litM,0):=by kernel_rfl
theorem lim_prt:limV2 (prtM ++ endV false)=(prtM ++ [10],0):=by kernel_rfl
theorem quote_2:quoteR [10,1]=([34,92,110,92,117,48,48,48,49,34],0):=by kernel_rfl
end Go.Proofs.YtgbkbgiogdhnaaaGreatDoor
namespace Go.Proofs.YtgbkbgiogdhnaaaGreatDoor
open Go.RowKit
theorem scalc_of {nd:GNode} (h:TreeG [nd]) (h9:nd.kind≠9) (h10:nd.kind≠10) {b:Bool} (hb:scV nd=b):ScalC nd.kind nd.text b:=by
 have h1:=(h.chk.sc 0 (by simp)).2 h9 h10
 subst hb
 exact h1
theorem grd_leaf {w:World} {nb:Nat} {nd:GNode} (ho:nd.ord=false) (h1:nd.keys = []) (h2:nd.items = []) (h:Arr w nb 43 [.int .i64 nd.kind,.string (mks nd.text),.bool false,.slice none 0 0,.slice none 0 0]):GRd w w.heap.size nb 0 [nd]:=by
 refine grd_arr (F:=fun _=>True) h ⟨rfl,fun i x hi=>?_⟩
 have hi0:i=0:=by
  have:=(List.getElem?_eq_some_iff.1 hi).1
  simp at this;exact this
 subst hi0
 obtain rfl:nd=x:=Option.some.inj hi
 refine⟨none,0,0,none,0,0,by rw [ho];rfl,⟨by rw [h1];rfl,fun j u hj=>by rw [h1] at hj;simp [I64] at hj,fun ad e=>nomatch e⟩,⟨by rw [h2];rfl,fun j u hj=>by rw [h2] at hj;simp [I64] at hj,fun ad e=>nomatch e⟩⟩
def LeafG (w:World) (nd:GNode) (e:Ending) (w':World):Prop:=∃nb,e=.returned (.agg #[.slice (some ⟨nb,0,none⟩) 1 1,.int .i64 0])∧Below w.heap.size w w'∧GRd w' w'.heap.size nb 0 [nd]
theorem sc_leaf {nd:GNode} (h:TreeG [nd]) (h0:0≤nd.kind) (h8:nd.kind≤8) (ho:nd.ord=false) (h1:nd.keys = []) (h2:nd.items = []) (hb:scV nd=true) (w:World) (hw:LibE w):Calls Tryz.prog 8 #[.int .i64 nd.kind,.string (mks nd.text)] w (LeafG w nd):=by
 refine(scalar23_any nd.kind nd.text h0 h8 (scalc_of h (by omega) (by omega) hb) w hw).mono ?_
 rintro e w' ⟨nb,rfl,_,hB,hA⟩
 exact⟨nb,rfl,hB,grd_leaf ho h1 h2 hA.out⟩
theorem sc_int (w:World) (hw:LibE w):Calls Tryz.prog 8 #[.int .i64 2,.string ⟨#[49]⟩] w (LeafG w gInt):=sc_leaf (nd:=gInt) treeInt (by decide) (by decide) rfl rfl rfl (by kernel_rfl) w hw
theorem sc_dec (w:World) (hw:LibE w):Calls Tryz.prog 8 #[.int .i64 3,.string ⟨#[49,53,101,45,49]⟩] w (LeafG w gDec):=sc_leaf (nd:=gDec) treeDec (by decide) (by decide) rfl rfl rfl (by kernel_rfl) w hw
theorem sc_a (w:World) (hw:LibE w):Calls Tryz.prog 8 #[.int .i64 5,.string ⟨#[97]⟩] w (LeafG w (gText 97)):=sc_leaf (nd:=gText 97) treeA (by show(0:Int)≤5;decide) (by show(5:Int)≤8;decide) rfl rfl rfl (by kernel_rfl) w hw
theorem sc_b (w:World) (hw:LibE w):Calls Tryz.prog 8 #[.int .i64 5,.string ⟨#[98]⟩] w (LeafG w (gText 98)):=sc_leaf (nd:=gText 98) treeB (by show(0:Int)≤5;decide) (by show(5:Int)≤8;decide) rfl rfl rfl (by kernel_rfl) w hw
theorem list_two {n1 n2 ab:Nat} (w:World) (hw:LibE w) (h1:GRd w w.heap.size n1 0 [gInt]) (h2:GRd w w.heap.size n2 0 [gDec]) (hA:Arr w ab 29 [.slice (some ⟨n1,0,none⟩) 1 1,.int .i64 0,.slice (some ⟨n2,0,none⟩) 1 1,.int .i64 0]) :
  Calls Tryz.prog 24 #[.slice (some ⟨ab,0,none⟩) 2 2] w (GrR w gL):=by
 have h:=list_any (c:=2) (B:=w.heap.size) (ab:=ab) (gs:=[⟨n1,0,1,[gInt]⟩,⟨n2,0,1,[gDec]⟩]) (by
  intro x hx
  simp at hx
  rcases hx with rfl | rfl
  ·exact arg_of treeInt
  ·exact arg_of treeDec) (by simp) (by show ArgOK (listN [[gInt],[gDec]]);rw [list_gL];exact arg_of treeL) (by
  intro i hi
  match i with
  | 0=>exact⟨Nat.le_of_ble_eq_true (by rfl),Nat.le_of_ble_eq_true (by rfl)⟩
  | 1=>exact⟨Nat.le_of_ble_eq_true (by rfl),Nat.le_of_ble_eq_true (by rfl)⟩
  | 2=>exact⟨Nat.le_of_ble_eq_true (by rfl),Nat.le_of_ble_eq_true (by rfl)⟩
  | n+3=>simp at hi) w hw (Nat.le_refl _) ⟨hA.lt,fun j x hj=>by
   match j with
   | 0=>obtain rfl:=Option.some.inj hj;exact⟨hA.cell' (i:=0) rfl,hA.cell' (i:=1) rfl,h1⟩
   | 1=>obtain rfl:=Option.some.inj hj;exact⟨hA.cell' (i:=2) rfl,hA.cell' (i:=3) rfl,h2⟩
   | n+2=>simp at hj⟩
 exact h
theorem map_none (w:World) (hw:LibE w):Calls Tryz.prog 25 #[.bool false,.slice none 0 0] w (GrR w [gMap0]):=by
 have h:=map_any (B:=w.heap.size) (c:=0) (A:=none) (ps:=[]) (by simp) (by simp) (by simp) (by show ArgOK (mapN []);rw [map_0];exact arg_of treeM0) (by
  intro i hi
  exact⟨by simp [mapT],by simp [mapT],by simp [mapT]⟩) w hw (Nat.le_refl _) (fun j x hj=>by simp at hj)
 exact h
theorem map_two {n1 n2 gl cl gm cm ab:Nat} (w:World) (hw:LibE w) (h1:GRd w w.heap.size n1 0 [gText 98]) (h2:GRd w w.heap.size gl 0 gL) (h3:GRd w w.heap.size n2 0 [gText 97]) (h4:GRd w w.heap.size gm 0 [gMap0])
  (hA:Arr w ab 72 [.slice (some ⟨n1,0,none⟩) 1 1,.int .i64 0,.slice (some ⟨gl,0,none⟩) 3 cl,.int .i64 0,.slice (some ⟨n2,0,none⟩) 1 1,.int .i64 0,.slice (some ⟨gm,0,none⟩) 1 cm,.int .i64 0]) :
  Calls Tryz.prog 25 #[.bool false,.slice (some ⟨ab,0,none⟩) 2 2] w (GrR w gM):=by
 have h:=map_any (B:=w.heap.size) (c:=2) (A:=some ⟨ab,0,none⟩) (ps:=[(⟨n1,0,1,[gText 98]⟩,⟨gl,0,cl,gL⟩),(⟨n2,0,1,[gText 97]⟩,⟨gm,0,cm,[gMap0]⟩)]) (by
  intro x hx
  simp at hx
  rcases hx with rfl | rfl
  ·exact key_text 98 treeB
  ·exact key_text 97 treeA) (by
  intro x hx
  simp at hx
  rcases hx with rfl | rfl
  ·exact arg_of treeL
  ·exact arg_of treeM0) (by simp) (by show ArgOK (mapN [([gText 98],gL),([gText 97],[gMap0])]);rw [map_gM];exact arg_of treeM) (by
  intro i hi
  match i with
  | 0=>exact⟨Nat.le_of_ble_eq_true (by rfl),Nat.le_of_ble_eq_true (by rfl),Nat.le_of_ble_eq_true (by rfl)⟩
  | 1=>exact⟨Nat.le_of_ble_eq_true (by rfl),Nat.le_of_ble_eq_true (by rfl),Nat.le_of_ble_eq_true (by rfl)⟩
  | 2=>exact⟨Nat.le_of_ble_eq_true (by rfl),Nat.le_of_ble_eq_true (by rfl),Nat.le_of_ble_eq_true (by rfl)⟩
  | n+3=>simp at hi) w hw (Nat.le_refl _) (fun j x hj=>by
   match j with
   | 0=>obtain rfl:=Option.some.inj hj;exact⟨ab,rfl,hA.lt,hA.cell' (i:=0) rfl,hA.cell' (i:=1) rfl,hA.cell' (i:=2) rfl,hA.cell' (i:=3) rfl,h1,h2⟩
   | 1=>obtain rfl:=Option.some.inj hj;exact⟨ab,rfl,hA.lt,hA.cell' (i:=4) rfl,hA.cell' (i:=5) rfl,hA.cell' (i:=6) rfl,hA.cell' (i:=7) rfl,h3,h4⟩
   | n+2=>simp at hj)
 exact h
end Go.Proofs.YtgbkbgiogdhnaaaGreatDoor
