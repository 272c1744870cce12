/- The walk of iniout's Print at a map of texts and maps of texts. -/
import Derived.Test.YtnnnagnjikdnnaaGreatDoorMBo
import Derived.Test.YtnnnagnjikdnnaaGreatDoorMBn
import Derived.Test.YtnnnagnjikdnnaaGreatDoorMBm
set_option linter.unusedVariables false
set_option linter.unusedSimpArgs false
set_option linter.defProp false
set_option linter.constructorNameAsVariable false
namespace Go.Proofs.YtnnnagnjikdnnaaGreatDoor
open Go.RowKit
@[go_sem] theorem cat_br (a:List Nat):(⟨#[91]⟩:ByteArray) ++ mks a=mks (91 :: a):=mks_cat [91] a
@[go_sem] theorem cat_end (a:List Nat):mks a ++ (⟨#[93,10]⟩:ByteArray)=mks (a ++ [93,10]):=mks_cat a [93,10]
def PrintR (out:List Nat) (w:World) (e:Ending) (w':World):Prop:=e=.returned (.tuple #[.string (mks out),.int .i64 0])∧Below w.heap.size w w'
set_option maxRecDepth 20000 in
set_option maxHeartbeats 32000000 in
theorem print_cb {B g o c r n:Nat} {nodes:List GNode} {out:List Nat} (hn:nodes.length=n) (hP:PrtI nodes r out) (w:World) (hw:LibE w) (hd:DB16 w) (hG:GRd w B g o nodes) :
  Calls Tryz.prog 7 #[.agg #[.slice (some ⟨g,o,none⟩) n c,.int .i64 (r:Int)]] w (PrintR out w):=by
 obtain⟨gb,hgb⟩:∃x,w.heap.size=x:=⟨_,rfl⟩
 have HGB:=Lib.hid hgb
 have hdl:6<gb:=by rw [←hgb];exact block_lt_of_cell hd
 have HG:Hid (GRd w gb g o nodes):=by rw [←hgb];exact hG.up hG.2.1 (Nat.le_refl _)
 have HW:=Lib.hid hw
 have HD:=Lib.hid hd
 have HP:=Lib.hid hP
 have HN:=Lib.hid hn
 have hr:r<n:=by rw [←hn];exact hP.tree.lt
 have hr0:(0:Int)≤r:=by omega
 have hr1:(r:Int)<n:=by omega
 have h1:Hid (Arr (w.alloc (.cells #[.slice (some ⟨g,o,none⟩) n c,.int .i64 (r:Int)] 26)) w.heap.size 26 [.slice (some ⟨g,o,none⟩) n c,.int .i64 (r:Int)]):=Arr.new w _ _
 have hb1:Below w.heap.size w (w.alloc (.cells #[.slice (some ⟨g,o,none⟩) n c,.int .i64 (r:Int)] 26)):=(Below.refl _ _).alloc (Nat.le_refl _) _
 clear hn hP hw hd hG
 go_enter Tryz.func7,Tryz.ntmps7
 go_upto_region 1 with(fail)
 have HB1:=Lib.hid hb1
 generalize (w.alloc (.cells #[.slice (some ⟨g,o,none⟩) n c,.int .i64 (r:Int)] 26))=w1 at *
 rw [hgb] at h1 HB1
 have hW1:=Lib.hid (HW.out.keep hb1)
 have hG1:=Lib.hid (HG.out.below HB1.out (Nat.le_refl _))
 clear hgb hb1
 have DT:=Lib.hid (tree_ok (c:=c) HN.out HP.out.tree w1 hW1.out hG1.out)
 have x0:=h1.out.cell' (i:=0) rfl
 have x1:=h1.out.cell' (i:=1) rfl
 go_upto_region 4 with(go_at_call 12;((with_reducible refine DT.out.mono ?_));rintro e w2 ⟨rfl,hb2⟩)
 have lg1:=h1.out.lt
 have h1b:=Lib.hid (h1.out.keep hb2)
 have HB2:=Lib.hid (HB1.out.trans (hb2.mono (by omega)))
 have hG2:=Lib.hid (HG.out.below HB2.out (Nat.le_refl _))
 have lg2:=h1b.out.lt
 clear x0 x1 h1 HB1 hb2 hG1 hW1 DT
 have x0:=h1b.out.cell' (i:=0) rfl
 have x1:=h1b.out.cell' (i:=1) rfl
 obtain⟨K,ck,I,ci,c0,c1,c2,c3,c4,⟨rK,bK⟩,⟨rI,bI⟩⟩:=HG.out.of_at (i:=r) (by rw [HN.out];exact hr)
 have hglt:g<gb:=HG.out.1
 have c0:=(HB2.out.cell (p:=⟨g,_,none⟩) hglt).trans c0
 have c1:=(HB2.out.cell (p:=⟨g,_,none⟩) hglt).trans c1
 have c2:=(HB2.out.cell (p:=⟨g,_,none⟩) hglt).trans c2
 have c3:=(HB2.out.cell (p:=⟨g,_,none⟩) hglt).trans c3
 have c4:=(HB2.out.cell (p:=⟨g,_,none⟩) hglt).trans c4
 obtain⟨nd,hnd⟩:∃nd,ndAt nodes r=nd:=⟨_,rfl⟩
 have HND:=Lib.hid hnd
 have hk10:=HP.out.k10
 rw [hnd] at c0 c1 c2 c3 c4 rK rI hk10
 rw [hk10] at c0
 obtain⟨m,hm⟩:∃m,nd.items.length=m:=⟨_,rfl⟩
 have hE:=HP.out.ent
 rw [hnd] at hE
 have HE:=Lib.hid hE
 have hlen:=hE.len
 have hfew:=hE.few
 rw [hm] at c4 hlen hfew
 rw [hlen] at c3
 have HM:=Lib.hid hm
 have HRI:=Lib.hid rI
 have HBI:=Lib.hid bI
 have HRK:=Lib.hid rK
 have HBK:=Lib.hid bK
 obtain⟨tx,htx⟩:∃tx,mks nd.text=tx:=⟨_,rfl⟩
 obtain⟨od,hod⟩:∃od,nd.ord=od:=⟨_,rfl⟩
 rw [htx] at c1
 rw [hod] at c2
 have hq3:Hid (Arr (w2.alloc (.cells #[.int .i64 10,.string tx,.bool od,.slice K m ck,.slice I m ci] 30)) w2.heap.size 30 [.int .i64 10,.string tx,.bool od,.slice K m ck,.slice I m ci]):=Arr.new w2 _ _
 have hb3:Below w2.heap.size w2 (w2.alloc (.cells #[.int .i64 10,.string tx,.bool od,.slice K m ck,.slice I m ci] 30)):=(Below.refl _ _).alloc (Nat.le_refl _) _
 clear hnd hk10 hm hE htx hod rI bI rK bK hlen
 go_upto_region 7 with(fail)
 have h1c:=Lib.hid (h1b.out.keep hb3)
 have HB3:=Lib.hid (HB2.out.trans (hb3.mono (by omega)))
 generalize (w2.alloc (.cells #[.int .i64 10,.string tx,.bool od,.slice K m ck,.slice I m ci] 30))=w3 at *
 obtain⟨qb,hqb⟩:∃x,w2.heap.size=x:=⟨_,rfl⟩
 rw [hqb] at hq3 lg2 ⊢
 clear hqb hb3 x0 x1 c0 c1 c2 c3 c4 h1b HB2
 have lq3:=hq3.out.lt
 have x0:=h1c.out.cell' (i:=0) rfl
 have x1:=h1c.out.cell' (i:=1) rfl
 have hb4:Below w3.heap.size w3 (w3.alloc (.cells #[.pointer none,.slice none 0 0,.slice (some ⟨g,o,none⟩) n c,.int .i64 (r:Int)] 51)):=(Below.refl _ _).alloc (Nat.le_refl _) _
 have hI4:Hid (IpF gb w3.heap.size (.slice (some ⟨g,o,none⟩) n c) (.int .i64 (r:Int)) (B8 []) (w3.alloc (.cells #[.pointer none,.slice none 0 0,.slice (some ⟨g,o,none⟩) n c,.int .i64 (r:Int)] 51))):=.inl ⟨by omega,.slice none 0 0,Arr.new w3 51 [.pointer none,.slice none 0 0,.slice (some ⟨g,o,none⟩) n c,.int .i64 (r:Int)],⟨by simp [B8],.inl ⟨rfl,rfl⟩⟩,by simp [Value.ownBlock]⟩
 go_upto_region 8 with(fail)
 have h1d:=Lib.hid (h1c.out.keep hb4)
 have hq4:=Lib.hid (hq3.out.keep hb4)
 have HB4:=Lib.hid (HB3.out.trans (hb4.mono (by omega)))
 generalize (w3.alloc (.cells #[.pointer none,.slice none 0 0,.slice (some ⟨g,o,none⟩) n c,.int .i64 (r:Int)] 51))=w4 at *
 obtain⟨b,hb⟩:∃x,w3.heap.size=x:=⟨_,rfl⟩
 rw [hb] at hI4 lq3 ⊢
 clear hb hb4 x0 x1 h1c hq3 HB3
 have x1:=h1d.out.cell' (i:=1) rfl
 have hG4:=Lib.hid (HG.out.below HB4.out (Nat.le_refl _))
 have DW:Hid (Calls Tryz.prog 13 #[.pointer (some ⟨b,0,none⟩),.int .i64 (r:Int),.int .i64 0] w4 (WngR w4)):=wrong_cb (b:=b) (c:=c) HN.out 2 r 0 w4 (by omega) hr HP.out.wr hG4.out (fun w' h=>(hI4.out.below h).cells.1)
 go_upto_region 11 with(go_at_call 13;((with_reducible refine DW.out.mono ?_));rintro e w5 ⟨rfl,hb5⟩)
 have h1e:=Lib.hid (h1d.out.keep hb5)
 have hq5:=Lib.hid (hq4.out.keep hb5)
 have HB5:=Lib.hid (HB4.out.trans (hb5.mono (by have:=h1d.out.lt;omega)))
 have hI5:=Lib.hid (hI4.out.below hb5)
 clear x1 h1d hq4 HB4 hG4 DW hb5 hI4
 have hG5:=Lib.hid (HG.out.below HB5.out (Nat.le_refl _))
 have x1:=h1e.out.cell' (i:=1) rfl
 have DE:=Lib.hid (entries_cb (c:=c) (o:=o) HN.out hr (by rw [HND.out];exact HE.out) (a:=[]) (by decide) w5 (HD.out.keepB (by exact HB5.out) hdl) hdl hG5.out hI5.out)
 rw [HND.out] at DE
 obtain⟨rs,hrs⟩:∃rs,rstI nodes nd (ordI nodes nd)=rs:=⟨_,rfl⟩
 have HRS:=Lib.hid hrs
 rw [hrs] at DE
 clear hrs
 go_upto_region 12 with(go_at_call 14;((with_reducible refine DE.out.mono ?_));rintro e w6 ⟨v6,rfl,hrow6,hS6⟩;obtain⟨Ar,cr,rfl,hcr1,hcr2⟩:=own_slice hrow6)
 have hrm:rs.length≤12:=by
  rw [←HRS.out]
  unfold rstI
  have h1:=List.length_filter_le (fun i=>!isTx nodes nd i) (ordI nodes nd)
  rw [ordI_len,HE.out.len,HM.out] at h1
  omega
 have hROW:=Lib.hid hrow6
 have HB6:=Lib.hid (HB5.out.trans hS6.2.1)
 have hbq:qb≠b:=by omega
 have hbg:gb≠b:=by omega
 have hq6:=Lib.hid (hq5.out.othersI hS6.2.2 hbq (by decide))
 have h16:=Lib.hid (h1e.out.othersI hS6.2.2 hbg (by decide))
 have hS0:Hid (IpS gb b (.slice (some ⟨g,o,none⟩) n c) (.int .i64 (r:Int)) w6 w6 (outT nodes nd 0)):=IpS.start hS6.1
 have lb5:b<w5.heap.size:=hI5.out.lt
 clear hS6 hrow6 hI5 hq5 h1e hG5 x1 HB5 DE hcr1
 obtain⟨L,hL⟩:∃L,rs.length=L:=⟨_,rfl⟩
 have HL:=Lib.hid hL
 rw [hL] at hrm ⊢
 clear hL
 go_loopw [39] (fun iv wr=>∃i:Nat,i≤L∧iv=.int .i64 (i:Int)∧Hid (IpS gb b (.slice (some ⟨g,o,none⟩) n c) (.int .i64 (r:Int)) w6 wr (outT nodes nd i))) (fun iv _=>L - (intOf iv).toNat)
 case atStart=>exact⟨0,Nat.zero_le _,rfl,hS0⟩
 case round=>
  clear hS0
  obtain⟨i,hi,rfl,hS⟩:=hrel
  have hlo:=HP.out.len i (by omega)
  rw [HND.out] at hlo
  by_cases hiL:i=L
  ·have hi':¬(i:Int)<L:=by omega
   have hall:=HP.out.all
   rw [HND.out,HRS.out,HL.out,←hiL] at hall
   rw [hall] at hS hlo
   have hne:=HP.out.ne
   have hby:=HP.out.by_
   have DB:=Lib.hid (fun w'=>bounded_cb (t:=out) (by omega) w')
   have DS:Hid (Calls Tryz.prog 20 #[.pointer (some ⟨b,0,none⟩)] wr fun e w'=>e=.returned (.string (mks out))∧Below gb wr w'):=by
    have hne2:out.map UInt8.ofNat≠[]:=by simpa using hne
    have hs1:=hS.out.1
    rw [show B8 out=Lib.byteCells (out.map UInt8.ofNat) from(str_B8i hby).symm] at hs1
    rcases hs1 with h | h
    ·exact(ip_text gb b _ _ _ _ wr h hne2).mono (fun e w' h=>⟨h.1,h.2.1⟩)
    ·exact(ip_text gb b _ _ _ _ wr h hne2).mono (fun e w' h=>⟨h.1,h.2.1⟩)
   have HB9:=Lib.hid (HB6.out.trans hS.out.2.1)
   clear hall hS hlo hne hby hiL
   go_wp2_with (first | (go_at_call 20;((with_reducible refine DS.out.mono ?_));rintro e w8 ⟨rfl,hb8⟩) | (go_at_call 19;((with_reducible refine(DB.out _).mono ?_));rintro e w9 ⟨rfl,hb9⟩))
   go_ret2
   exact⟨rfl,by rw [HGB.out];exact(HB9.out.trans hb8).trans (hb9.mono (by have:=HB9.out.size;have:=hb8.size;have:=HGB.out;omega))⟩
  ·have hi':(i:Int)<L:=by omega
   have i0:(0:Int)≤i:=by omega
   obtain⟨x,hx,hxm⟩:∃x:Nat,rs[i]? = some (x:Int)∧x<m:=by
    have hr:InR m rs:=by
     rw [←HRS.out]
     have h:=rstI_in (nodes:=nodes) (nd:=nd) (ordI_in nodes nd)
     rw [HE.out.len,HM.out] at h
     exact h
    exact InR_get hr (by rw [HL.out];omega)
   have hrow:=Lib.hid (own_othersI hROW.out hS.out.2.2 (fun e=>by have:=(hROW.out.lt b e).1;omega))
   obtain⟨ga,ca,hva,_,_⟩:=own_slice0 hrow.out (by rw [HL.out];omega)
   obtain rfl:Ar=some ⟨ga,0,none⟩:=by injection hva
   clear hva
   have l0:=(own_cell hrow.out (I64_get hx)).1
   have hxin:(x:Int)∈rs:=List.mem_of_getElem? hx
   have hE2:=HP.out.ent2 (x:Int) (by rw [HND.out,HRS.out];exact hxin)
   rw [HND.out] at hE2
   have hor:(x:Int)∈ordI nodes nd:=by rw [←HRS.out] at hxin;exact(List.mem_filter.1 hxin).1
   obtain⟨z,hz⟩:∃z,nd.items[x]? = some z:=⟨_,List.getElem?_eq_getElem (by rw [HM.out];exact hxm)⟩
   obtain⟨z0,z1,_,_⟩:=HE.out.itm z (List.mem_of_getElem? hz)
   obtain⟨q,rfl⟩:∃q:Nat,z=(q:Int):=⟨z.toNat,by omega⟩
   obtain⟨y,hy⟩:∃z,nd.keys[x]? = some z:=⟨_,List.getElem?_eq_getElem (by rw [HE.out.len,HM.out];exact hxm)⟩
   obtain⟨y0,y1,yB,yl⟩:=HE.out.key y (List.mem_of_getElem? hy)
   obtain⟨j,rfl⟩:∃q:Nat,y=(q:Int):=⟨y.toNat,by omega⟩
   rw [Int.toNat_natCast] at yB yl
   have hq:q<n:=by have:=HN.out;omega
   have hj:j<n:=by have:=HN.out;omega
   have hitq:itmI nodes nd (x:Int)=ndAt nodes q:=by unfold itmI;rw [Int.toNat_natCast,List.getD_eq_getElem?_getD,hz];rfl
   have hkt:keyT nodes nd (x:Int)=(ndAt nodes j).text:=by unfold keyT;rw [Int.toNat_natCast,List.getD_eq_getElem?_getD,hy];rfl
   obtain⟨kt,hkt2⟩:∃kt,(ndAt nodes j).text=kt:=⟨_,rfl⟩
   rw [hkt2] at hkt yB yl
   rw [hitq] at hE2
   obtain⟨ot,hot⟩:∃ot,outT nodes nd i=ot:=⟨_,rfl⟩
   obtain⟨a1,ha1⟩:∃a1,(if ot.length=0 then ot else ot ++ [10])=a1:=⟨_,rfl⟩
   have hsucc:outT nodes nd (i+1)=(a1 ++ (91 :: (keyI kt ++ [93,10]))) ++ entsT nodes (ndAt nodes q) (ordI nodes (ndAt nodes q)):=by
    rw [outT_succ (by rw [HRS.out];exact hx)]
    unfold secI
    rw [hkt,hitq,hot,ha1]
   rw [hot] at hS hlo
   have HSUC:=Lib.hid hsucc
   have hal:a1.length≤60001:=by rw [←ha1];split;omega;rw [List.length_append,List.length_singleton];omega
   have HQ:=Lib.hid hq
   have HJ:=Lib.hid hj
   have HE2:=Lib.hid hE2
   have HZ:=Lib.hid (I64_get hz)
   have HY:=Lib.hid (I64_get hy)
   have HKT:=Lib.hid hkt2
   have HOT:=Lib.hid hot
   have HA1:=Lib.hid ha1
   have x0:(0:Int)≤x:=by omega
   have x1:(x:Int)<m:=by omega
   have hbz:gb≤wr.heap.size:=by have:=hS.out.2.1.size;have:=HB6.out.size;have:=HGB.out;omega
   have k1:=(keyI_len yB).2
   have lkt:(keyI kt).length≤6002:=by omega
   have DL:Hid (Calls Tryz.prog 15 #[.pointer (some ⟨b,0,none⟩)] wr fun e w'=>e=.returned (.int .i64 (ot.length:Int))∧w'=wr):=by
    rcases hS.out.1 with h | h
    ·have h:=ip_len gb b _ _ _ _ wr h;rw [length_B8] at h;exact h
    ·have h:=ip_len gb b _ _ _ _ wr h;rw [length_B8] at h;exact h
   have DY:Hid (0<ot.length→Calls Tryz.prog 16 #[.pointer (some ⟨b,0,none⟩),.int .u8 10] wr fun e w'=>e=.returned .nilIface∧Hid (IpS gb b (.slice (some ⟨g,o,none⟩) n c) (.int .i64 (r:Int)) w6 w' a1)):=fun hp=>
    (ip_byte gb b _ _ (B8 ot) 10 wr hS.out.1 (by rw [length_B8];omega) hbz).mono (by
     rintro e w' ⟨rfl,hu,hb2,ho2⟩
     refine⟨rfl,?_⟩
     rw [←ha1,if_neg (by omega)]
     exact⟨.inr (by rw [B8_append];exact hu),hS.out.2.1.trans hb2,Lib.OthersKept.trans hS.out.2.2 ho2⟩)
   have hdec:(¬(0:Int)<ot.length∧Hid (IpS gb b (.slice (some ⟨g,o,none⟩) n c) (.int .i64 (r:Int)) w6 wr a1))∨((0:Int)<ot.length∧Hid (0<ot.length)):=by
    by_cases h0:ot.length=0
    ·refine .inl ⟨by omega,?_⟩
     rw [if_pos h0] at ha1
     rw [←ha1]
     exact hS
    ·exact .inr ⟨by omega,Lib.hid (by omega)⟩
   clear hx hxin hor hz hy hE2 hq hj hitq hkt hkt2 hsucc hot ha1 hrow k1 z0 z1 y0 y1 hS hlo
   rcases hdec with⟨hpos,HS9⟩ | ⟨hpos,HPO⟩
   all_goals
    go_upto_region 16 with(first | (go_at_call 15;((with_reducible refine DL.out.mono ?_));rintro e w8 ⟨rfl,hw8⟩;subst hw8) | (go_at_call 16;((with_reducible refine(DY.out HPO.out).mono ?_));rintro e w8 ⟨rfl,HS9⟩))
    obtain⟨w9,hw9⟩:∃x,x=w8:=⟨_,rfl⟩
    subst hw9
    clear DL DY hpos
    have hs9:=HS9.out.2.1.size
    have hlb9:b<w9.heap.size:=HS9.out.1.lt
    have HG9:=Lib.hid (HG.out.below (HB6.out.trans HS9.out.2.1) (Nat.le_refl _))
    have hbz9:gb≤w9.heap.size:=HG9.out.2.1
    have hq9:=Lib.hid (hq6.out.othersI HS9.out.2.2 hbq (by decide))
    have h19:=Lib.hid (h16.out.othersI HS9.out.2.2 hbg (by decide))
    obtain⟨aK,hK,_⟩:=HRK.out.at_ HY.out
    have R1:∀w',SI9 gb b (.slice (some ⟨g,o,none⟩) n c) w9 w'→w'.cell? ⟨gb,0,none⟩=some (.slice (some ⟨g,o,none⟩) n c):=fun w' h=>(h19.out.othersI h.2.1 hbg (by decide)).cell' (i:=0) rfl
    have R2:∀w',SI9 gb b (.slice (some ⟨g,o,none⟩) n c) w9 w'→w'.cell? ⟨qb,3,none⟩=some (.slice (some aK) m ck):=fun w' h=>by rw [←hK];exact(hq9.out.othersI h.2.1 hbq (by decide)).cell' (i:=3) rfl
    have R3:∀w',SI9 gb b (.slice (some ⟨g,o,none⟩) n c) w9 w'→w'.cell? (aK.add x)=some (.int .i64 (j:Int)):=fun w' h=>by
     obtain⟨aK',e,hc⟩:=(HRK.out.below (HB6.out.trans (HS9.out.2.1.trans h.1)) HBK.out).at_ HY.out
     rw [hK] at e
     obtain rfl:=Option.some.inj e
     exact hc
    have R4:∀w',SI9 gb b (.slice (some ⟨g,o,none⟩) n c) w9 w'→w'.cell? ⟨g,o+j*5+1,none⟩=some (.string (mks kt)):=fun w' h=>by
     obtain⟨_,_,_,_,_,h1,_⟩:=(HG9.out.below h.1 (Nat.le_refl _)).of_at (i:=j) (by rw [HN.out];exact HJ.out)
     rw [←HKT.out]
     exact h1
    have hS0:SI9 gb b (.slice (some ⟨g,o,none⟩) n c) w9 w9.drew:=⟨(Below.refl _ _).drew,Lib.OthersKept.refl _ _ _,HS9.out.1.cells.1⟩
    have hJ0:IpS gb b (.slice (some ⟨g,o,none⟩) n c) (.int .i64 (r:Int)) w6 w9.drew a1:=HS9.out.calm (Below.drew (Below.refl _ _))
    have D1:Hid (∀w',SI9 gb b (.slice (some ⟨g,o,none⟩) n c) w9 w'→Calls Tryz.prog 18 #[.string (mks kt)] w' fun e w2=>e=.returned (.string (mks (keyI kt)))∧Below w'.heap.size w' w2):=fun w' h=>keyForm_cb yB (by omega) w' (HD.out.keepB (HB6.out.trans (HS9.out.2.1.trans h.1)) hdl)
    have D3:Hid (∀w',SI9 gb b (.slice (some ⟨g,o,none⟩) n c) w9 w'→IpS gb b (.slice (some ⟨g,o,none⟩) n c) (.int .i64 (r:Int)) w6 w' a1→Calls Tryz.prog 17 #[.pointer (some ⟨b,0,none⟩),.string (mks (91 :: (keyI kt ++ [93,10])))] w' fun e w2=>e=.returned (.tuple #[.int .i64 (mks (91 :: (keyI kt ++ [93,10]))).size,.nilIface])∧SI9 gb b (.slice (some ⟨g,o,none⟩) n c) w9 w2∧Hid (IpS gb b (.slice (some ⟨g,o,none⟩) n c) (.int .i64 (r:Int)) w6 w2 (a1 ++ (91 :: (keyI kt ++ [93,10]))))):=fun w' h hJ=>
     (ip_string gb b _ _ (B8 a1) (mks (91 :: (keyI kt ++ [93,10]))) w' hJ.1 (by rw [length_B8,size_mks,List.length_cons,List.length_append];show _+(_+2+1)≤_;omega) (Nat.le_trans hbz9 h.1.size)).mono (by
      rintro e w2 ⟨rfl,hu,hb2,ho2⟩
      have hJ2:=hJ.wrote hu hb2 ho2 (By.cons (by decide) ((keyI_by yB).append (By.cons (by decide) (By.cons (by decide) By.nil))))
      exact⟨rfl,⟨h.1.trans hb2,Lib.OthersKept.trans h.2.1 ho2,hJ2.1.cells.1⟩,hJ2⟩)
    have lj0:(0:Int)≤j:=by omega
    have lj1:(j:Int)<n:=by have:=HJ.out;omega
    have lBw:=Lib.hid hbz9
    clear hq9 h19 hK HG9 hbz l0 yB yl
    rw [kbin_eq BinOp.add 9 (.const (.string ⟨#[91]⟩)),kbin_eq BinOp.add 9 (.tmp 66)]
    go_region_held3 (SI9 gb b (.slice (some ⟨g,o,none⟩) n c) w9) (first | assumption) (first
     | (go_at_call 18;((with_reducible refine(D1.out _ (by assumption)).mono ?_));rintro e w10 ⟨rfl,hb10⟩;have hS10:=SI9.calm (by assumption) hb10 lBw.out hlb9;have hJ10:IpS gb b (.slice (some ⟨g,o,none⟩) n c) (.int .i64 (r:Int)) w6 w10 a1:=IpS.calm (by assumption) hb10;clear hb10)
     | (go_at_call 17;((with_reducible refine(D3.out _ (by assumption) (by assumption)).mono ?_));rintro e w11 ⟨rfl,hS11,hJ11⟩))
    all_goals
     have HJ11:=Lib.hid hJ11.out
     have HG11:=Lib.hid (HG.out.below (HB6.out.trans hJ11.out.2.1) (Nat.le_refl _))
     have hq11:=Lib.hid (hq6.out.othersI hJ11.out.2.2 hbq (by decide))
     obtain⟨aI,hI,hcI⟩:=(HRI.out.below (HB6.out.trans hJ11.out.2.1) HBI.out).at_ HZ.out
     have n4:w11.cell? ⟨qb,4,none⟩=some (.slice (some aI) m ci):=by rw [←hI];exact hq11.out.cell' (i:=4) rfl
     have DE:=Lib.hid (entries_cb (c:=c) (o:=o) (a:=a1 ++ (91 :: (keyI kt ++ [93,10]))) HN.out HQ.out HE2.out (by rw [List.length_append,List.length_cons,List.length_append];show _+(_+2+1)≤_;omega) w11 (HD.out.keepB (HB6.out.trans hJ11.out.2.1) hdl) hdl HG11.out hJ11.out.1)
     clear hI hq11 hJ11 hS11 HG11 hJ0 hS0 R1 R2 R3 R4 D1 D3
     go_wp2_with (go_at_call 14;((with_reducible refine DE.out.mono ?_));rintro e w12 ⟨v12,rfl,_,hS12⟩;have HS12:=Lib.hid (HJ11.out.trans hS12);clear hS12)
     go_roundw
     case rel=>exact⟨i+1,by omega,i64e (by omega),by rw [HSUC.out];exact HS12.out⟩
     case measure=>simp [intOf];omega
end Go.Proofs.YtnnnagnjikdnnaaGreatDoor
namespace Go.Proofs.YtnnnagnjikdnnaaGreatDoor
open Go.RowKit
theorem ints_none (w:World):IntsRd w (fun _=>True) none 0 []:=⟨rfl,Rd.nil,fun _ e=>by cases e⟩
def TextR (s:List Nat) (w:World) (e:Ending) (w':World):Prop:=∃nb,e=.returned (.agg #[.slice (some ⟨nb,0,none⟩) 1 1,.int .i64 0])∧Below w.heap.size w w'∧GK w' nb [tN s]
set_option maxRecDepth 20000 in
set_option maxHeartbeats 4000000 in
theorem ltext_cb (s:List Nat) (w:World):Calls Tryz.prog 6 #[.string (mks s)] w (TextR s w):=by
 go_enter Tryz.func6,Tryz.ntmps6
 go_wp2_with (fail)
 obtain⟨g1,g2,hb,_⟩:=two_box w 26 30 [.slice (some ⟨w.heap.size+1,0,none⟩) 1 1,.int .i64 0] [.int .i64 5,.string (mks s),.bool false,.slice none 0 0,.slice none 0 0]
 change Hid (Arr ((w.alloc (.cells #[.slice (some ⟨w.heap.size+1,0,none⟩) 1 1,.int .i64 0] 26)).alloc (.cells #[.int .i64 5,.string (mks s),.bool false,.slice none 0 0,.slice none 0 0] 30)) _ _ _) at g1
 change Hid (Arr ((w.alloc (.cells #[.slice (some ⟨w.heap.size+1,0,none⟩) 1 1,.int .i64 0] 26)).alloc (.cells #[.int .i64 5,.string (mks s),.bool false,.slice none 0 0,.slice none 0 0] 30)) _ _ _) at g2
 change Below w.heap.size w ((w.alloc (.cells #[.slice (some ⟨w.heap.size+1,0,none⟩) 1 1,.int .i64 0] 26)).alloc (.cells #[.int .i64 5,.string (mks s),.bool false,.slice none 0 0,.slice none 0 0] 30)) at hb
 generalize ((w.alloc (.cells #[.slice (some ⟨w.heap.size+1,0,none⟩) 1 1,.int .i64 0] 26)).alloc (.cells #[.int .i64 5,.string (mks s),.bool false,.slice none 0 0,.slice none 0 0] 30))=w2 at *
 have p0:=g1.out.cell' (i:=0) rfl
 have p1:=g1.out.cell' (i:=1) rfl
 refine bodyPost_ret (v:=.agg #[.slice (some ⟨w.heap.size+1,0,none⟩) 1 1,.int .i64 0]) (by simp [results,Tryz.results6,go_sem,p0,p1]) rfl ?_
 refine⟨w.heap.size+1,rfl,hb,gk_arr g2.out ⟨rfl,fun i nd hi=>?_⟩⟩
 have h0:i=0:=by have:=(List.getElem?_eq_some_iff.1 hi).1;simp at this;exact this
 subst h0
 obtain rfl:tN s=nd:=by simpa using hi
 exact⟨none,0,0,none,0,0,rfl,ints_none _,ints_none _⟩
theorem aiLit:valI [1] = [34,92,117,123,49,125,34]:=by decide
set_option maxRecDepth 20000 in
set_option maxHeartbeats 8000000 in
theorem awake31_true (w:World) (hw:LibE w) (hd:DB16 w):Calls Tryz.prog 4 #[] w fun e w'=>e=.returned (.bool true)∧Below w.heap.size w w':=by
 have D1:Hid (∀W,LibE W→Calls Tryz.prog 11 #[.string ⟨#[123,34,97,34,61,34,34,44,34,98,34,61,34,49,32,59,32,50,34,44,34,115,34,61,123,34,120,32,121,34,61,34,32,122,34,125,125]⟩] W (PKeyR aiN W)):=fun W hW=>by
  have h:=kparsekey_any aiS_by (by decide) rfl aiN_val (by decide) aiN_key W hW
  rw [show mks aiS=⟨#[123,34,97,34,61,34,34,44,34,98,34,61,34,49,32,59,32,50,34,44,34,115,34,61,123,34,120,32,121,34,61,34,32,122,34,125,125]⟩ by kernel_rfl] at h
  exact h
 have D2:Hid (∀g c W,LibE W→DB16 W→GRd W W.heap.size g 0 aiN→Calls Tryz.prog 7 #[.agg #[.slice (some ⟨g,0,none⟩) aiN.length c,.int .i64 0]] W fun e w'=>e=.returned (.tuple #[.string ⟨#[97,32,61,32,34,34,10,98,32,61,32,49,32,59,32,50,10,10,91,115,93,10,34,120,32,121,34,32,61,32,34,32,122,34,10]⟩,.int .i64 0])∧Below W.heap.size W w'):=fun g c W hW hD hG=>by
  have h:=print_cb (c:=c) (r:=0) rfl aiN_print W hW hD hG
  unfold PrintR at h
  rw [show mks aiO=⟨#[97,32,61,32,34,34,10,98,32,61,32,49,32,59,32,50,10,10,91,115,93,10,34,120,32,121,34,32,61,32,34,32,122,34,10]⟩ by kernel_rfl] at h
  exact h
 have D3:Hid (∀W,Calls Tryz.prog 6 #[.string ⟨#[1]⟩] W (TextR [1] W)):=fun W=>ltext_cb [1] W
 have D4:Hid (∀g c W,LibE W→DB16 W→GRd W W.heap.size g 0 [tN [1]]→Calls Tryz.prog 8 #[.agg #[.slice (some ⟨g,0,none⟩) 1 c,.int .i64 0]] W fun e w'=>e=.returned (.tuple #[.string ⟨#[34,92,117,123,49,125,34]⟩,.int .i64 0])∧Below W.heap.size W w'):=fun g c W hW hD hG=>by
  have h:=literal_ok (c:=c) (s:=[1]) (By.cons (by decide) By.nil) (by decide) (VU.ascii (m:=[1]) (by decide) VU.nil) W hW hD hG
  rw [aiLit,show mks [34,92,117,123,49,125,34]=⟨#[34,92,117,123,49,125,34]⟩ by kernel_rfl] at h
  exact h
 have HW:=Lib.hid hw
 have HD:=Lib.hid hd
 clear hw hd
 go_enter Tryz.func4,Tryz.ntmps4
 go_upto_region 2 with(go_at_call 11;((with_reducible refine(D1.out _ HW.out).mono ?_));rintro e w1 ⟨g,c,rfl,hb1,hK1⟩;have HB1:=Lib.hid hb1;have HK1:=Lib.hid hK1;clear hb1 hK1)
 have hn2:Hid (Arr (w1.alloc (.cells #[.slice (some ⟨g,0,none⟩) aiN.length c,.int .i64 0] 26)) w1.heap.size 26 [.slice (some ⟨g,0,none⟩) aiN.length c,.int .i64 0]):=Arr.new w1 _ _
 have hbA:Below w1.heap.size w1 (w1.alloc (.cells #[.slice (some ⟨g,0,none⟩) aiN.length c,.int .i64 0] 26)):=(Below.refl _ _).alloc (Nat.le_refl _) _
 have HB2:=Lib.hid (HB1.out.trans (hbA.mono HB1.out.size))
 have HK2:=Lib.hid (HK1.out.step (KFr.below hbA))
 generalize (w1.alloc (.cells #[.slice (some ⟨g,0,none⟩) aiN.length c,.int .i64 0] 26))=w2 at *
 have DP:=Lib.hid (D2.out g c w2 (HW.out.keep HB2.out) (HD.out.keep HB2.out) HK2.out.rd)
 have n0:=hn2.out.cell' (i:=0) rfl
 have n1:=hn2.out.cell' (i:=1) rfl
 clear HB1 HK1 hbA D1 D2
 go_upto_region 3 with(go_at_call 7;((with_reducible refine DP.out.mono ?_));rintro e w3 ⟨rfl,hb3⟩)
 have HB3:=Lib.hid (HB2.out.trans (hb3.mono HB2.out.size))
 clear n0 n1 hn2 HK2 DP hb3
 go_wp2_with (first
  | (go_at_call 6;((with_reducible refine(D3.out _).mono ?_));rintro e w4 ⟨nb,rfl,hb4,hK4⟩;have HB4:=Lib.hid (HB3.out.trans (hb4.mono HB3.out.size));have DL:=Lib.hid (D4.out nb 1 w4 (HW.out.keep HB4.out) (HD.out.keep HB4.out) hK4.rd);clear hb4 hK4)
  | (go_at_call 8;((with_reducible refine DL.out.mono ?_));rintro e w5 ⟨rfl,hb5⟩))
 go_ret
 exact⟨rfl,HB4.out.trans (hb5.mono HB4.out.size)⟩
end Go.Proofs.YtnnnagnjikdnnaaGreatDoor
namespace Go.Proofs.YtnnnagnjikdnnaaGreatDoor
open Go.RowKit
section
variable {k v:List Nat}
theorem nodesI_rst:rstI (nodesI k v) (ndAt (nodesI k v) 0) (ordI (nodesI k v) (ndAt (nodesI k v) 0)) = [0]:=by kernel_rfl
theorem nodesI_ord:ordI (nodesI k v) (ndAt (nodesI k v) 0) = [0]:=by kernel_rfl
theorem nodesI_ord2:ordI (nodesI k v) (ndAt (nodesI k v) 2) = [0]:=by kernel_rfl
theorem nodesI_out0:outT (nodesI k v) (ndAt (nodesI k v) 0) 0 = []:=by rw [outT_zero,nodesI_ord];rfl
theorem nodesI_sec:secI (nodesI k v) (ndAt (nodesI k v) 0) [] 0=srcI k v:=by
 unfold secI
 rw [show itmI (nodesI k v) (ndAt (nodesI k v) 0) 0=ndAt (nodesI k v) 2 from rfl,nodesI_ord2]
 rw [show keyT (nodesI k v) (ndAt (nodesI k v) 0) 0=k from rfl]
 rw [show entsT (nodesI k v) (ndAt (nodesI k v) 2) [0]=keyI k ++ [32,61,32] ++ valI v ++ [10] from by
  unfold entsT
  rw [List.filter_cons,if_pos (by rfl),List.filter_nil,List.flatMap_cons,List.flatMap_nil,List.append_nil]
  rfl]
 unfold srcI
 simp
theorem nodesI_out {i:Nat} (h:0<i):outT (nodesI k v) (ndAt (nodesI k v) 0) i=srcI k v:=by
 unfold outT
 rw [nodesI_rst,nodesI_ord,List.take_of_length_le (by simp;omega)]
 exact nodesI_sec
theorem leaf_t {s:List Nat} (hs:By s) (hl:s.length≤1000):LeafT (tN s):=⟨t1_ck hs hl,rfl,rfl,rfl,rfl⟩
theorem nodesI_print (hk:By k) (hv:By v) (uk:VU k) (uv:VU v) (lk:k.length≤1000) (lv:v.length≤1000):PrtI (nodesI k v) 0 (srcI k v) where
 tree:={
  chk:=nodesI_ck hk hv lk lv
  lt:=show 0<5 by decide
  chk0:=nodesI_chk uk uv
  up:=fun i hi=>nodesI_cases (P:=fun nd i=>∀x∈nd.items,(i:Int)<x∧x<(5:Int)) hi (by decide) (fun x hx=>by cases hx) (by decide) (fun x hx=>by cases hx) (fun x hx=>by cases hx)
  srt:=fun i hi=>nodesI_cases (P:=fun nd _=>nd.kind=10→SortN (nodesI k v) nd) hi
   (fun _=>⟨rfl,fun x hx=>by
    simp only [List.mem_cons,List.not_mem_nil,or_false] at hx
    subst hx
    exact⟨by decide,show(1:Int)<5 by decide,leaf_t hk lk⟩⟩) (fun h=>by cases h)
   (fun _=>⟨rfl,fun x hx=>by
    simp only [List.mem_cons,List.not_mem_nil,or_false] at hx
    subst hx
    exact⟨by decide,show(3:Int)<5 by decide,leaf_t hk lk⟩⟩) (fun h=>by cases h) (fun h=>by cases h)
  one:=fun j=>by
   have h:(countsI (nodesI k v) ((0:Nat):Int)).all (fun x=>decide (x≤1))=true:=by kernel_rfl
   rw [List.getD_eq_getElem?_getD]
   cases hc:(countsI (nodesI k v) ((0:Nat):Int))[j]? with
   | none=>simp
   | some x=>exact of_decide_eq_true (List.all_eq_true.1 h x (List.mem_of_getElem? hc)) }
 k10:=rfl
 wr:=.inr ⟨rfl,rfl,rfl,show 1≤12 by decide,fun z hz=>by
   simp only [show(ndAt (nodesI k v) 0).keys = [1] from rfl,List.mem_cons,List.not_mem_nil,or_false] at hz
   subst hz
   exact⟨by decide,show(1:Int)<5 by decide,rfl⟩,fun z hz=>by
   simp only [show(ndAt (nodesI k v) 0).items = [2] from rfl,List.mem_cons,List.not_mem_nil,or_false] at hz
   subst hz
   refine⟨by decide,show(2:Int)<5 by decide,.inr ⟨rfl,rfl,rfl,show 1≤12 by decide,fun z hz=>?_,fun z hz=>?_⟩⟩
   ·simp only [show(ndAt (nodesI k v) (2:Int).toNat).keys = [3] from rfl,List.mem_cons,List.not_mem_nil,or_false] at hz
    subst hz
    exact⟨by decide,show(3:Int)<5 by decide,rfl⟩
   ·simp only [show(ndAt (nodesI k v) (2:Int).toNat).items = [4] from rfl,List.mem_cons,List.not_mem_nil,or_false] at hz
    subst hz
    exact⟨by decide,show(4:Int)<5 by decide,rfl⟩⟩
 ent:={
  len:=rfl
  few:=show 1≤12 by decide
  key:=fun z hz=>by
   simp only [show(ndAt (nodesI k v) 0).keys = [1] from rfl,List.mem_cons,List.not_mem_nil,or_false] at hz
   subst hz
   exact⟨by decide,show(1:Int)<5 by decide,hk,lk⟩
  itm:=fun z hz=>by
   simp only [show(ndAt (nodesI k v) 0).items = [2] from rfl,List.mem_cons,List.not_mem_nil,or_false] at hz
   subst hz
   exact⟨by decide,show(2:Int)<5 by decide,By.nil,Nat.zero_le _⟩ }
 ent2:=fun x hx=>by
  rw [nodesI_rst] at hx
  simp only [List.mem_cons,List.not_mem_nil,or_false] at hx
  subst hx
  exact {
   len:=rfl
   few:=show 1≤12 by decide
   key:=fun z hz=>by
    simp only [show(itmI (nodesI k v) (ndAt (nodesI k v) 0) 0).keys = [3] from rfl,List.mem_cons,List.not_mem_nil,or_false] at hz
    subst hz
    exact⟨by decide,show(3:Int)<5 by decide,hk,lk⟩
   itm:=fun z hz=>by
    simp only [show(itmI (nodesI k v) (ndAt (nodesI k v) 0) 0).items = [4] from rfl,List.mem_cons,List.not_mem_nil,or_false] at hz
    subst hz
    exact⟨by decide,show(4:Int)<5 by decide,hv,lv⟩ }
 len:=fun i _=>by
  by_cases h:0<i
  ·rw [nodesI_out h]
   have h1:=(keyI_len hk).2
   have h2:=(valI_len hv).2
   unfold srcI
   simp only [List.length_cons,List.length_append,List.length_nil]
   omega
  ·obtain rfl:i=0:=by omega
   rw [nodesI_out0]
   decide
 all:=by rw [nodesI_rst];exact nodesI_out (by decide)
 ne:=by unfold srcI;simp
 by_:=srcI_by hk hv
end
end Go.Proofs.YtnnnagnjikdnnaaGreatDoor
