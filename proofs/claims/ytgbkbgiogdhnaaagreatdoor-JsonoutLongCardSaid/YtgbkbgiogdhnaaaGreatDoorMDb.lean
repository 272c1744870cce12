/- The walk of jsonout's content. -/
import Derived.Test.YtgbkbgiogdhnaaaGreatDoorMCj
import Derived.IntWalk
set_option linter.unusedVariables false
set_option linter.unusedSimpArgs false
set_option linter.defProp false
set_option linter.constructorNameAsVariable false
namespace Go.Proofs.YtgbkbgiogdhnaaaGreatDoor
open Go.RowKit
set_option maxRecDepth 100000 in
set_option maxHeartbeats 32000000 in
theorem content_m {w0:World} {Bp b g o c k f op:Nat} {nodes:List GNode} {root:Int} {lit:Bool} {dec:List Nat→List Nat} {a t:List Nat} {K I:Option Addr} {ck ci:Nat} (hOK:PrtOK nodes) (hIH:NodeP w0 Bp b g o c nodes root lit dec f) (hk:k<nodes.length) (hkd:(ndAt nodes k).kind=10) (hop:op+(f+1)≤3) (hcont:contP (fun i=>printP nodes dec (ordP nodes) lit f i (op+1)) nodes (ndAt nodes k) lit op (ordP nodes k) 123 125=.ok t) (hlen:a.length+t.length≤4294967296) (w:World) (hbe:Below Bp w0 w) (hG:GRd w Bp g o nodes)
  (hKr:Rd w K (I64 (ndAt nodes k).keys)) (hKb:∀ad,K=some ad→ad.block<Bp) (hIr:Rd w I (I64 (ndAt nodes k).items)) (hIb:∀ad,I=some ad→ad.block<Bp) (hP:PrF Bp b (.slice (some ⟨g,o,none⟩) nodes.length c) (.int .i64 root) (.bool lit) (B8 a) w) :
  Calls Tryz.prog 74 #[.pointer (some ⟨b,0,none⟩),.agg #[.int .i64 10,.string (mks (ndAt nodes k).text),.bool (ndAt nodes k).ord,.slice K (ndAt nodes k).keys.length ck,.slice I (ndAt nodes k).items.length ci],.int .i64 (op:Int),.string ⟨#[123,125]⟩] w (ContR Bp b (.slice (some ⟨g,o,none⟩) nodes.length c) (.int .i64 root) lit w (a ++ t)):=by
 obtain⟨z,hz,htz⟩:=contP_ok hcont
 have HZ:=Lib.hid hz
 have HTZ:=Lib.hid htz
 have HIX:=Lib.hid (hOK.idx k hk)
 have HTX:=Lib.hid hOK.txt
 have HNl:=Lib.hid hOK.len
 have hIH:=Lib.hid hIH
 have HFW:=Lib.hid (hOK.few k hk)
 obtain⟨hlk,hli⟩:=hOK.nl k hk
 have hxl:Hid ((ordP nodes k).length=(ndAt nodes k).items.length):=ordP_len nodes k
 have hxi:Hid (InR (ndAt nodes k).items.length (ordP nodes k)):=ordP_in nodes k
 have HG:=Lib.hid hG
 have HKr:=Lib.hid hKr
 have HKb:=Lib.hid hKb
 have HIr:=Lib.hid hIr
 have HIb:=Lib.hid hIb
 have HP:=Lib.hid hP
 have hbe:=Lib.hid hbe
 have hord:Hid ((ndAt nodes k).kind≠10→ordP nodes k=rngI (ndAt nodes k).items.length):=fun h=>by unfold ordP;rw [if_neg h]
 have HKD:=Lib.hid hkd
 obtain⟨h1,h2,hb1,hz1⟩:=box2 w 62 43 [.pointer (some ⟨b,0,none⟩)] [.int .i64 10,.string (mks (ndAt nodes k).text),.bool (ndAt nodes k).ord,.slice K (ndAt nodes k).keys.length ck,.slice I (ndAt nodes k).items.length ci]
 have hbl:=hP.lt
 have hB1:=Lib.hid hb1
 have hBw:Bp≤w.heap.size:=hG.2.1
 clear hz htz hcont hOK hG hKr hKb hIr hIb hP hkd hb1
 go_enter Tryz.func74,Tryz.ntmps74
 go_upto_region 1 with(fail)
 generalize ((w.alloc (.cells #[.pointer (some ⟨b,0,none⟩)] 62)).alloc (.cells #[.int .i64 10,.string (mks (ndAt nodes k).text),.bool (ndAt nodes k).ord,.slice K (ndAt nodes k).keys.length ck,.slice I (ndAt nodes k).items.length ci] 43))=W at *
 obtain⟨pb,hpb⟩:∃x,w.heap.size=x:=⟨_,rfl⟩
 obtain⟨nb,hnb⟩:∃x,pb+1=x:=⟨_,rfl⟩
 have HPB:=Lib.hid hpb
 rw [hpb] at h1 h2 hB1 hbl hBw hz1 ⊢
 rw [hnb] at h2 ⊢
 have hnb2:pb<nb:=by omega
 clear hpb
 obtain⟨zz,hzz⟩:∃x,W.heap.size=x:=⟨_,rfl⟩
 have HZZ:=Lib.hid hzz
 have hnz:nb<zz:=by have:=h2.out.lt;omega
 have hzb:zz≤W.heap.size:=by omega
 clear hzz hz1 hnb
 generalize hnd:ndAt nodes k=nd at *
 have HND:=Lib.hid hnd
 clear hnd
 obtain⟨m,hm⟩:∃x,nd.items.length=x:=⟨_,rfl⟩
 have HM:=Lib.hid hm
 rw [hm] at h2 hxl hxi hord hli HFW
 have hkm:=Lib.hid (HFW.out HKD.out).2
 rw [hkm.out] at h2
 clear hm
 have n4:=h2.out.cell' (i:=4) rfl
 go_upto_region 3 with(fail)
 have hO0:Hid (W.ownsRow zz 3 1 (.slice none 0 0) 0 (I64 (rngI 0))):=World.ownsRow_nil _ _ _ _
 clear n4
 go_loopw [9,17] (fun sv v wr=>∃(i:Nat),i≤m∧v=.int .i64 (i:Int)∧Hid (wr.ownsRow zz 3 1 sv i (I64 (rngI i)))∧Hid (Below zz W wr)) (fun _ v _=>m - (intOf v).toNat)
 case atStart=>exact⟨0,Nat.zero_le _,rfl,hO0,Below.refl _ _⟩
 case round=>
  clear hO0
  obtain⟨i,hi,rfl,hOr,hBr⟩:=hrel
  obtain⟨A1,c1,hv1,_,_⟩:=own_slice hOr.out
  subst hv1
  have hbs:=hBr.out.size
  by_cases him:i=m
  ·have him':=him.symm
   subst him'
   have hi':¬(m:Int)<m:=by omega
   obtain⟨w2,hw2⟩:∃x:World,x=wr:=⟨_,rfl⟩
   subst hw2
   have hO2:=hOr
   have hB2:=hBr
   clear hOr hBr hi
   have h1a:=Lib.hid (h1.out.below hB2.out (by omega))
   have h2a:=Lib.hid (h2.out.below hB2.out hnz)
   have n0:=h2a.out.cell' (i:=0) rfl
   have hBw2:Hid (Below w.heap.size w w2):=by rw [HPB.out];exact hB1.out.trans (hB2.out.mono (by omega))
   have hF2:=HP.out.kept hBw2.out
   have hb2:w2.cell? ⟨b,2,none⟩=some (.slice (some ⟨g,o,none⟩) nodes.length c):=hF2.elim (fun h=>(PrAt.cells h).2.1) (fun h=>(PrAt.cells h).2.1)
   have DS:=Lib.hid (con_sort (A1:=A1) (c1:=c1) (ck:=ck) (b:=b) (pb:=pb) (nb:=nb) (zz:=zz) (K:=K) (m:=m) (B:=Bp) (g:=g) (o:=o) (c:=c) (k:=k) (nodes:=nodes) (rest:=[]) (by rw [HND.out];exact HKD.out) (by rw [HND.out];exact HM.out) (HFW.out HKD.out).1 (by rw [HND.out];exact hkm.out) (by rw [HND.out];exact fun q hq=>HIX.out q (by unfold refs;exact List.mem_append.2 (.inl hq))) w2 (HG.out.below hBw2.out (by rw [HPB.out];exact hBw)) (by rw [HND.out];exact HKr.out.below hBw2.out (fun ad e=>by rw [HPB.out];exact Nat.lt_of_lt_of_le (HKb.out ad e) hBw)) HKb.out (by omega) (h1a.out.cell' (i:=0) rfl) (h2a.out.cell' (i:=3) rfl) hb2 (by omega) hnz (by omega) (by have:=hB2.out.size;omega) hO2.out)
   clear hBw2 hF2 hb2
   go_upto_region 9 with(go_at_call 110;((with_reducible refine DS.out.mono ?_));rintro e w3 ⟨rfl,hB3',hO3'⟩)
   have hB3:=Lib.hid (hB2.out.trans hB3')
   have hO3:=Lib.hid hO3'
   clear hB2 hO2 hord hB3' hO3' DS
   have hpb3:=Lib.hid (h1.out.below hB3.out (by omega))
   have hnb3:=Lib.hid (h2.out.below hB3.out hnz)
   have hBw3:Hid (Below w.heap.size w w3):=by rw [HPB.out];exact hB1.out.trans (hB3.out.mono (by omega))
   have h3:Hid (Below Bp w w3):=hBw3.out.mono (by rw [HPB.out];exact hBw)
   have hF3:=Lib.hid (HP.out.kept hBw3.out)
   have ho3:Hid (Others b w w3):=fun q _ hq _ _=>(hBw3.out.block q (Array.getElem?_eq_some_iff.1 hq).1).trans hq
   have hpbb:pb≠b:=by omega
   have hnbb:nb≠b:=by omega
   have hBp3:Bp≤w3.heap.size:=by have:=hB3.out.size;omega
   have hobb:Hid ((Value.slice A1 m c1).ownBlock≠some b):=fun e=>by
    obtain⟨C,fz,hc⟩:=own_kind hO3.out e
    obtain⟨C',fz',hc'⟩:=hF3.out.kind
    exact absurd (cells_kind hc hc') (by decide)
   have pq0:w3.drew.cell? ⟨pb,0,none⟩=some (.pointer (some ⟨b,0,none⟩)):=hpb3.out.cell' (i:=0) rfl
   have hFd:PrF Bp b (.slice (some ⟨g,o,none⟩) nodes.length c) (.int .i64 root) (.bool lit) (B8 a) w3.drew:=hF3.out.elim (fun h=>.inl (PrAt.drew h)) (fun h=>.inr (PrAt.drew h))
   have hBp3d:Bp≤w3.drew.heap.size:=hBp3
   have hx1:(⟨#[123,125]⟩:ByteArray).extract 0 1=⟨#[123]⟩:=by rfl
   have hx1s:Lib.strCells ⟨#[123]⟩=B8 [123]:=by rfl
   have hls:(B8 a).length+(⟨#[123]⟩:ByteArray).size≤140737488355328:=by rw [len_B8];show _+1≤_;omega
   have HX1S:=Lib.hid hx1s
   have HLS:=Lib.hid hls
   clear hx1s hls hB3 h1 h2 hB1 h1a h2a n0 hi'
   go_region_held3 (fun w'=>w'.cell? ⟨pb,0,none⟩=some (.pointer (some ⟨b,0,none⟩))) (first | assumption | go_keep) ((go_at_call 16;((with_reducible refine(pr_string Bp b _ _ _ _ _ _ hFd HLS.out hBp3d).mono ?_));rintro e w4 ⟨rfl,hP4,hb4,hoo4⟩;have hI4:Hid (PrI Bp b (.slice (some ⟨g,o,none⟩) nodes.length c) (.int .i64 root) (.bool lit) w3 w4 (a ++ [123])):=⟨by rw [B8_append,←HX1S.out];exact hP4,(Below.refl Bp w3).drew.trans hb4,Lib.OthersKept.trans (Lib.OthersKept.drew (Lib.OthersKept.refl _ _ w3)) hoo4,Nat.le_trans hBp3 hb4.size⟩;have q40:=(hpb3.out.others hI4.out.2.2.1 hpbb (by decide)).cell' (i:=0) rfl))
   clear pq0 hFd hBp3d hx1 hP4 hb4 hoo4 q40
   have hz0:Hid (itemsP (fun i=>printP nodes dec (ordP nodes) lit f i (op+1)) nodes nd lit op ((ordP nodes k).drop 0) 0=.ok z):=by rw [List.drop_zero];exact HZ.out
   have hlz:a.length+z.length≤4294967294:=by
    have h:=congrArg List.length HTZ.out
    simp at h
    omega
   go_upto_region 11 with(fail)
   go_loopw [39] (fun v wr=>∃(i:Nat) (acc rest:List Nat),i≤m∧v=.int .i64 (i:Int)∧Hid (PrI Bp b (.slice (some ⟨g,o,none⟩) nodes.length c) (.int .i64 root) (.bool lit) w3 wr acc)∧Hid (itemsP (fun i=>printP nodes dec (ordP nodes) lit f i (op+1)) nodes nd lit op ((ordP nodes k).drop i) i=.ok rest)∧Hid (acc ++ rest=(a ++ [123]) ++ z)∧acc.length+rest.length≤4294967296) (fun v _=>m - (intOf v).toNat)
   case atStart=>exact⟨0,a ++ [123],z,Nat.zero_le _,rfl,hI4,hz0,rfl,by simp;omega⟩
   case round=>
    clear hI4 hz0
    obtain⟨i,acc,rest,hi,rfl,hI,hit,hacc,hal⟩:=hrel
    have pb0:=(hpb3.out.others hI.out.2.2.1 hpbb (by decide)).cell' (i:=0) rfl
    have hnwr:=Lib.hid (hnb3.out.others hI.out.2.2.1 hnbb (by decide))
    have nb0:=hnwr.out.cell' (i:=0) rfl
    have nb3:=hnwr.out.cell' (i:=3) rfl
    have nb4:=hnwr.out.cell' (i:=4) rfl
    have bl4:=(PrAt.cells hI.out.1).2.2.2
    have bl2:=(PrAt.cells hI.out.1).2.1
    by_cases him:i=m
    ·have hi':¬(i:Int)<m:=by omega
     have hr0:rest = []:=by
      have h:=hit.out
      rw [List.drop_of_length_le (by have:=hxl.out;omega)] at h
      injection h with h
      exact h.symm
     have hac2:Hid (acc=(a ++ [123]) ++ z):=by have h:=hacc.out;rw [hr0,List.append_nil] at h;exact h
     have hxy:(⟨#[123,125]⟩:ByteArray).extract 1 2=⟨#[125]⟩:=by rfl
     have hxys:Hid (Lib.strCells ⟨#[125]⟩=B8 [125]):=by show _=_;rfl
     clear hit hacc hr0
     by_cases hm0:m=0
     ·have hm1:¬(m:Int) > 0:=by omega
      have htv:Hid (t = [123] ++ z ++ [125]):=by
       show _=_
       rw [HTZ.out,List.eq_nil_of_length_eq_zero (hxl.out.trans hm0)]
       simp
      have hls2:Hid ((B8 acc).length+(⟨#[125]⟩:ByteArray).size≤140737488355328):=by show _≤_;rw [len_B8];show _+1≤_;omega
      clear hm0
      go_upto_region 27 with(fail)
      have pq0:wr.drew.cell? ⟨pb,0,none⟩=some (.pointer (some ⟨b,0,none⟩)):=pb0
      have hFd:PrF Bp b (.slice (some ⟨g,o,none⟩) nodes.length c) (.int .i64 root) (.bool lit) (B8 acc) wr.drew:=.inr (PrAt.drew hI.out.1)
      have hBd:Bp≤wr.drew.heap.size:=hI.out.2.2.2
      go_region_held3 (fun w'=>w'.cell? ⟨pb,0,none⟩=some (.pointer (some ⟨b,0,none⟩))) (first | assumption | go_keep) ((go_at_call 16;((with_reducible refine(pr_string Bp b _ _ _ _ _ _ hFd hls2.out hBd).mono ?_));rintro e w5 ⟨rfl,hP5,hb5,ho5⟩;have hI5:Hid (PrI Bp b (.slice (some ⟨g,o,none⟩) nodes.length c) (.int .i64 root) (.bool lit) w w5 (a ++ t)):=⟨by rw [htv.out,show a ++ ([123] ++ z ++ [125])=acc ++ [125] by rw [hac2.out];simp,B8_append,←hxys.out];exact hP5,h3.out.trans (hI.out.2.1.trans ((Below.refl Bp wr).drew.trans hb5)),Lib.OthersKept.trans ho3.out (Lib.OthersKept.trans hI.out.2.2.1 (Lib.OthersKept.trans (Lib.OthersKept.drew (Lib.OthersKept.refl _ _ wr)) ho5)),Nat.le_trans hI.out.2.2.2 hb5.size⟩;have q50:w5.cell? ⟨pb,0,none⟩=some (.pointer (some ⟨b,0,none⟩)):=((hpb3.out.others hI.out.2.2.1 hpbb (by decide)).others (wr:=w5) (b:=b) (Lib.OthersKept.trans (Lib.OthersKept.drew (Lib.OthersKept.refl _ _ wr)) ho5) hpbb (by decide)).cell' (i:=0) rfl))
      go_wp2_with (fail)
      go_ret
      exact⟨rfl,hI5.out⟩
     ·have hm1:(m:Int) > 0:=by omega
      have htv:Hid (t = [123] ++ z ++ gapV lit op ++ [125]):=by
       show _=_
       rw [HTZ.out,if_neg (fun h=>hm0 (by have h1:=hxl.out;rw [h] at h1;exact h1.symm))]
      clear hm0
      have DL:=Lib.hid (line_int (z:=(op:Int)) (op:=op) rfl (by omega) (xs:=acc) (by omega) wr hI.out.1 hI.out.2.2.2)
      go_upto_region 27 with(go_at_call 113;((with_reducible refine DL.out.mono ?_));rintro e wc ⟨rfl,hIc'⟩)
      have hIc:=Lib.hid (hI.out.trans hIc')
      have hgl:(gapV lit op).length≤5:=by unfold gapV;split <;> simp <;> omega
      have hls2:Hid ((B8 (acc ++ gapV lit op)).length+(⟨#[125]⟩:ByteArray).size≤140737488355328):=by show _≤_;rw [len_B8,List.length_append];show _+1≤_;omega
      have pq0:wc.drew.cell? ⟨pb,0,none⟩=some (.pointer (some ⟨b,0,none⟩)):=(hpb3.out.others hIc.out.2.2.1 hpbb (by decide)).cell' (i:=0) rfl
      have hFd:PrF Bp b (.slice (some ⟨g,o,none⟩) nodes.length c) (.int .i64 root) (.bool lit) (B8 (acc ++ gapV lit op)) wc.drew:=.inr (PrAt.drew hIc.out.1)
      have hBd:Bp≤wc.drew.heap.size:=hIc.out.2.2.2
      clear DL hIc' pb0 nb0 nb3 nb4 bl4 bl2 hnwr
      go_region_held3 (fun w'=>w'.cell? ⟨pb,0,none⟩=some (.pointer (some ⟨b,0,none⟩))) (first | assumption | go_keep) ((go_at_call 16;((with_reducible refine(pr_string Bp b _ _ _ _ _ _ hFd hls2.out hBd).mono ?_));rintro e w5 ⟨rfl,hP5,hb5,ho5⟩;have hI5:Hid (PrI Bp b (.slice (some ⟨g,o,none⟩) nodes.length c) (.int .i64 root) (.bool lit) w w5 (a ++ t)):=⟨by rw [htv.out,show a ++ ([123] ++ z ++ gapV lit op ++ [125])=(acc ++ gapV lit op) ++ [125] by rw [hac2.out];simp,B8_append,←hxys.out];exact hP5,h3.out.trans (hIc.out.2.1.trans ((Below.refl Bp wc).drew.trans hb5)),Lib.OthersKept.trans ho3.out (Lib.OthersKept.trans hIc.out.2.2.1 (Lib.OthersKept.trans (Lib.OthersKept.drew (Lib.OthersKept.refl _ _ wc)) ho5)),Nat.le_trans hIc.out.2.2.2 hb5.size⟩;have q50:w5.cell? ⟨pb,0,none⟩=some (.pointer (some ⟨b,0,none⟩)):=((hpb3.out.others hIc.out.2.2.1 hpbb (by decide)).others (wr:=w5) (b:=b) (Lib.OthersKept.trans (Lib.OthersKept.drew (Lib.OthersKept.refl _ _ wc)) ho5) hpbb (by decide)).cell' (i:=0) rfl))
      go_wp2_with (fail)
      go_ret
      exact⟨rfl,hI5.out⟩
    ·have hi':(i:Int)<m:=by omega
     have i0:(0:Int)≤i:=by omega
     obtain⟨a',hxa,ham⟩:=InR_get hxi.out (k:=i) (by have:=hxl.out;omega)
     have ha0:(0:Int)≤a':=by omega
     have ha1:(a':Int)<m:=by omega
     have hOr:=own_others hO3.out hI.out.2.2.1 hobb.out
     obtain⟨ob,cob,hv,_,_⟩:=own_some hOr (by omega)
     injection hv with e1 _ e3
     subst e1 e3
     have hcx:=(own_cell1 hOr (I64_get hxa)).1
     have hln:=hit.out
     rw [drop_cons_at hxa] at hln
     obtain⟨X,Y,hXv',hYv',hTt'⟩:=itemsP_cons hln
     obtain⟨ix',hix'⟩:∃y,nd.items[a']? = some y:=⟨_,List.getElem?_eq_getElem (by have:=HM.out;omega)⟩
     have hir:=HIX.out ix' (by unfold refs;exact List.mem_append.2 (.inr (List.mem_of_getElem? hix')))
     have hid0:nd.items.getD a' 0=ix':=by rw [List.getD_eq_getElem?_getD,hix'];rfl
     obtain⟨ix,rfl⟩:∃q:Nat,ix'=(q:Int):=⟨ix'.toNat,by omega⟩
     have hix:ix<nodes.length:=by omega
     rw [Int.toNat_natCast,hid0] at hXv'
     have hf1:1≤f:=by
      cases f with
      | zero=>rw [printP] at hXv';exact nomatch hXv'
      | succ f=>omega
     have hXv:=Lib.hid hXv'
     have hYv:=Lib.hid hYv'
     have hTt:=Lib.hid hTt'
     obtain⟨adi,rfl,hci0⟩:=HIr.out.at_ (I64_get hix')
     have hadi:=HIb.out _ rfl
     have hci:=(h3.out.cell (by rw [blk_add];exact hadi)).trans hci0
     have ix0:(0:Int)≤ix:=by omega
     have ix1:(ix:Int)<nodes.length:=by omega
     clear hxa hOr hln hXv' hYv' hTt' hix' hir hid0 hci0 hit
     obtain⟨kx',hkx'⟩:∃y,nd.keys[a']? = some y:=⟨_,List.getElem?_eq_getElem (by have:=(HFW.out HKD.out).2;have:=HM.out;omega)⟩
     have hkr:=HIX.out kx' (by unfold refs;exact List.mem_append.2 (.inl (List.mem_of_getElem? hkx')))
     have hkd0:nd.keys.getD a' 0=kx':=by rw [List.getD_eq_getElem?_getD,hkx'];rfl
     obtain⟨kx,rfl⟩:∃q:Nat,kx'=(q:Int):=⟨kx'.toNat,by omega⟩
     have hkx:kx<nodes.length:=by omega
     obtain⟨adk,rfl,hck0⟩:=HKr.out.at_ (I64_get hkx')
     have hadk:=HKb.out _ rfl
     have hck:=(h3.out.cell (by rw [blk_add];exact hadk)).trans hck0
     have kx0:(0:Int)≤kx:=by omega
     have kx1:(kx:Int)<nodes.length:=by omega
     obtain⟨ktx,hktx⟩:∃q,(ndAt nodes kx).text=q:=⟨_,rfl⟩
     have HKT:=Lib.hid hktx
     have hkey:Hid (keyV2 nodes nd (a':Int)=quoteV ktx ++ [58,32]):=by show _=_;unfold keyV2;rw [if_pos HKD.out,Int.toNat_natCast,hkd0,Int.toNat_natCast,hktx]
     clear hkx' hkr hkd0 hck0 hktx
     go_upto_region 13 with(fail)
     clear hcx
     by_cases h0:i=0
     ·have hi0:¬(i:Int) > 0:=by omega
      have hsep:Hid (sepV lit i = []):=by show _=_;unfold sepV;rw [if_pos h0]
      clear h0
      go_upto_region 17 with(fail)
      have DL:=Lib.hid (line_int (z:=(op:Int)+1) (op:=op+1) (by simp) (by omega) (xs:=acc) (by have h:=congrArg List.length hTt.out;rw [hsep.out] at h;simp at h ⊢;omega) wr hI.out.1 hI.out.2.2.2)
      go_upto_region 18 with(go_at_call 113;((with_reducible refine DL.out.mono ?_));rintro e wc ⟨rfl,hIc'⟩)
      have hIc:=Lib.hid (hI.out.trans hIc')
      clear DL hIc' hnwr
      clear pb0 nb0 nb3 nb4 bl4 bl2
      have pb0:=(hpb3.out.others hIc.out.2.2.1 hpbb (by decide)).cell' (i:=0) rfl
      have hnwc:=Lib.hid (hnb3.out.others hIc.out.2.2.1 hnbb (by decide))
      have nb0:=hnwc.out.cell' (i:=0) rfl
      have nb3:=hnwc.out.cell' (i:=3) rfl
      have nb4:=hnwc.out.cell' (i:=4) rfl
      have bl4:=(PrAt.cells hIc.out.1).2.2.2
      have bl2:=(PrAt.cells hIc.out.1).2.1
      have hkl:By ktx:=HKT.out▸(HTX.out kx hkx).1
      have hkl2:ktx.length≤100000:=HKT.out▸(HTX.out kx hkx).2
      have hGc:=(HG.out.below (h3.out.trans hIc.out.2.1) (Nat.le_refl _))
      obtain⟨_,_,_,_,_,tc,_⟩:=hGc.of_at hkx
      rw [HKT.out] at tc
      have pq0:wc.drew.cell? ⟨pb,0,none⟩=_:=pb0
      have pq2:wc.drew.cell? ⟨b,2,none⟩=_:=bl2
      have pq3:wc.drew.cell? ⟨nb,3,none⟩=_:=nb3
      have pqk:wc.drew.cell? (adk.add a')=some (.int .i64 (kx:Int)):=(hIc.out.2.1.cell (by rw [blk_add];exact hadk)).trans hck
      have pqt:wc.drew.cell? ⟨g,o+kx*5+1,none⟩=some (.string (mks ktx)):=tc
      have hFd:PrF Bp b (.slice (some ⟨g,o,none⟩) nodes.length c) (.int .i64 root) (.bool lit) (B8 (acc ++ gapV lit (op+1))) wc.drew:=.inr (PrAt.drew hIc.out.1)
      have DQ:=Lib.hid (quote_pr Bp b _ _ _ (acc ++ gapV lit (op+1)) ktx hkl hkl2 (by have h:=congrArg List.length hTt.out;rw [hsep.out,hkey.out] at h;simp at h ⊢;omega) wc.drew hFd hIc.out.2.2.2)
      clear hGc tc hFd hkl hkl2 hnwc
      go_upto_region 19 with(fail)
      go_region_held3 (fun w'=>w'.cell? ⟨pb,0,none⟩=some (.pointer (some ⟨b,0,none⟩))∧w'.cell? ⟨b,2,none⟩=some (.slice (some ⟨g,o,none⟩) nodes.length c)∧w'.cell? ⟨nb,3,none⟩=some (.slice (some adk) m ck)∧w'.cell? (adk.add a')=some (.int .i64 (kx:Int))∧w'.cell? ⟨g,o+kx*5+1,none⟩=some (.string (mks ktx))) (first | exact⟨by assumption,by assumption,by assumption,by assumption,by assumption⟩ | go_keep)
       ((go_at_call 20;((with_reducible refine DQ.out.mono ?_));rintro e wd ⟨rfl,hId'⟩;have hId:=Lib.hid (hIc.out.trans ⟨hId'.1,(Below.refl Bp wc).drew.trans hId'.2.1,Lib.OthersKept.trans (Lib.OthersKept.drew (Lib.OthersKept.refl _ _ wc)) hId'.2.2.1,hId'.2.2.2⟩);have hpd:=hpb3.out.others hId.out.2.2.1 hpbb (by decide);have hnd:=hnb3.out.others hId.out.2.2.1 hnbb (by decide);have qd0:=hpd.cell' (i:=0) rfl;have qd3:=hnd.cell' (i:=3) rfl;have qd2:=(PrAt.cells hId.out.1).2.1;have qdk:wd.cell? (adk.add a')=some (.int .i64 (kx:Int)):=(hId.out.2.1.cell (by rw [blk_add];exact hadk)).trans hck;have qdt:=(hId'.2.1.cell (w:=wc.drew) (p:=⟨g,o+kx*5+1,none⟩) (show g<Bp from HG.out.1)).trans pqt))
      clear pq0 pq2 pq3 pqk pqt qd0 qd3 qd2 qdk qdt hpd hnd hId' DQ pb0 nb0 nb3 nb4 bl4 bl2
      have pb0:=(hpb3.out.others hId.out.2.2.1 hpbb (by decide)).cell' (i:=0) rfl
      have hnwd:=Lib.hid (hnb3.out.others hId.out.2.2.1 hnbb (by decide))
      have nb0:=hnwd.out.cell' (i:=0) rfl
      have nb3:=hnwd.out.cell' (i:=3) rfl
      have nb4:=hnwd.out.cell' (i:=4) rfl
      have bl4:=(PrAt.cells hId.out.1).2.2.2
      have bl2:=(PrAt.cells hId.out.1).2.1
      have h58:Hid (Lib.strCells ⟨#[58,32]⟩=B8 [58,32]):=by show _=_;rfl
      have hl58:Hid ((B8 ((acc ++ gapV lit (op+1)) ++ quoteV ktx)).length+(⟨#[58,32]⟩:ByteArray).size≤140737488355328):=by show _≤_;rw [len_B8];show _+2≤_;have h:=congrArg List.length hTt.out;rw [hsep.out,hkey.out] at h;simp at h ⊢;omega
      go_upto_region 21 with(go_at_call 16;((with_reducible refine(pr_string Bp b _ _ _ _ _ _ (PrI.pf hId.out) hl58.out (PrI.le hId.out)).mono ?_));rintro e we ⟨rfl,hPe,hbe',hoe⟩)
      have hIe:Hid (PrI Bp b (.slice (some ⟨g,o,none⟩) nodes.length c) (.int .i64 root) (.bool lit) w3 we (((acc ++ gapV lit (op+1)) ++ quoteV ktx) ++ [58,32])):=PrI.next hId.out hPe hbe' hoe (by rw [h58.out,←B8_append])
      clear hPe hbe' hoe hnwd
      clear pb0 nb0 nb3 nb4 bl4 bl2
      have pb0:=(hpb3.out.others hIe.out.2.2.1 hpbb (by decide)).cell' (i:=0) rfl
      have hnwe:=Lib.hid (hnb3.out.others hIe.out.2.2.1 hnbb (by decide))
      have nb0:=hnwe.out.cell' (i:=0) rfl
      have nb3:=hnwe.out.cell' (i:=3) rfl
      have nb4:=hnwe.out.cell' (i:=4) rfl
      have bl4:=(PrAt.cells hIe.out.1).2.2.2
      have bl2:=(PrAt.cells hIe.out.1).2.1
      have hGe:=Lib.hid (HG.out.below (h3.out.trans hIe.out.2.1) (Nat.le_refl _))
      have pq0:we.drew.cell? ⟨pb,0,none⟩=_:=pb0
      have pq4:we.drew.cell? ⟨nb,4,none⟩=_:=nb4
      have pqi:we.drew.cell? (adi.add a')=some (.int .i64 (ix:Int)):=(hIe.out.2.1.cell (by rw [blk_add];exact hadi)).trans hci
      have hFd:PrF Bp b (.slice (some ⟨g,o,none⟩) nodes.length c) (.int .i64 root) (.bool lit) (B8 (((acc ++ gapV lit (op+1)) ++ quoteV ktx) ++ [58,32])) we.drew:=.inr (PrAt.drew hIe.out.1)
      have hlx:(((acc ++ gapV lit (op+1)) ++ quoteV ktx) ++ [58,32]).length+X.length≤4294967296:=by have h:=congrArg List.length hTt.out;rw [hsep.out,hkey.out] at h;simp at h ⊢;omega
      have DN:=Lib.hid (hIH.out ix (op+1) (((acc ++ gapV lit (op+1)) ++ quoteV ktx) ++ [58,32]) X we.drew hix (by omega) hXv.out hlx ((hbe.out.trans (h3.out.trans hIe.out.2.1)).drew) (hGe.out.below (Below.refl _ _).drew hGe.out.2.1) hFd)
      unfold ContR at DN
      clear hFd hGe hlx hnwe
      have hopw:IntKind.i64.wrap ((op:Int)+1)=(op:Int)+1:=IntWalk.i64_in _ (by omega)
      have hopn:((op+1:Nat):Int)=(op:Int)+1:=by simp
      rw [hopn] at DN
      go_region_held3 (fun w'=>w'.cell? ⟨pb,0,none⟩=some (.pointer (some ⟨b,0,none⟩))∧w'.cell? ⟨nb,4,none⟩=some (.slice (some adi) m ci)∧w'.cell? (adi.add a')=some (.int .i64 (ix:Int))) (first | exact⟨by assumption,by assumption,by assumption⟩ | go_keep)
       ((go_at_call 44;((with_reducible refine DN.out.mono ?_));rintro e wf ⟨rfl,hIf'⟩;have hIf:=Lib.hid (hIe.out.trans ⟨hIf'.1,(Below.refl Bp we).drew.trans hIf'.2.1,Lib.OthersKept.trans (Lib.OthersKept.drew (Lib.OthersKept.refl _ _ we)) hIf'.2.2.1,hIf'.2.2.2⟩);have hpf:=hpb3.out.others hIf.out.2.2.1 hpbb (by decide);have hnf:=hnb3.out.others hIf.out.2.2.1 hnbb (by decide);have qf0:=hpf.cell' (i:=0) rfl;have qf4:=hnf.cell' (i:=4) rfl;have qfi:wf.cell? (adi.add a')=some (.int .i64 (ix:Int)):=(hIf.out.2.1.cell (by rw [blk_add];exact hadi)).trans hci))
      have hIg0:PrI Bp b (.slice (some ⟨g,o,none⟩) nodes.length c) (.int .i64 root) (.bool lit) w3 wf (acc ++ (sepV lit i ++ gapV lit (op+1) ++ keyV2 nodes nd (a':Int) ++ X)):=by
       have h:=hIf.out
       rw [hsep.out,hkey.out]
       simpa using h
      have hIg:=Lib.hid hIg0
      clear hIg0 pq0 pq4 pqi qf0 qf4 qfi hpf hnf hIf' hIf DN pb0 nb0 nb3 nb4 bl4 bl2 hopw hopn
      go_wp2_with (fail)
      go_roundw
      case rel=>exact⟨i+1,_,Y,by omega,i64e (by omega),hIg,hYv,by show _=_;rw [←hacc.out,hTt.out];simp,by have h:=congrArg List.length hTt.out;simp at h ⊢;omega⟩
      case measure=>simp [intOf];omega
     ·have hi0:(i:Int) > 0:=by omega
      go_upto_region 14 with(fail)
      cases lit with
      | true=>
       have hsep:Hid (sepV true i = [44,32]):=by show _=_;unfold sepV;rw [if_neg h0];rfl
       clear h0
       go_upto_region 15 with(go_at_call 38;((with_reducible refine(pr_byte Bp b _ _ _ _ _ _ (PrI.pf hI.out) (by rw [len_B8];omega) (PrI.le hI.out)).mono ?_));rintro e wa ⟨rfl,hPa,hba,hoa⟩)
       have hIa:=Lib.hid (PrI.byte (bs:=[]) (x:=44) hI.out hPa hba hoa)
       clear hPa hba hoa hnwr
       clear pb0 nb0 nb3 nb4 bl4 bl2
       have pb0:=(hpb3.out.others hIa.out.2.2.1 hpbb (by decide)).cell' (i:=0) rfl
       have hnwa:=Lib.hid (hnb3.out.others hIa.out.2.2.1 hnbb (by decide))
       have nb0:=hnwa.out.cell' (i:=0) rfl
       have nb3:=hnwa.out.cell' (i:=3) rfl
       have nb4:=hnwa.out.cell' (i:=4) rfl
       have bl4:=(PrAt.cells hIa.out.1).2.2.2
       have bl2:=(PrAt.cells hIa.out.1).2.1
       go_upto_region 17 with(go_at_call 38;((with_reducible refine(pr_byte Bp b _ _ _ _ _ _ (PrI.pf hIa.out) (by rw [len_B8,List.length_append,List.length_singleton];omega) (PrI.le hIa.out)).mono ?_));rintro e wb ⟨rfl,hPb,hbb,hob⟩)
       have hIb:=Lib.hid (PrI.byte (bs:=[]) (x:=32) hIa.out hPb hbb hob)
       clear hPb hbb hob hnwa
       clear pb0 nb0 nb3 nb4 bl4 bl2
       have pb0:=(hpb3.out.others hIb.out.2.2.1 hpbb (by decide)).cell' (i:=0) rfl
       have hnwb:=Lib.hid (hnb3.out.others hIb.out.2.2.1 hnbb (by decide))
       have nb0:=hnwb.out.cell' (i:=0) rfl
       have nb3:=hnwb.out.cell' (i:=3) rfl
       have nb4:=hnwb.out.cell' (i:=4) rfl
       have bl4:=(PrAt.cells hIb.out.1).2.2.2
       have bl2:=(PrAt.cells hIb.out.1).2.1
       have DL:=Lib.hid (line_int (z:=(op:Int)+1) (op:=op+1) (by simp) (by omega) (xs:=((acc ++ [44]) ++ [32])) (by have h:=congrArg List.length hTt.out;rw [hsep.out] at h;simp at h ⊢;omega) wb hIb.out.1 hIb.out.2.2.2)
       go_upto_region 18 with(go_at_call 113;((with_reducible refine DL.out.mono ?_));rintro e wc ⟨rfl,hIc'⟩)
       have hIc:=Lib.hid (hIb.out.trans hIc')
       clear DL hIc' hnwb
       clear pb0 nb0 nb3 nb4 bl4 bl2
       have pb0:=(hpb3.out.others hIc.out.2.2.1 hpbb (by decide)).cell' (i:=0) rfl
       have hnwc:=Lib.hid (hnb3.out.others hIc.out.2.2.1 hnbb (by decide))
       have nb0:=hnwc.out.cell' (i:=0) rfl
       have nb3:=hnwc.out.cell' (i:=3) rfl
       have nb4:=hnwc.out.cell' (i:=4) rfl
       have bl4:=(PrAt.cells hIc.out.1).2.2.2
       have bl2:=(PrAt.cells hIc.out.1).2.1
       have hkl:By ktx:=HKT.out▸(HTX.out kx hkx).1
       have hkl2:ktx.length≤100000:=HKT.out▸(HTX.out kx hkx).2
       have hGc:=(HG.out.below (h3.out.trans hIc.out.2.1) (Nat.le_refl _))
       obtain⟨_,_,_,_,_,tc,_⟩:=hGc.of_at hkx
       rw [HKT.out] at tc
       have pq0:wc.drew.cell? ⟨pb,0,none⟩=_:=pb0
       have pq2:wc.drew.cell? ⟨b,2,none⟩=_:=bl2
       have pq3:wc.drew.cell? ⟨nb,3,none⟩=_:=nb3
       have pqk:wc.drew.cell? (adk.add a')=some (.int .i64 (kx:Int)):=(hIc.out.2.1.cell (by rw [blk_add];exact hadk)).trans hck
       have pqt:wc.drew.cell? ⟨g,o+kx*5+1,none⟩=some (.string (mks ktx)):=tc
       have hFd:PrF Bp b (.slice (some ⟨g,o,none⟩) nodes.length c) (.int .i64 root) (.bool true) (B8 (((acc ++ [44]) ++ [32]) ++ gapV true (op+1))) wc.drew:=.inr (PrAt.drew hIc.out.1)
       have DQ:=Lib.hid (quote_pr Bp b _ _ _ (((acc ++ [44]) ++ [32]) ++ gapV true (op+1)) ktx hkl hkl2 (by have h:=congrArg List.length hTt.out;rw [hsep.out,hkey.out] at h;simp at h ⊢;omega) wc.drew hFd hIc.out.2.2.2)
       clear hGc tc hFd hkl hkl2 hnwc
       go_upto_region 19 with(fail)
       go_region_held3 (fun w'=>w'.cell? ⟨pb,0,none⟩=some (.pointer (some ⟨b,0,none⟩))∧w'.cell? ⟨b,2,none⟩=some (.slice (some ⟨g,o,none⟩) nodes.length c)∧w'.cell? ⟨nb,3,none⟩=some (.slice (some adk) m ck)∧w'.cell? (adk.add a')=some (.int .i64 (kx:Int))∧w'.cell? ⟨g,o+kx*5+1,none⟩=some (.string (mks ktx))) (first | exact⟨by assumption,by assumption,by assumption,by assumption,by assumption⟩ | go_keep)
        ((go_at_call 20;((with_reducible refine DQ.out.mono ?_));rintro e wd ⟨rfl,hId'⟩;have hId:=Lib.hid (hIc.out.trans ⟨hId'.1,(Below.refl Bp wc).drew.trans hId'.2.1,Lib.OthersKept.trans (Lib.OthersKept.drew (Lib.OthersKept.refl _ _ wc)) hId'.2.2.1,hId'.2.2.2⟩);have hpd:=hpb3.out.others hId.out.2.2.1 hpbb (by decide);have hnd:=hnb3.out.others hId.out.2.2.1 hnbb (by decide);have qd0:=hpd.cell' (i:=0) rfl;have qd3:=hnd.cell' (i:=3) rfl;have qd2:=(PrAt.cells hId.out.1).2.1;have qdk:wd.cell? (adk.add a')=some (.int .i64 (kx:Int)):=(hId.out.2.1.cell (by rw [blk_add];exact hadk)).trans hck;have qdt:=(hId'.2.1.cell (w:=wc.drew) (p:=⟨g,o+kx*5+1,none⟩) (show g<Bp from HG.out.1)).trans pqt))
       clear pq0 pq2 pq3 pqk pqt qd0 qd3 qd2 qdk qdt hpd hnd hId' DQ pb0 nb0 nb3 nb4 bl4 bl2
       have pb0:=(hpb3.out.others hId.out.2.2.1 hpbb (by decide)).cell' (i:=0) rfl
       have hnwd:=Lib.hid (hnb3.out.others hId.out.2.2.1 hnbb (by decide))
       have nb0:=hnwd.out.cell' (i:=0) rfl
       have nb3:=hnwd.out.cell' (i:=3) rfl
       have nb4:=hnwd.out.cell' (i:=4) rfl
       have bl4:=(PrAt.cells hId.out.1).2.2.2
       have bl2:=(PrAt.cells hId.out.1).2.1
       have h58:Hid (Lib.strCells ⟨#[58,32]⟩=B8 [58,32]):=by show _=_;rfl
       have hl58:Hid ((B8 ((((acc ++ [44]) ++ [32]) ++ gapV true (op+1)) ++ quoteV ktx)).length+(⟨#[58,32]⟩:ByteArray).size≤140737488355328):=by show _≤_;rw [len_B8];show _+2≤_;have h:=congrArg List.length hTt.out;rw [hsep.out,hkey.out] at h;simp at h ⊢;omega
       go_upto_region 21 with(go_at_call 16;((with_reducible refine(pr_string Bp b _ _ _ _ _ _ (PrI.pf hId.out) hl58.out (PrI.le hId.out)).mono ?_));rintro e we ⟨rfl,hPe,hbe',hoe⟩)
       have hIe:Hid (PrI Bp b (.slice (some ⟨g,o,none⟩) nodes.length c) (.int .i64 root) (.bool true) w3 we (((((acc ++ [44]) ++ [32]) ++ gapV true (op+1)) ++ quoteV ktx) ++ [58,32])):=PrI.next hId.out hPe hbe' hoe (by rw [h58.out,←B8_append])
       clear hPe hbe' hoe hnwd
       clear pb0 nb0 nb3 nb4 bl4 bl2
       have pb0:=(hpb3.out.others hIe.out.2.2.1 hpbb (by decide)).cell' (i:=0) rfl
       have hnwe:=Lib.hid (hnb3.out.others hIe.out.2.2.1 hnbb (by decide))
       have nb0:=hnwe.out.cell' (i:=0) rfl
       have nb3:=hnwe.out.cell' (i:=3) rfl
       have nb4:=hnwe.out.cell' (i:=4) rfl
       have bl4:=(PrAt.cells hIe.out.1).2.2.2
       have bl2:=(PrAt.cells hIe.out.1).2.1
       have hGe:=Lib.hid (HG.out.below (h3.out.trans hIe.out.2.1) (Nat.le_refl _))
       have pq0:we.drew.cell? ⟨pb,0,none⟩=_:=pb0
       have pq4:we.drew.cell? ⟨nb,4,none⟩=_:=nb4
       have pqi:we.drew.cell? (adi.add a')=some (.int .i64 (ix:Int)):=(hIe.out.2.1.cell (by rw [blk_add];exact hadi)).trans hci
       have hFd:PrF Bp b (.slice (some ⟨g,o,none⟩) nodes.length c) (.int .i64 root) (.bool true) (B8 (((((acc ++ [44]) ++ [32]) ++ gapV true (op+1)) ++ quoteV ktx) ++ [58,32])) we.drew:=.inr (PrAt.drew hIe.out.1)
       have hlx:(((((acc ++ [44]) ++ [32]) ++ gapV true (op+1)) ++ quoteV ktx) ++ [58,32]).length+X.length≤4294967296:=by have h:=congrArg List.length hTt.out;rw [hsep.out,hkey.out] at h;simp at h ⊢;omega
       have DN:=Lib.hid (hIH.out ix (op+1) (((((acc ++ [44]) ++ [32]) ++ gapV true (op+1)) ++ quoteV ktx) ++ [58,32]) X we.drew hix (by omega) hXv.out hlx ((hbe.out.trans (h3.out.trans hIe.out.2.1)).drew) (hGe.out.below (Below.refl _ _).drew hGe.out.2.1) hFd)
       unfold ContR at DN
       clear hFd hGe hlx hnwe
       have hopw:IntKind.i64.wrap ((op:Int)+1)=(op:Int)+1:=IntWalk.i64_in _ (by omega)
       have hopn:((op+1:Nat):Int)=(op:Int)+1:=by simp
       rw [hopn] at DN
       go_region_held3 (fun w'=>w'.cell? ⟨pb,0,none⟩=some (.pointer (some ⟨b,0,none⟩))∧w'.cell? ⟨nb,4,none⟩=some (.slice (some adi) m ci)∧w'.cell? (adi.add a')=some (.int .i64 (ix:Int))) (first | exact⟨by assumption,by assumption,by assumption⟩ | go_keep)
        ((go_at_call 44;((with_reducible refine DN.out.mono ?_));rintro e wf ⟨rfl,hIf'⟩;have hIf:=Lib.hid (hIe.out.trans ⟨hIf'.1,(Below.refl Bp we).drew.trans hIf'.2.1,Lib.OthersKept.trans (Lib.OthersKept.drew (Lib.OthersKept.refl _ _ we)) hIf'.2.2.1,hIf'.2.2.2⟩);have hpf:=hpb3.out.others hIf.out.2.2.1 hpbb (by decide);have hnf:=hnb3.out.others hIf.out.2.2.1 hnbb (by decide);have qf0:=hpf.cell' (i:=0) rfl;have qf4:=hnf.cell' (i:=4) rfl;have qfi:wf.cell? (adi.add a')=some (.int .i64 (ix:Int)):=(hIf.out.2.1.cell (by rw [blk_add];exact hadi)).trans hci))
       have hIg0:PrI Bp b (.slice (some ⟨g,o,none⟩) nodes.length c) (.int .i64 root) (.bool true) w3 wf (acc ++ (sepV true i ++ gapV true (op+1) ++ keyV2 nodes nd (a':Int) ++ X)):=by
        have h:=hIf.out
        rw [hsep.out,hkey.out]
        simpa using h
       have hIg:=Lib.hid hIg0
       clear hIg0 pq0 pq4 pqi qf0 qf4 qfi hpf hnf hIf' hIf DN pb0 nb0 nb3 nb4 bl4 bl2 hopw hopn
       go_wp2_with (fail)
       go_roundw
       case rel=>exact⟨i+1,_,Y,by omega,i64e (by omega),hIg,hYv,by show _=_;rw [←hacc.out,hTt.out];simp,by have h:=congrArg List.length hTt.out;simp at h ⊢;omega⟩
       case measure=>simp [intOf];omega
      | false=>
       have hsep:Hid (sepV false i = [44]):=by show _=_;unfold sepV;rw [if_neg h0];rfl
       clear h0
       go_upto_region 15 with(go_at_call 38;((with_reducible refine(pr_byte Bp b _ _ _ _ _ _ (PrI.pf hI.out) (by rw [len_B8];omega) (PrI.le hI.out)).mono ?_));rintro e wa ⟨rfl,hPa,hba,hoa⟩)
       have hIa:=Lib.hid (PrI.byte (bs:=[]) (x:=44) hI.out hPa hba hoa)
       clear hPa hba hoa hnwr
       clear pb0 nb0 nb3 nb4 bl4 bl2
       have pb0:=(hpb3.out.others hIa.out.2.2.1 hpbb (by decide)).cell' (i:=0) rfl
       have hnwa:=Lib.hid (hnb3.out.others hIa.out.2.2.1 hnbb (by decide))
       have nb0:=hnwa.out.cell' (i:=0) rfl
       have nb3:=hnwa.out.cell' (i:=3) rfl
       have nb4:=hnwa.out.cell' (i:=4) rfl
       have bl4:=(PrAt.cells hIa.out.1).2.2.2
       have bl2:=(PrAt.cells hIa.out.1).2.1
       go_upto_region 17 with(fail)
       have DL:=Lib.hid (line_int (z:=(op:Int)+1) (op:=op+1) (by simp) (by omega) (xs:=(acc ++ [44])) (by have h:=congrArg List.length hTt.out;rw [hsep.out] at h;simp at h ⊢;omega) wa hIa.out.1 hIa.out.2.2.2)
       go_upto_region 18 with(go_at_call 113;((with_reducible refine DL.out.mono ?_));rintro e wc ⟨rfl,hIc'⟩)
       have hIc:=Lib.hid (hIa.out.trans hIc')
       clear DL hIc' hnwa
       clear pb0 nb0 nb3 nb4 bl4 bl2
       have pb0:=(hpb3.out.others hIc.out.2.2.1 hpbb (by decide)).cell' (i:=0) rfl
       have hnwc:=Lib.hid (hnb3.out.others hIc.out.2.2.1 hnbb (by decide))
       have nb0:=hnwc.out.cell' (i:=0) rfl
       have nb3:=hnwc.out.cell' (i:=3) rfl
       have nb4:=hnwc.out.cell' (i:=4) rfl
       have bl4:=(PrAt.cells hIc.out.1).2.2.2
       have bl2:=(PrAt.cells hIc.out.1).2.1
       have hkl:By ktx:=HKT.out▸(HTX.out kx hkx).1
       have hkl2:ktx.length≤100000:=HKT.out▸(HTX.out kx hkx).2
       have hGc:=(HG.out.below (h3.out.trans hIc.out.2.1) (Nat.le_refl _))
       obtain⟨_,_,_,_,_,tc,_⟩:=hGc.of_at hkx
       rw [HKT.out] at tc
       have pq0:wc.drew.cell? ⟨pb,0,none⟩=_:=pb0
       have pq2:wc.drew.cell? ⟨b,2,none⟩=_:=bl2
       have pq3:wc.drew.cell? ⟨nb,3,none⟩=_:=nb3
       have pqk:wc.drew.cell? (adk.add a')=some (.int .i64 (kx:Int)):=(hIc.out.2.1.cell (by rw [blk_add];exact hadk)).trans hck
       have pqt:wc.drew.cell? ⟨g,o+kx*5+1,none⟩=some (.string (mks ktx)):=tc
       have hFd:PrF Bp b (.slice (some ⟨g,o,none⟩) nodes.length c) (.int .i64 root) (.bool false) (B8 ((acc ++ [44]) ++ gapV false (op+1))) wc.drew:=.inr (PrAt.drew hIc.out.1)
       have DQ:=Lib.hid (quote_pr Bp b _ _ _ ((acc ++ [44]) ++ gapV false (op+1)) ktx hkl hkl2 (by have h:=congrArg List.length hTt.out;rw [hsep.out,hkey.out] at h;simp at h ⊢;omega) wc.drew hFd hIc.out.2.2.2)
       clear hGc tc hFd hkl hkl2 hnwc
       go_upto_region 19 with(fail)
       go_region_held3 (fun w'=>w'.cell? ⟨pb,0,none⟩=some (.pointer (some ⟨b,0,none⟩))∧w'.cell? ⟨b,2,none⟩=some (.slice (some ⟨g,o,none⟩) nodes.length c)∧w'.cell? ⟨nb,3,none⟩=some (.slice (some adk) m ck)∧w'.cell? (adk.add a')=some (.int .i64 (kx:Int))∧w'.cell? ⟨g,o+kx*5+1,none⟩=some (.string (mks ktx))) (first | exact⟨by assumption,by assumption,by assumption,by assumption,by assumption⟩ | go_keep)
        ((go_at_call 20;((with_reducible refine DQ.out.mono ?_));rintro e wd ⟨rfl,hId'⟩;have hId:=Lib.hid (hIc.out.trans ⟨hId'.1,(Below.refl Bp wc).drew.trans hId'.2.1,Lib.OthersKept.trans (Lib.OthersKept.drew (Lib.OthersKept.refl _ _ wc)) hId'.2.2.1,hId'.2.2.2⟩);have hpd:=hpb3.out.others hId.out.2.2.1 hpbb (by decide);have hnd:=hnb3.out.others hId.out.2.2.1 hnbb (by decide);have qd0:=hpd.cell' (i:=0) rfl;have qd3:=hnd.cell' (i:=3) rfl;have qd2:=(PrAt.cells hId.out.1).2.1;have qdk:wd.cell? (adk.add a')=some (.int .i64 (kx:Int)):=(hId.out.2.1.cell (by rw [blk_add];exact hadk)).trans hck;have qdt:=(hId'.2.1.cell (w:=wc.drew) (p:=⟨g,o+kx*5+1,none⟩) (show g<Bp from HG.out.1)).trans pqt))
       clear pq0 pq2 pq3 pqk pqt qd0 qd3 qd2 qdk qdt hpd hnd hId' DQ pb0 nb0 nb3 nb4 bl4 bl2
       have pb0:=(hpb3.out.others hId.out.2.2.1 hpbb (by decide)).cell' (i:=0) rfl
       have hnwd:=Lib.hid (hnb3.out.others hId.out.2.2.1 hnbb (by decide))
       have nb0:=hnwd.out.cell' (i:=0) rfl
       have nb3:=hnwd.out.cell' (i:=3) rfl
       have nb4:=hnwd.out.cell' (i:=4) rfl
       have bl4:=(PrAt.cells hId.out.1).2.2.2
       have bl2:=(PrAt.cells hId.out.1).2.1
       have h58:Hid (Lib.strCells ⟨#[58,32]⟩=B8 [58,32]):=by show _=_;rfl
       have hl58:Hid ((B8 (((acc ++ [44]) ++ gapV false (op+1)) ++ quoteV ktx)).length+(⟨#[58,32]⟩:ByteArray).size≤140737488355328):=by show _≤_;rw [len_B8];show _+2≤_;have h:=congrArg List.length hTt.out;rw [hsep.out,hkey.out] at h;simp at h ⊢;omega
       go_upto_region 21 with(go_at_call 16;((with_reducible refine(pr_string Bp b _ _ _ _ _ _ (PrI.pf hId.out) hl58.out (PrI.le hId.out)).mono ?_));rintro e we ⟨rfl,hPe,hbe',hoe⟩)
       have hIe:Hid (PrI Bp b (.slice (some ⟨g,o,none⟩) nodes.length c) (.int .i64 root) (.bool false) w3 we ((((acc ++ [44]) ++ gapV false (op+1)) ++ quoteV ktx) ++ [58,32])):=PrI.next hId.out hPe hbe' hoe (by rw [h58.out,←B8_append])
       clear hPe hbe' hoe hnwd
       clear pb0 nb0 nb3 nb4 bl4 bl2
       have pb0:=(hpb3.out.others hIe.out.2.2.1 hpbb (by decide)).cell' (i:=0) rfl
       have hnwe:=Lib.hid (hnb3.out.others hIe.out.2.2.1 hnbb (by decide))
       have nb0:=hnwe.out.cell' (i:=0) rfl
       have nb3:=hnwe.out.cell' (i:=3) rfl
       have nb4:=hnwe.out.cell' (i:=4) rfl
       have bl4:=(PrAt.cells hIe.out.1).2.2.2
       have bl2:=(PrAt.cells hIe.out.1).2.1
       have hGe:=Lib.hid (HG.out.below (h3.out.trans hIe.out.2.1) (Nat.le_refl _))
       have pq0:we.drew.cell? ⟨pb,0,none⟩=_:=pb0
       have pq4:we.drew.cell? ⟨nb,4,none⟩=_:=nb4
       have pqi:we.drew.cell? (adi.add a')=some (.int .i64 (ix:Int)):=(hIe.out.2.1.cell (by rw [blk_add];exact hadi)).trans hci
       have hFd:PrF Bp b (.slice (some ⟨g,o,none⟩) nodes.length c) (.int .i64 root) (.bool false) (B8 ((((acc ++ [44]) ++ gapV false (op+1)) ++ quoteV ktx) ++ [58,32])) we.drew:=.inr (PrAt.drew hIe.out.1)
       have hlx:((((acc ++ [44]) ++ gapV false (op+1)) ++ quoteV ktx) ++ [58,32]).length+X.length≤4294967296:=by have h:=congrArg List.length hTt.out;rw [hsep.out,hkey.out] at h;simp at h ⊢;omega
       have DN:=Lib.hid (hIH.out ix (op+1) ((((acc ++ [44]) ++ gapV false (op+1)) ++ quoteV ktx) ++ [58,32]) X we.drew hix (by omega) hXv.out hlx ((hbe.out.trans (h3.out.trans hIe.out.2.1)).drew) (hGe.out.below (Below.refl _ _).drew hGe.out.2.1) hFd)
       unfold ContR at DN
       clear hFd hGe hlx hnwe
       have hopw:IntKind.i64.wrap ((op:Int)+1)=(op:Int)+1:=IntWalk.i64_in _ (by omega)
       have hopn:((op+1:Nat):Int)=(op:Int)+1:=by simp
       rw [hopn] at DN
       go_region_held3 (fun w'=>w'.cell? ⟨pb,0,none⟩=some (.pointer (some ⟨b,0,none⟩))∧w'.cell? ⟨nb,4,none⟩=some (.slice (some adi) m ci)∧w'.cell? (adi.add a')=some (.int .i64 (ix:Int))) (first | exact⟨by assumption,by assumption,by assumption⟩ | go_keep)
        ((go_at_call 44;((with_reducible refine DN.out.mono ?_));rintro e wf ⟨rfl,hIf'⟩;have hIf:=Lib.hid (hIe.out.trans ⟨hIf'.1,(Below.refl Bp we).drew.trans hIf'.2.1,Lib.OthersKept.trans (Lib.OthersKept.drew (Lib.OthersKept.refl _ _ we)) hIf'.2.2.1,hIf'.2.2.2⟩);have hpf:=hpb3.out.others hIf.out.2.2.1 hpbb (by decide);have hnf:=hnb3.out.others hIf.out.2.2.1 hnbb (by decide);have qf0:=hpf.cell' (i:=0) rfl;have qf4:=hnf.cell' (i:=4) rfl;have qfi:wf.cell? (adi.add a')=some (.int .i64 (ix:Int)):=(hIf.out.2.1.cell (by rw [blk_add];exact hadi)).trans hci))
       have hIg0:PrI Bp b (.slice (some ⟨g,o,none⟩) nodes.length c) (.int .i64 root) (.bool false) w3 wf (acc ++ (sepV false i ++ gapV false (op+1) ++ keyV2 nodes nd (a':Int) ++ X)):=by
        have h:=hIf.out
        rw [hsep.out,hkey.out]
        simpa using h
       have hIg:=Lib.hid hIg0
       clear hIg0 pq0 pq4 pqi qf0 qf4 qfi hpf hnf hIf' hIf DN pb0 nb0 nb3 nb4 bl4 bl2 hopw hopn
       go_wp2_with (fail)
       go_roundw
       case rel=>exact⟨i+1,_,Y,by omega,i64e (by omega),hIg,hYv,by show _=_;rw [←hacc.out,hTt.out];simp,by have h:=congrArg List.length hTt.out;simp at h ⊢;omega⟩
       case measure=>simp [intOf];omega
  ·have hi':(i:Int)<m:=by omega
   have hb3:Hid (Below wr.heap.size wr (wr.alloc (.cells #[.int .i64 (i:Int)] 3))):=(Below.refl _ _).alloc (Nat.le_refl _) _
   have hr3:Hid ((wr.alloc (.cells #[.int .i64 (i:Int)] 3)).ownsRow zz 3 1 (.slice A1 i c1) i (I64 (rngI i))):=own_below hOr.out hb3.out
   go_upto_region 6 with(at_builtin;go_loud (refine wpList_apS rfl (.tmp 20) (.tmp 22) 41 rfl zz 3 _ 1 _ Tryz.underlying41 infoInt rfl (by decide) _ i (I64 (rngI i)) rfl hr3.out ⟨wr.heap.size,0,none⟩ _ [.int .i64 (i:Int)] rfl rfl (cells_new _ _ _) rfl (by unfold maxLen;omega) (by omega) (by simp;omega) ?_;intro v3 w3 hown3 hgr3 hat3;obtain⟨A3,c3,hv3,_,_⟩:=own_slice hown3;subst hv3))
   have hO4:Hid (w3.ownsRow zz 3 1 (.slice A3 (i+1) c3) (i+1) (I64 (rngI (i+1)))):=by rw [rngI_succ,I64_append];exact hown3
   have hB4:Hid (Below zz W w3):=(hBr.out.trans (hb3.out.mono (by omega))).trans (below_of_grown hgr3 (by have:=hb3.out.size;omega) (fun k e=>(hOr.out.lt k e).1))
   clear hown3 hgr3 hat3 hr3 hb3 hOr hBr
   go_wp2_with (fail)
   go_roundw
   case rel=>exact⟨i+1,by omega,i64e (by omega),hO4,hB4⟩
   case measure=>simp [intOf];omega
end Go.Proofs.YtgbkbgiogdhnaaaGreatDoor
