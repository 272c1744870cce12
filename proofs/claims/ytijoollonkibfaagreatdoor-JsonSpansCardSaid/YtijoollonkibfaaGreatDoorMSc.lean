/- The walk of span's nested, where the children of every span lie inside of it, in order. -/
import Derived.Test.YtijoollonkibfaaGreatDoorMSb
import Derived.Test.YtijoollonkibfaaGreatDoorMSa
set_option linter.unusedVariables false
set_option linter.unusedSimpArgs false
set_option linter.defProp false
set_option linter.constructorNameAsVariable false
namespace Go.Proofs.YtijoollonkibfaaGreatDoor
open Go.RowKit Go.Maps
theorem groups_below {w w':World} {base b n B:Nat} {D:DataW Unit} (h:w.ownsGroups Tryz.prog 3 base 3 .i64 b n D) (hb:Below B w w') (hB:w.heap.size≤B):w'.ownsGroups Tryz.prog 3 base 3 .i64 b n D:=
 h.kept (row:=none) ⟨hb.os,hb.tape,hb.output,hb.size,fun j hj _=>hb.block j (by omega)⟩ (by simp) (fun es clock _ x _=>by cases x.val.ownBlock <;> simp)
theorem kids_of {D:DataW Unit} {spans:List JSpan} (h:KidD D spans spans.length) {w:World} {base:Nat} {e:TypeId} {v:Value} {zs:List Int} {i:Nat} (hat:D.atKey (.int .i64 (i:Int)) .nil=rowDatum .i64 v zs) (ho:w.ownsInts base e .i64 v zs):zs=kidsV spans i:=by
 have h2:=h.2 (i:Int)
 rw [hat,itsOf_row ho] at h2
 exact h2
theorem nest_drop {m:Bool} {hi lo:Int} {spans:List JSpan} {zs:List Int} {j:Nat} {x:Int} (h:NestCh m hi lo ((zs.drop j).map fun x=>spAt spans x.toNat)) (hx:zs[j]? = some x) :
  KidAt m lo (spAt spans x.toNat)∧(spAt spans x.toNat).from_≤(spAt spans x.toNat).to_∧NestCh m hi (spAt spans x.toNat).to_ ((zs.drop (j+1)).map fun x=>spAt spans x.toNat):=by
 rw [drop_cons_at hx,List.map_cons] at h
 exact h
set_option maxRecDepth 20000 in
set_option maxHeartbeats 16000000 in
theorem nested_ok {B g o c gs os cs:Nat} {nodes:List GNode} {spans:List JSpan} (d0 d1 d5:Value) (root:Int) (len:Nat) (hO:OccOK nodes root spans) (hR:RngOK nodes spans len) (hwh:∀i,i<spans.length→(spAt spans i).whole=true)
  (w:World) (hG:GRd w B g o nodes) (hS:SRd w B gs os spans) :
  Calls Tryz.prog 19 #[.agg #[d0,d1,.slice (some ⟨g,o,none⟩) nodes.length c,.int .i64 root,.slice (some ⟨gs,os,none⟩) spans.length cs,d5]] w fun e w'=>e=.returned (.bool true)∧Below w.heap.size w w':=by
 have h1:Hid (Arr (w.alloc (.cells #[d0,d1,.slice (some ⟨g,o,none⟩) nodes.length c,.int .i64 root,.slice (some ⟨gs,os,none⟩) spans.length cs,d5] 29)) w.heap.size 29 [d0,d1,.slice (some ⟨g,o,none⟩) nodes.length c,.int .i64 root,.slice (some ⟨gs,os,none⟩) spans.length cs,d5]):=Arr.new w _ _
 have hB1:Hid (Below w.heap.size w (w.alloc (.cells #[d0,d1,.slice (some ⟨g,o,none⟩) nodes.length c,.int .i64 root,.slice (some ⟨gs,os,none⟩) spans.length cs,d5] 29))):=(Below.refl _ _).alloc (Nat.le_refl _) _
 have HG:=Lib.hid hG
 have HS:=Lib.hid hS
 have HO:=Lib.hid hO
 have HR:=Lib.hid hR
 have HW:=Lib.hid hwh
 have hle:=Lib.hid hO.le
 clear hG hS hO hR hwh
 go_enter Tryz.func19,Tryz.ntmps19
 go_upto_region 1 with(fail)
 generalize w.alloc (.cells #[d0,d1,.slice (some ⟨g,o,none⟩) nodes.length c,.int .i64 root,.slice (some ⟨gs,os,none⟩) spans.length cs,d5] 29)=W at *
 have DC:=Lib.hid (fun(w':World) (h:SRd w' B gs os spans)=>children_any (cs:=cs) d0 d1 (.slice (some ⟨g,o,none⟩) nodes.length c) (.int .i64 root) d5 HO.out.wf (by have:=hle.out;omega) w' h)
 have DO:=Lib.hid (fun(w':World) (A:Option Addr) (cl:Nat) (ks:List Int) (hk) (hkl) (h:SRd w' B gs os spans) (hA) (hAb)=>ordered_any (cs:=cs) d0 d1 (.slice (some ⟨g,o,none⟩) nodes.length c) (.int .i64 root) d5 A cl ks hk hkl (by have:=hle.out;omega) w' h hA hAb)
 obtain⟨n,hn⟩:∃n,spans.length=n:=⟨_,rfl⟩
 obtain⟨N,hN⟩:∃n,nodes.length=n:=⟨_,rfl⟩
 obtain⟨gb,hgb⟩:∃b,w.heap.size=b:=⟨_,rfl⟩
 have hgbl:=h1.out.lt
 rw [hgb] at h1 hgbl hB1 ⊢
 rw [hn,hN] at h1 DC DO
 rw [hn] at hle
 have HN:=Lib.hid hn
 have HNN:=Lib.hid hN
 have HGB:=Lib.hid hgb
 have hnb:n≤4096:=hle.out
 clear hn hN hgb hle
 have y0:=h1.out.cell' (i:=0) rfl
 have y1:=h1.out.cell' (i:=1) rfl
 have y2:=h1.out.cell' (i:=2) rfl
 have y3:=h1.out.cell' (i:=3) rfl
 have y4:=h1.out.cell' (i:=4) rfl
 have y5:=h1.out.cell' (i:=5) rfl
 have hSW:=Lib.hid (HS.out.below hB1.out (by have:=HS.out.2.1;have:=HGB.out;omega))
 go_upto_region 2 with(go_at_call 32;((with_reducible refine(DC.out _ hSW.out).mono ?_));rintro e w2 ⟨mb,D,rfl,hmb,hb2,hown,hkd⟩)
 clear y0 y1 y2 y3 y4 y5
 have hB2:=Lib.hid (hB1.out.trans (hb2.mono (Nat.le_of_lt hgbl)))
 have hX:=Lib.hid (h1.out.keep hb2)
 have HOWN:=Lib.hid hown
 have HKD:=Lib.hid hkd
 have x4:=hX.out.cell' (i:=4) rfl
 have hg2:gb<w2.heap.size:=by have:=hb2.size;omega
 clear hown hkd hSW h1 hB1 hb2
 go_upto_region 3 with(fail)
 clear x4
 go_loopw [16] (fun v wr=>∃(k:Nat),k≤n∧v=.int .i64 (k:Int)∧Hid (Below gb w wr)∧Below w2.heap.size w2 wr) (fun v _=>n - (intOf v).toNat)
 case atStart=>exact⟨0,Nat.zero_le _,rfl,hB2,Below.refl _ _⟩
 case round=>
  obtain⟨k,hk,rfl,hBr,hgr⟩:=hrel
  by_cases hkn:k=n
  ·have hk':¬(k:Int)<n:=by omega
   go_wp2_with (fail)
   go_ret
   exact⟨rfl,by rw [HGB.out];exact hBr.out⟩
  ·have hk':(k:Int)<n:=by omega
   have k0:(0:Int)≤k:=by omega
   have hk2:k<spans.length:=by have:=HN.out;omega
   obtain⟨s0,s1,s2,s3,s4,s5,s6,s7,s8⟩:=(HS.out.below hBr.out (by have:=HS.out.2.1;have:=HGB.out;omega)).of_at hk2
   obtain⟨m,hm,hmN,_⟩:=HO.out.nd k hk2
   rw [HO.out.al k hk2] at s7
   rw [HW.out k hk2] at s8
   rw [hm] at s0
   have hch:=HR.out.ch k m hk2 hm
   have m0:(0:Int)≤m:=by omega
   have m1:(m:Int)<N:=by have:=HNN.out;omega
   obtain⟨fr,hfr⟩:∃y,(spAt spans k).from_=y:=⟨_,rfl⟩
   obtain⟨te,hte⟩:∃y,(spAt spans k).to_=y:=⟨_,rfl⟩
   rw [hfr] at s3 hch
   rw [hte] at s4 hch
   generalize (spAt spans k).parent=s1v at *
   generalize (spAt spans k).entry=s2v at *
   generalize (spAt spans k).kf=s5v at *
   generalize (spAt spans k).kt=s6v at *
   clear hfr hte hm
   have hBx:Hid (Arr (wr.alloc (.cells #[.int .i64 (m:Int),.int .i64 s1v,.int .i64 s2v,.int .i64 fr,.int .i64 te,.int .i64 s5v,.int .i64 s6v,.bool false,.bool true] 34)) wr.heap.size 34 [.int .i64 (m:Int),.int .i64 s1v,.int .i64 s2v,.int .i64 fr,.int .i64 te,.int .i64 s5v,.int .i64 s6v,.bool false,.bool true]):=Arr.new wr _ _
   have hbx:Hid (Below wr.heap.size wr (wr.alloc (.cells #[.int .i64 (m:Int),.int .i64 s1v,.int .i64 s2v,.int .i64 fr,.int .i64 te,.int .i64 s5v,.int .i64 s6v,.bool false,.bool true] 34))):=(Below.refl _ _).alloc (Nat.le_refl _) _
   go_upto_region 5 with(fail)
   clear s0 s1 s2 s3 s4 s5 s6 s7 s8
   generalize (wr.alloc (.cells #[.int .i64 (m:Int),.int .i64 s1v,.int .i64 s2v,.int .i64 fr,.int .i64 te,.int .i64 s5v,.int .i64 s6v,.bool false,.bool true] 34))=w6 at *
   have hB6:=Lib.hid (hBr.out.trans (hbx.out.mono (by have:=hBr.out.size;have:=HGB.out;omega)))
   have hW6:=Lib.hid (hgr.trans (hbx.out.mono hgr.size))
   obtain⟨sb,hsb⟩:∃b,wr.heap.size=b:=⟨_,rfl⟩
   rw [hsb] at hBx ⊢
   clear hsb hbx
   have z0:=hBx.out.cell' (i:=0) rfl
   have z3:=hBx.out.cell' (i:=3) rfl
   have z7:=hBx.out.cell' (i:=7) rfl
   have z8:=hBx.out.cell' (i:=8) rfl
   have hX6:=Lib.hid (hX.out.keep hW6.out)
   have y0:=hX6.out.cell' (i:=0) rfl
   have y1:=hX6.out.cell' (i:=1) rfl
   have y2:=hX6.out.cell' (i:=2) rfl
   have y3:=hX6.out.cell' (i:=3) rfl
   have y4:=hX6.out.cell' (i:=4) rfl
   have y5:=hX6.out.cell' (i:=5) rfl
   obtain⟨K,ck,I,ci,c0,_⟩:=(HG.out.below hB6.out (by have:=HG.out.2.1;have:=HGB.out;omega)).of_at hmN
   obtain⟨e,he⟩:∃e,((ndAt nodes m).kind == 10)=e:=⟨_,rfl⟩
   rw [show decide ((ndAt nodes m).kind=10)=e by rw [←he];rfl] at hch
   generalize (ndAt nodes m).kind=kd at *
   have HCH:=Lib.hid hch
   clear hch
   go_upto_region 8 with(fail)
   clear z0 z7 z8 c0
   have hown6:=groups_below HOWN.out hW6.out (Nat.le_refl _)
   have hkey:=keyOf_int_mk (P:=Tryz.prog) (q:=.i64) (a:=(k:Int)) children_int (WalkArith.wf_i64 (by omega))
   have hnm:n<maxLen:=by unfold maxLen;omega
   have hS6:=Lib.hid (HS.out.below hB6.out (by have:=HS.out.2.1;have:=HGB.out;omega))
   have hkk:∀(zs:List Int),zs=kidsV spans k→(∀(j:Nat) (x:Int),zs[j]? = some x→0≤x∧x<(n:Int)∧(spAt spans x.toNat).entry=(j:Int))∧zs.length≤65536:=fun zs hz=>by
    subst hz
    refine⟨fun j x hx=>?_,?_⟩
    ·obtain⟨i,rfl,hi,_⟩:=kidI_mem (List.mem_of_getElem? hx)
     have:=HO.out.kd k j _ hk2 hx
     have:=HN.out
     exact⟨by omega,by omega,by assumption⟩
    ·have:=kidI_len spans (k:Int) spans.length
     have:=HN.out
     unfold kidsV
     omega
   have HKK:=Lib.hid hkk
   clear hkk
   go_upto_region 9 with(first
    | (at_lookup;go_loud (refine wpList_lookup_groups _ rfl _ _ 76 rfl 3 38 3 .i64 (int_keyed children_int) under_kids (zero_ints _) (mb+1) mb n D rfl hown6 hnm _ _ rfl hkey ?_;intro v zs hat hoi hzl hback;have hzk:=Lib.hid (kids_of (by rw [HN.out];exact HKD.out) hat hoi);obtain⟨A,cv,rfl,hAr,hAb⟩:=ints_shape hoi;have hlt:=hoi.1.lt;have hkz:=HKK.out zs hzk.out;have hArI:Rd w6 A (I64 zs):=hAr;have hABl:∀ad,A=some ad→ad.block<w6.heap.size:=fun ad e=>(hlt ad.block (by rw [e];rfl)).2))
    | (go_at_call 34;((with_reducible refine(DO.out _ A cv zs hkz.1 hkz.2 hS6.out hArI hABl).mono ?_));rintro e' w7 ⟨ob,rfl,hob,hb7,hOr⟩))
   clear hback hat hoi hAr hAb hlt hkz hArI hABl y0 y1 y2 y3 y4 y5 hown6 hkey HKK
   rw [←hzk.out] at HCH
   have hzl2:zs.length≤4096:=by omega
   have hZE:Hid (∀(j:Nat) (x:Int),zs[j]? = some x→∃kx:Nat,x=(kx:Int)∧kx<spans.length):=fun j x hx=>by
    rw [hzk.out] at hx
    obtain⟨i,rfl,hi,_⟩:=kidI_mem (List.mem_of_getElem? hx)
    exact⟨i,rfl,hi⟩
   obtain⟨M,hM⟩:∃y,zs.length=y:=⟨_,rfl⟩
   rw [hM] at hzl2 ⊢
   have HM:=Lib.hid hM
   have hB7:=Lib.hid (hB6.out.trans (hb7.mono (by have:=hB6.out.size;have:=HGB.out;omega)))
   have hW7:=Lib.hid (hW6.out.trans (hb7.mono hW6.out.size))
   have hBx7:=Lib.hid (hBx.out.keep hb7)
   clear hM hzk hb7 hzl hBx z3 hob hX6
   go_loopw [6,45] (fun u v ws=>∃(j:Nat) (lo:Int),j≤M∧v=.int .i64 (j:Int)∧u=.int .i64 lo∧Hid (NestCh e te lo ((zs.drop j).map fun x=>spAt spans x.toNat))∧Hid (Below gb w ws)∧Hid (Below w2.heap.size w2 ws)∧Below w7.heap.size w7 ws) (fun _ v _=>M - (intOf v).toNat)
   case atStart=>exact⟨0,fr,Nat.zero_le _,rfl,rfl,HCH,hB7,hW7,Below.refl _ _⟩
   case round=>
    obtain⟨j,lo,hj,rfl,rfl,hne,hBs,hWs,hgs⟩:=hrel
    by_cases hjm:j=M
    ·have hj':¬(j:Int)<M:=by omega
     have hlo:¬te<lo:=by
      have:=hne.out
      rw [List.drop_of_length_le (by have:=HM.out;omega)] at this
      have:lo≤te:=this
      omega
     have z4:=(hBx7.out.keep hgs).cell' (i:=4) rfl
     go_wp2_with (fail)
     go_roundw
     case rel=>exact⟨k+1,by omega,i64e (by omega),hBs,hWs.out⟩
     case measure=>simp [intOf];omega
    ·have hj':(j:Int)<M:=by omega
     have j0:(0:Int)≤j:=by omega
     obtain⟨x,hx⟩:∃x,zs[j]? = some x:=⟨_,List.getElem?_eq_getElem (by have:=HM.out;omega)⟩
     obtain⟨kx,rfl,hkx⟩:=hZE.out j x hx
     obtain⟨q1,q2,q3⟩:=nest_drop hne.out hx
     rw [Int.toNat_natCast] at q1 q2 q3
     have o0:=(hOr.out.keep hgs).cell' (I64_get hx)
     have kx0:(0:Int)≤kx:=by omega
     have kx1:(kx:Int)<n:=by have:=HN.out;omega
     obtain⟨s0,s1,s2,s3,s4,s5,s6,s7,s8⟩:=(HS.out.below hBs.out (by have:=HS.out.2.1;have:=HGB.out;omega)).of_at hkx
     have y4:=(hX.out.keep hWs.out).cell' (i:=4) rfl
     have HQ3:=Lib.hid q3
     generalize spAt spans kx=sp at *
     clear q3 hne hx
     have hBy:Hid (Arr (wr.alloc (.cells (spanC sp).toArray 34)) wr.heap.size 34 (spanC sp)):=Arr.new wr _ _
     have hby:Hid (Below wr.heap.size wr (wr.alloc (.cells (spanC sp).toArray 34))):=(Below.refl _ _).alloc (Nat.le_refl _) _
     unfold spanC at hBy hby
     go_upto_region 12 with(fail)
     clear s0 s1 s2 s3 s4 s5 s6 s7 s8 o0 y4
     generalize (wr.alloc (.cells #[.int .i64 sp.node,.int .i64 sp.parent,.int .i64 sp.entry,.int .i64 sp.from_,.int .i64 sp.to_,.int .i64 sp.kf,.int .i64 sp.kt,.bool sp.alias_,.bool sp.whole] 34))=w9 at *
     have hB9:=Lib.hid (hBs.out.trans (hby.out.mono (by have:=hBs.out.size;have:=HGB.out;omega)))
     have hW9:=Lib.hid (hWs.out.trans (hby.out.mono hWs.out.size))
     have hg9:=Lib.hid (hgs.trans (hby.out.mono hgs.size))
     obtain⟨cb,hcb⟩:∃b,wr.heap.size=b:=⟨_,rfl⟩
     rw [hcb] at hBy ⊢
     clear hcb hby hgs hBs hWs
     have z3:=hBy.out.cell' (i:=3) rfl
     have z4:=hBy.out.cell' (i:=4) rfl
     have z5:=hBy.out.cell' (i:=5) rfl
     have z6:=hBy.out.cell' (i:=6) rfl
     cases e with
     | true=>
      obtain⟨p1,p2,p3⟩:=q1
      have t1:¬sp.kf<lo:=by omega
      have t2:¬sp.from_<sp.kt:=by omega
      go_wp2_with (fail)
      go_roundw
      case rel=>exact⟨j+1,sp.to_,by omega,i64e (by omega),rfl,HQ3,hB9,hW9,hg9.out⟩
      case measure=>simp [intOf];omega
     | false=>
      obtain⟨p1,p2,p3⟩:=q1
      have t2:¬sp.from_<lo:=by omega
      go_wp2_with (fail)
      go_roundw
      case rel=>exact⟨j+1,sp.to_,by omega,i64e (by omega),rfl,HQ3,hB9,hW9,hg9.out⟩
      case measure=>simp [intOf];omega
end Go.Proofs.YtijoollonkibfaaGreatDoor
namespace Go.Proofs.YtijoollonkibfaaGreatDoor
open Go.RowKit
structure NtC (w:World) (g p:Nat) (x:JNote):Prop where
 c0:w.cell? ⟨g,p,none⟩=some (.int .i64 (x.from_:Int))
 c1:w.cell? ⟨g,p+1,none⟩=some (.int .i64 (x.to_:Int))
 c2:w.cell? ⟨g,p+2,none⟩=some (.string (mks x.text))
def NtRd (w:World) (B:Nat) (A:Option Addr) (notes:List JNote):Prop:=B≤w.heap.size∧∀i x,notes[i]? = some x→∃g,A=some ⟨g,0,none⟩∧g<B∧NtC w g (i*3) x
theorem NtRd.below {w w':World} {B B':Nat} {A:Option Addr} {notes:List JNote} (h:NtRd w B A notes) (hb:Below B' w w') (hB:B≤B'):NtRd w' B A notes:=
 ⟨Nat.le_trans h.1 hb.size,fun i x hi=>by
  obtain⟨g,e,hg,c0,c1,c2⟩:=h.2 i x hi
  exact⟨g,e,hg,by rw [hb.cell (by simp only;omega)];exact c0,by rw [hb.cell (by simp only;omega)];exact c1,by rw [hb.cell (by simp only;omega)];exact c2⟩⟩
theorem NoteCh.le {s:List Nat} {n:Nat}:∀{lo:Nat} {l:List JNote},NoteCh s n lo l→lo≤n
 | _,[],h=>h
 | _,_ :: _,h=>by have:=NoteCh.le h.2.2.2;have:=h.1;have:=h.2.1;omega
set_option maxRecDepth 20000 in
set_option maxHeartbeats 16000000 in
theorem ranges_ok {B g o c gs os cs cN:Nat} {AN:Option Addr} {nodes:List GNode} {spans:List JSpan} {notes:List JNote} {src:List Nat} (fm root:Int) (hO:OccOK nodes root spans) (hR:RngOK nodes spans src.length) (hT:NoteCh src src.length 0 notes) (hsrc:By src) (hsl:src.length≤65536) (hnl:notes.length≤65536) (hnn:nodes.length≤65536)
  (w:World) (hG:GRd w B g o nodes) (hS:SRd w B gs os spans) (hNt:NtRd w B AN notes) :
  Calls Tryz.prog 17 #[.agg #[.int .i64 fm,.string (mks src),.slice (some ⟨g,o,none⟩) nodes.length c,.int .i64 root,.slice (some ⟨gs,os,none⟩) spans.length cs,.slice AN notes.length cN]] w fun e w'=>e=.returned (.bool true)∧Below w.heap.size w w':=by
 have h1:Hid (Arr (w.alloc (.cells #[.int .i64 fm,.string (mks src),.slice (some ⟨g,o,none⟩) nodes.length c,.int .i64 root,.slice (some ⟨gs,os,none⟩) spans.length cs,.slice AN notes.length cN] 29)) w.heap.size 29 [.int .i64 fm,.string (mks src),.slice (some ⟨g,o,none⟩) nodes.length c,.int .i64 root,.slice (some ⟨gs,os,none⟩) spans.length cs,.slice AN notes.length cN]):=Arr.new w _ _
 have hB1:Hid (Below w.heap.size w (w.alloc (.cells #[.int .i64 fm,.string (mks src),.slice (some ⟨g,o,none⟩) nodes.length c,.int .i64 root,.slice (some ⟨gs,os,none⟩) spans.length cs,.slice AN notes.length cN] 29))):=(Below.refl _ _).alloc (Nat.le_refl _) _
 have HG:=Lib.hid hG
 have HS:=Lib.hid hS
 have HNT:=Lib.hid hNt
 have HO:=Lib.hid hO
 have HR:=Lib.hid hR
 have HT:=Lib.hid hT
 have hsz:(mks src).size=src.length:=size_mks _
 have hle:=Lib.hid hO.le
 clear hG hS hNt hO hR hT
 go_enter Tryz.func17,Tryz.ntmps17
 go_upto_region 1 with(fail)
 generalize w.alloc (.cells #[.int .i64 fm,.string (mks src),.slice (some ⟨g,o,none⟩) nodes.length c,.int .i64 root,.slice (some ⟨gs,os,none⟩) spans.length cs,.slice AN notes.length cN] 29)=W at *
 obtain⟨n,hn⟩:∃n,spans.length=n:=⟨_,rfl⟩
 obtain⟨N,hN⟩:∃n,nodes.length=n:=⟨_,rfl⟩
 obtain⟨M,hM⟩:∃n,notes.length=n:=⟨_,rfl⟩
 obtain⟨L,hL⟩:∃n,src.length=n:=⟨_,rfl⟩
 obtain⟨gb,hgb⟩:∃b,w.heap.size=b:=⟨_,rfl⟩
 have hgbl:=h1.out.lt
 rw [hgb] at h1 hgbl hB1 ⊢
 rw [hn,hN,hM] at h1
 rw [hL] at hsl hsz
 rw [hM] at hnl
 rw [hN] at hnn
 rw [hn] at hle
 have x1:=h1.out.cell' (i:=1) rfl
 have x4:=h1.out.cell' (i:=4) rfl
 have HN:=Lib.hid hn
 have HNN:=Lib.hid hN
 have HM:=Lib.hid hM
 have HL:=Lib.hid hL
 have HGB:=Lib.hid hgb
 have hnb:n≤4096:=hle.out
 clear hn hN hM hL hgb hle
 go_upto_region 3 with(fail)
 clear x1 x4
 go_loopw [16] (fun v wr=>∃(k:Nat),k≤n∧v=.int .i64 (k:Int)∧Hid (Below gb w wr)∧Below W.heap.size W wr) (fun v _=>n - (intOf v).toNat)
 case atStart=>exact⟨0,Nat.zero_le _,rfl,hB1,Below.refl _ _⟩
 case round=>
  obtain⟨k,hk,rfl,hBr,hgr⟩:=hrel
  by_cases hkn:k=n
  ·have hk':¬(k:Int)<n:=by omega
   go_upto_region 11 with(fail)
   have hX:=Lib.hid (h1.out.keep hgr)
   have y5:=hX.out.cell' (i:=5) rfl
   have HNr:=Lib.hid (HNT.out.below hBr.out (by have:=HNT.out.1;have:=HGB.out;omega))
   obtain⟨w8,hw8⟩:∃x:World,x=wr:=⟨_,rfl⟩
   subst hw8
   have hW8:=Lib.hid hgr
   clear hgr hk'
   go_upto_region 13 with(fail)
   clear y5
   go_loopw [7,89] (fun u v ws=>∃(j lo:Nat),j≤M∧v=.int .i64 (j:Int)∧u=.int .i64 (lo:Int)∧Hid (NoteCh src L lo (notes.drop j))∧Hid (Below gb w ws)∧Below w8.heap.size w8 ws) (fun _ v _=>M - (intOf v).toNat)
   case atStart=>exact⟨0,0,Nat.zero_le _,rfl,rfl,by rw [←HL.out];exact HT,hBr,Below.refl _ _⟩
   case round=>
    obtain⟨j,lo,hj,rfl,rfl,hch,hBs,hgs⟩:=hrel
    by_cases hjm:j=M
    ·have hj':¬(j:Int)<M:=by omega
     go_wp2_with (fail)
     go_ret
     exact⟨rfl,by rw [HGB.out];exact hBs.out⟩
    ·have hj':(j:Int)<M:=by omega
     have j0:(0:Int)≤j:=by omega
     obtain⟨x,hx⟩:∃x,notes[j]? = some x:=⟨_,List.getElem?_eq_getElem (by have:=HM.out;omega)⟩
     obtain⟨gn,rfl,hgn,n0,n1,n2⟩:=(HNr.out.below hgs (by have:=HNT.out.1;have:=HGB.out;have:=hBr.out.size;omega)).2 j x hx
     have hxd:notes.drop j=x :: notes.drop (j+1):=by
      obtain⟨hl,he⟩:=List.getElem?_eq_some_iff.1 hx
      rw [List.drop_eq_getElem_cons hl,he]
     have hch2:=hch.out
     rw [hxd] at hch2
     obtain⟨e1,e2,e3,e4⟩:=hch2
     have e5:x.to_≤L:=e4.le
     have e6:x.text=(src.take x.to_).drop x.from_:=by rw [e3,List.drop_take]
     rw [e6] at n2
     have HE4:=Lib.hid e4
     obtain⟨fr,hfr⟩:∃y,x.from_=y:=⟨_,rfl⟩
     obtain⟨te,hte⟩:∃y,x.to_=y:=⟨_,rfl⟩
     rw [hfr,hte] at n2
     rw [hfr] at n0 e1 e2
     rw [hte] at n1 e2 e5 HE4
     clear hch hxd e3 e4 e6 hfr hte hx
     have hBx:Hid (Arr (wr.alloc (.cells #[.int .i64 (fr:Int),.int .i64 (te:Int),.string (mks ((src.take te).drop fr))] 65)) wr.heap.size 65 [.int .i64 (fr:Int),.int .i64 (te:Int),.string (mks ((src.take te).drop fr))]):=Arr.new wr _ _
     have hbx:Hid (Below wr.heap.size wr (wr.alloc (.cells #[.int .i64 (fr:Int),.int .i64 (te:Int),.string (mks ((src.take te).drop fr))] 65))):=(Below.refl _ _).alloc (Nat.le_refl _) _
     go_upto_region 15 with(fail)
     clear n0 n1 n2
     generalize (wr.alloc (.cells #[.int .i64 (fr:Int),.int .i64 (te:Int),.string (mks ((src.take te).drop fr))] 65))=w9 at *
     have hB9:=Lib.hid (hBs.out.trans (hbx.out.mono (by have:=hBs.out.size;have:=HGB.out;omega)))
     have hW9:=Lib.hid (hgs.trans (hbx.out.mono hgs.size))
     obtain⟨sb,hsb⟩:∃b,wr.heap.size=b:=⟨_,rfl⟩
     rw [hsb] at hBx ⊢
     clear hsb hbx hgs
     have y1:=(hX.out.keep hW9.out).cell' (i:=1) rfl
     have z0:=hBx.out.cell' (i:=0) rfl
     have z1:=hBx.out.cell' (i:=1) rfl
     have z2:=hBx.out.cell' (i:=2) rfl
     have f1:¬(fr:Int)<lo:=by omega
     have f2:¬(te:Int)≤fr:=by omega
     have f3:¬(L:Int)<te:=by omega
     have f4:(0:Int)≤fr:=by omega
     have f5:(fr:Int)≤te:=by omega
     have f6:(te:Int)≤L:=by omega
     go_region
     have hB7:Hid (Below gb w w9.drew):=hB9.out.drew
     have hW7:Hid (Below w8.heap.size w8 w9.drew):=hW9.out.drew
     have z1':w9.drew.cell? ⟨sb,1,none⟩=some (.int .i64 (te:Int)):=z1
     generalize w9.drew=w7 at *
     go_wp2_with (fail)
     go_roundw
     case rel=>exact⟨j+1,te,by omega,i64e (by omega),rfl,HE4,hB7,hW7.out⟩
     case measure=>simp [intOf];omega
  ·have hk':(k:Int)<n:=by omega
   have k0:(0:Int)≤k:=by omega
   have hk2:k<spans.length:=by have:=HN.out;omega
   obtain⟨s0,s1,s2,s3,s4,s5,s6,s7,s8⟩:=(HS.out.below hBr.out (by have:=HS.out.2.1;have:=HGB.out;omega)).of_at hk2
   obtain⟨r1,r2,r3,r4,r5,r6⟩:=HR.out.rg k hk2
   rw [HL.out] at r3 r6
   have hkz:=Lib.hid (HR.out.kz k hk2)
   have hpar:Hid ((spAt spans k).parent = -1∨∃p m:Nat,(spAt spans k).parent=(p:Int)∧p<spans.length∧(spAt spans p).node=(m:Int)∧m<nodes.length):=by
    by_cases hk00:k=0
    ·subst hk00;exact .inl HO.out.h0.2.1
    ·obtain⟨p,m,_,e1,e2,e3,e4,_⟩:=HO.out.up k (by omega) hk2
     exact .inr ⟨p,m,e1,by omega,e3,e4⟩
   generalize spAt spans k=sp at *
   have hBx:Hid (Arr (wr.alloc (.cells (spanC sp).toArray 34)) wr.heap.size 34 (spanC sp)):=Arr.new wr _ _
   have hbx:Hid (Below wr.heap.size wr (wr.alloc (.cells (spanC sp).toArray 34))):=(Below.refl _ _).alloc (Nat.le_refl _) _
   unfold spanC at hBx hbx
   go_upto_region 5 with(fail)
   clear s0 s1 s2 s3 s4 s5 s6 s7 s8
   generalize (wr.alloc (.cells #[.int .i64 sp.node,.int .i64 sp.parent,.int .i64 sp.entry,.int .i64 sp.from_,.int .i64 sp.to_,.int .i64 sp.kf,.int .i64 sp.kt,.bool sp.alias_,.bool sp.whole] 34))=w6 at *
   have hB6:=Lib.hid (hBr.out.trans (hbx.out.mono (by have:=hBr.out.size;have:=HGB.out;omega)))
   have hW6:=Lib.hid (hgr.trans (hbx.out.mono hgr.size))
   obtain⟨sb,hsb⟩:∃b,wr.heap.size=b:=⟨_,rfl⟩
   rw [hsb] at hBx ⊢
   clear hsb hbx
   have t1:¬sp.from_<0:=by omega
   have t2:¬sp.to_<sp.from_:=by omega
   have t3:¬(L:Int)<sp.to_:=by omega
   have t4:¬sp.kf<0:=by omega
   have t5:¬sp.kt<sp.kf:=by omega
   have t6:¬(L:Int)<sp.kt:=by omega
   have z3:=hBx.out.cell' (i:=3) rfl
   have z4:=hBx.out.cell' (i:=4) rfl
   have z5:=hBx.out.cell' (i:=5) rfl
   have z6:=hBx.out.cell' (i:=6) rfl
   go_upto_region 7 with(fail)
   clear z3 z4 t1 t2 t3 t4 t5 t6
   have z1:=hBx.out.cell' (i:=1) rfl
   have z5:=hBx.out.cell' (i:=5) rfl
   have z6:=hBx.out.cell' (i:=6) rfl
   rcases hpar.out with hp | ⟨p,m,hp,hp1,hp2,hp3⟩
   ·have h0:¬(0:Int)≤sp.parent:=by omega
    obtain⟨e5,e6⟩:=hkz.out (.inl (by omega))
    rw [e5] at z5
    rw [e6] at z6
    clear hpar hkz
    go_region
    have hB7:Hid (Below gb w w6.drew):=hB6.out.drew
    have hW7:Hid (Below W.heap.size W w6.drew):=hW6.out.drew
    have z5':w6.drew.cell? ⟨sb,5,none⟩=some (.int .i64 0):=z5
    have z6':w6.drew.cell? ⟨sb,6,none⟩=some (.int .i64 0):=z6
    generalize w6.drew=w7 at *
    go_wp2_with (fail)
    go_roundw
    case rel=>exact⟨k+1,by omega,i64e (by omega),hB7,hW7.out⟩
    case measure=>simp [intOf];omega
   ·have h0:(0:Int)≤sp.parent:=by omega
    have p1:(p:Int)<n:=by have:=HN.out;omega
    have p0:(0:Int)≤p:=by omega
    have m0:(0:Int)≤m:=by omega
    have m1:(m:Int)<N:=by have:=HNN.out;omega
    have hX6:=h1.out.keep hW6.out
    have y2:=hX6.cell' (i:=2) rfl
    have y4:=hX6.cell' (i:=4) rfl
    have q0:=((HS.out.below hB6.out (by have:=HS.out.2.1;have:=HGB.out;omega)).of_at hp1).c0
    rw [hp2] at q0
    obtain⟨K,ck,I,ci,c0,_⟩:=(HG.out.below hB6.out (by have:=HG.out.2.1;have:=HGB.out;omega)).of_at hp3
    rw [hp] at z1
    by_cases h10:(ndAt nodes m).kind=10
    ·rw [h10] at c0
     clear hpar hkz h0
     go_region
     have hB7:Hid (Below gb w w6.drew):=hB6.out.drew
     have hW7:Hid (Below W.heap.size W w6.drew):=hW6.out.drew
     generalize w6.drew=w7 at *
     go_wp2_with (fail)
     go_roundw
     case rel=>exact⟨k+1,by omega,i64e (by omega),hB7,hW7.out⟩
     case measure=>simp [intOf];omega
    ·obtain⟨e5,e6⟩:=hkz.out (.inr ⟨p,m,hp,hp1,hp2,hp3,h10⟩)
     rw [e5] at z5
     rw [e6] at z6
     have h10':((ndAt nodes m).kind == 10)=false:=by simpa using h10
     clear hpar hkz h0
     generalize (ndAt nodes m).kind=kd at *
     go_region
     have hB7:Hid (Below gb w w6.drew):=hB6.out.drew
     have hW7:Hid (Below W.heap.size W w6.drew):=hW6.out.drew
     have z5':w6.drew.cell? ⟨sb,5,none⟩=some (.int .i64 0):=z5
     have z6':w6.drew.cell? ⟨sb,6,none⟩=some (.int .i64 0):=z6
     generalize w6.drew=w7 at *
     go_wp2_with (fail)
     go_roundw
     case rel=>exact⟨k+1,by omega,i64e (by omega),hB7,hW7.out⟩
     case measure=>simp [intOf];omega
end Go.Proofs.YtijoollonkibfaaGreatDoor
