/- Plain laws for span's occurrences: marks that are set one behind the other. No program is mentioned here. -/
import Derived.Test.YtijoollonkibfaaGreatDoorMSa
import Derived.Test.YtijoollonkibfaaGreatDoorMSc
import Derived.Test.YtijoollonkibfaaGreatDoorMSb
import Derived.Test.YtijoollonkibfaaGreatDoorMGj
set_option linter.unusedVariables false
set_option linter.unusedSimpArgs false
set_option linter.defProp false
set_option linter.constructorNameAsVariable false
namespace Go.Proofs.YtijoollonkibfaaGreatDoor
open Go.RowKit
def mtv (n j:Nat):List Bool:=List.replicate j true ++ List.replicate (n - j) false
theorem mtv_len {n j:Nat} (h:j≤n):(mtv n j).length=n:=by unfold mtv;simp;omega
theorem mtv_get {n j:Nat} (h:j<n):(mtv n j).getD j false=false:=by
 unfold mtv
 rw [List.getD_eq_getElem?_getD,List.getElem?_append_right (by simp),List.getElem?_replicate]
 split <;> rfl
theorem mtv_set {n j:Nat} (h:j<n):(mtv n j).set j true=mtv n (j+1):=by
 unfold mtv
 obtain⟨d,hd⟩:∃d,n - j=d+1:=⟨n - j - 1,by omega⟩
 have hd2:n - (j+1)=d:=by omega
 rw [hd,hd2,List.set_append_right _ _ (by simp)]
 simp only [List.length_replicate,Nat.sub_self,List.replicate_succ,List.set_cons_zero]
 rw [←List.replicate_succ,List.replicate_succ',List.append_assoc]
 rfl
theorem mtv_zero (n:Nat):mtv n 0=List.replicate n false:=by unfold mtv;simp
theorem defsV_succ {spans:List JSpan} {n k:Nat} (h:k<spans.length):defsV spans n (k+1)=bump (defsV spans n k) (spAt spans k).node:=by
 unfold defsV
 rw [List.take_add_one,spAt_get h]
 simp
theorem defsV_len (spans:List JSpan) (n k:Nat):(defsV spans n k).length=n:=by
 unfold defsV
 rw [bumps_len,List.length_replicate]
theorem defsV_cb (spans:List JSpan) (n:Nat):∀k,k≤spans.length→CB (defsV spans n k) k:=by
 intro k
 induction k with
 | zero=>intro _;exact CB.zero n
 | succ k ih=>
  intro h
  rw [defsV_succ (by omega)]
  exact(ih (by omega)).bump _
end Go.Proofs.YtijoollonkibfaaGreatDoor
namespace Go.Proofs.YtijoollonkibfaaGreatDoor
open Go.RowKit Go.Maps
set_option maxRecDepth 20000 in
set_option maxHeartbeats 32000000 in
theorem occurrences_ok {B g o c gs os cs : Nat} {nodes : List GNode} {spans : List JSpan} (d0 d1 d5 : Value) (root : Int) (hO : OccOK nodes root spans) (hI : Idx nodes) (hC : ChkOK nodes root) (hchk : chkV nodes root = 0) (hcs : spans.length ≤ cs)
    (w:World) (hw:LibE w) (hG:GRd w B g o nodes) (hS:SRd w B gs os spans) :
    Calls Tryz.prog 15 #[.agg #[d0,d1,.slice (some ⟨g,o,none⟩) nodes.length c,.int .i64 root,.slice (some ⟨gs,os,none⟩) spans.length cs,d5]] w fun e w'=>e=.returned (.bool true)∧Below w.heap.size w w':=by
  have h1:Hid (Arr (w.alloc (.cells #[d0,d1,.slice (some ⟨g,o,none⟩) nodes.length c,.int .i64 root,.slice (some ⟨gs,os,none⟩) spans.length cs,d5] 29)) w.heap.size 29 [d0,d1,.slice (some ⟨g,o,none⟩) nodes.length c,.int .i64 root,.slice (some ⟨gs,os,none⟩) spans.length cs,d5]):=Arr.new w _ _
  have hB1:Hid (Below w.heap.size w (w.alloc (.cells #[d0,d1,.slice (some ⟨g,o,none⟩) nodes.length c,.int .i64 root,.slice (some ⟨gs,os,none⟩) spans.length cs,d5] 29))):=(Below.refl _ _).alloc (Nat.le_refl _) _
  have HG:=Lib.hid hG
  have HS:=Lib.hid hS
  have HO:=Lib.hid hO
  have HI:=Lib.hid hI
  have HC:=Lib.hid hC
  have HW:=Lib.hid hw
  have hle:=Lib.hid hO.le
  have hne:=Lib.hid hO.ne
  have hnn:=Lib.hid hC.n1
  have DK:=Lib.hid (fun(w':World) (h':LibE w') (h:GRd w' B g o nodes)=>gcheck_any (c:=c) hC w' h' h)
  rw [hchk] at DK
  clear hG hS hO hI hC hw hchk
  go_enter Tryz.func15,Tryz.ntmps15
  go_upto_region 1 with(fail)
  generalize w.alloc (.cells #[d0,d1,.slice (some ⟨g,o,none⟩) nodes.length c,.int .i64 root,.slice (some ⟨gs,os,none⟩) spans.length cs,d5] 29)=W at *
  have DC:=Lib.hid (fun(w':World) (h:SRd w' B gs os spans)=>children_any (cs:=cs) d0 d1 (.slice (some ⟨g,o,none⟩) nodes.length c) (.int .i64 root) d5 HO.out.wf (by have:=hle.out;omega) w' h)
  obtain⟨n,hn⟩:∃n,spans.length=n:=⟨_,rfl⟩
  obtain⟨N,hN⟩:∃n,nodes.length=n:=⟨_,rfl⟩
  obtain⟨gb,hgb⟩:∃b,w.heap.size=b:=⟨_,rfl⟩
  have hgbl:=h1.out.lt
  rw [hgb] at h1 hgbl hB1 ⊢
  rw [hn,hN] at h1 DC
  rw [hN] at DK hnn
  rw [hn] at hle hne hcs
  have HN:=Lib.hid hn
  have HNN:=Lib.hid hN
  have HGB:=Lib.hid hgb
  have hnb:n≤4096:=hle.out
  have hn0:0<n:=hne.out
  have hNb:N≤4096:=hnn.out
  clear hn hN hgb hle hne hnn
  have y2:=h1.out.cell' (i:=2) rfl
  have y3:=h1.out.cell' (i:=3) rfl
  have hGx:Hid (Arr (W.alloc (.cells #[.slice (some ⟨g,o,none⟩) N c,.int .i64 root] 25)) W.heap.size 25 [.slice (some ⟨g,o,none⟩) N c,.int .i64 root]):=Arr.new W _ _
  have hbg:Hid (Below W.heap.size W (W.alloc (.cells #[.slice (some ⟨g,o,none⟩) N c,.int .i64 root] 25))):=(Below.refl _ _).alloc (Nat.le_refl _) _
  go_upto_region 2 with(fail)
  clear y2 y3
  generalize W.alloc (.cells #[.slice (some ⟨g,o,none⟩) N c,.int .i64 root] 25)=w1 at *
  have hX1:=Lib.hid (h1.out.keep hbg.out)
  have hb1:=Lib.hid (hB1.out.trans (hbg.out.mono (Nat.le_of_lt hgbl)))
  obtain⟨xb,hxb⟩:∃b,W.heap.size=b:=⟨_,rfl⟩
  rw [hxb] at hGx hgbl ⊢
  clear hxb hbg h1 hB1
  have x0:=hGx.out.cell' (i:=0) rfl
  have x1:=hGx.out.cell' (i:=1) rfl
  have hw1:=Lib.hid (HW.out.keep (by rw [HGB.out];exact hb1.out))
  have hG1:=Lib.hid (HG.out.below hb1.out (by have:=HG.out.2.1;have:=HGB.out;omega))
  have y4a:=hX1.out.cell' (i:=4) rfl
  have hnz:((n:Int) == 0)=false:=by simp;omega
  go_upto_region 4 with(go_at_call 20;((with_reducible refine(DK.out _ hw1.out hG1.out).mono ?_));rintro e w2 ⟨rfl,hb2⟩;have y4:=(hX1.out.keep hb2).cell' (i:=4) rfl)
  have hB2:=Lib.hid (hb1.out.trans (hb2.mono (by have:=hb1.out.size;have:=HGB.out;omega)))
  have hX2:=Lib.hid (hX1.out.keep hb2)
  have hGx2:=Lib.hid (hGx.out.keep hb2)
  clear y4a x0 x1 hw1 hG1 hX1 hGx hb1 hb2 y4
  have hns0:0<spans.length:=by have:=HN.out;omega
  obtain⟨s0,s1,s2,s3,s4,s5,s6,s7,s8⟩:=(HS.out.below hB2.out (by have:=HS.out.2.1;have:=HGB.out;omega)).of_at hns0
  rw [Nat.zero_mul,Nat.add_zero] at s0 s1 s2 s3 s4 s5 s6 s7 s8
  obtain⟨f0,f1,f2,f3⟩:=HO.out.h0
  rw [f0] at s0
  rw [f1] at s1
  rw [f2] at s2
  rw [f3] at s7
  clear f0 f1 f2 f3
  generalize (spAt spans 0).from_=s3v at *
  generalize (spAt spans 0).to_=s4v at *
  generalize (spAt spans 0).kf=s5v at *
  generalize (spAt spans 0).kt=s6v at *
  generalize (spAt spans 0).whole=s8v at *
  have y4:=hX2.out.cell' (i:=4) rfl
  have g0:(0:Int)<n:=by omega
  have hFx:Hid (Arr (w2.alloc (.cells #[.int .i64 root,.int .i64 (-1),.int .i64 0,.int .i64 s3v,.int .i64 s4v,.int .i64 s5v,.int .i64 s6v,.bool false,.bool s8v] 34)) w2.heap.size 34 [.int .i64 root,.int .i64 (-1),.int .i64 0,.int .i64 s3v,.int .i64 s4v,.int .i64 s5v,.int .i64 s6v,.bool false,.bool s8v]):=Arr.new w2 _ _
  have hbf:Hid (Below w2.heap.size w2 (w2.alloc (.cells #[.int .i64 root,.int .i64 (-1),.int .i64 0,.int .i64 s3v,.int .i64 s4v,.int .i64 s5v,.int .i64 s6v,.bool false,.bool s8v] 34))):=(Below.refl _ _).alloc (Nat.le_refl _) _
  go_upto_region 5 with(fail)
  clear s0 s1 s2 s3 s4 s5 s6 s7 s8 y4
  generalize (w2.alloc (.cells #[.int .i64 root,.int .i64 (-1),.int .i64 0,.int .i64 s3v,.int .i64 s4v,.int .i64 s5v,.int .i64 s6v,.bool false,.bool s8v] 34))=w3 at *
  have hB3:=Lib.hid (hB2.out.trans (hbf.out.mono (by have:=hB2.out.size;have:=HGB.out;omega)))
  have hX3:=Lib.hid (hX2.out.keep hbf.out)
  have hGx3:=Lib.hid (hGx2.out.keep hbf.out)
  obtain⟨fb,hfb⟩:∃b,w2.heap.size=b:=⟨_,rfl⟩
  rw [hfb] at hFx ⊢
  clear hfb hbf hB2 hX2 hGx2
  have z0:=hFx.out.cell' (i:=0) rfl
  have z1:=hFx.out.cell' (i:=1) rfl
  have z2:=hFx.out.cell' (i:=2) rfl
  have z7:=hFx.out.cell' (i:=7) rfl
  have x1:=hGx3.out.cell' (i:=1) rfl
  go_upto_region 7 with(fail)
  clear z0 z1 z2 z7 x1
  have y4:=hX3.out.cell' (i:=4) rfl
  have g1:(0:Int)≤1∧(1:Int)≤n:=by omega
  rcases(show cs=1∨cs≠1 by omega) with rfl | hc1
  all_goals
    go_upto_region 8 with(fail)
    clear y4
    go_loopw [55] (fun v wr=>∃(k:Nat),k≤n - 1∧v=.int .i64 (k:Int)∧Hid (Below gb w wr)∧Below w3.heap.size w3 wr) (fun v _=>n - (intOf v).toNat)
    case atStart=>exact⟨0,Nat.zero_le _,rfl,hB3,Below.refl _ _⟩
    case round=>
      obtain⟨k,hk,rfl,hBr,hgr⟩:=hrel
      by_cases hkn:k=n - 1
      · have hk1:¬(k:Int)<(n:Int) - 1:=by omega
        have hk2:¬(k:Int)<((n - 1:Nat):Int):=by omega
        have hXr:=Lib.hid (hX3.out.keep hgr)
        have hGr:=Lib.hid (hGx3.out.keep hgr)
        clear hgr
        go_upto_region 16 with(fail)
        obtain⟨w8,hw8⟩:∃x:World,x=wr:=⟨_,rfl⟩
        subst hw8
        clear hk1 hk2 hkn hk
        have x0:=hGr.out.cell' (i:=0) rfl
        go_upto_region 17 with(at_make;go_loud (refine wpList_mk rfl _ _ 38 rfl 3 _ _ Tryz.underlying38 infoInt rfl _ _ _ _ rfl rfl N N (by omega) (by omega) (by omega) (by omega) (by unfold maxLen;omega) ?_;intro db w9 hdb hD hb9 hz9))
        clear x0
        have hB9:=Lib.hid (hBr.out.trans (hb9.mono (by have:=hBr.out.size;have:=HGB.out;omega)))
        have hX9:=Lib.hid (hXr.out.keep hb9)
        have hG9:=Lib.hid (hGr.out.keep hb9)
        have hDz:Hid (Arr w9 db 3 (I64 (List.replicate N 0))):=by rw [←I64_rep];exact hD
        have l1:gb<db:=by have:=hdb.out;have:=hBr.out.size;have:=hXr.out.lt;omega
        have l0:xb<db:=by have:=hdb.out;have:=hGr.out.lt;omega
        clear hD hb9 hz9 hXr hGr hBr
        have y0:=hX9.out.cell' (i:=0) rfl
        have y1:=hX9.out.cell' (i:=1) rfl
        have y2:=hX9.out.cell' (i:=2) rfl
        have y3:=hX9.out.cell' (i:=3) rfl
        have y4:=hX9.out.cell' (i:=4) rfl
        have y5:=hX9.out.cell' (i:=5) rfl
        have hSW:=Lib.hid (HS.out.below hB9.out (by have:=HS.out.2.1;have:=HGB.out;omega))
        go_upto_region 18 with(go_at_call 32;((with_reducible refine(DC.out _ hSW.out).mono ?_));rintro e wq ⟨mb,D,rfl,hmb,hbq,hown,hkd⟩)
        clear y0 y1 y2 y3 y4 y5
        have hBa:=Lib.hid (hB9.out.trans (hbq.mono (by have:=hB9.out.size;have:=HGB.out;omega)))
        have hXa:=Lib.hid (hX9.out.keep hbq)
        have hGa:=Lib.hid (hG9.out.keep hbq)
        have hDa:=Lib.hid (hDz.out.keep hbq)
        have HOWN:=Lib.hid hown
        have HKD:=Lib.hid hkd
        have l2:db<mb:=by have:=hDz.out.lt;omega
        clear hown hkd hSW hbq hX9 hG9 hDz hB9
        have HDF:Hid (∀m,m<nodes.length→(defsV spans nodes.length spans.length).getD m 0=if (inKeysV nodes).getD m false=true then 0 else 1):=HO.out.df
        have hDd:Hid (Arr wq db 3 (I64 (defsV spans N 0))):=hDa
        have l3:xb<db:=l0
        have l4:gb≠db:=by omega
        have y4:=hXa.out.cell' (i:=4) rfl
        go_upto_region 19 with(fail)
        clear y4 hDa
        go_loopw [120] (fun v ws=>∃(k:Nat),k≤n∧v=.int .i64 (k:Int)∧Hid (Arr ws db 3 (I64 (defsV spans N k)))∧Hid (Below gb w ws)∧wq.grownBy ws (some db)) (fun v _=>n - (intOf v).toNat)
        case atStart=>exact⟨0,Nat.zero_le _,rfl,hDd,hBa,World.grownBy.refl _ _⟩
        case round=>
          obtain⟨i,hi,rfl,hDr,hBs,hgs⟩:=hrel
          have hXs:=Lib.hid (hXa.out.grown hgs (some_ne l4))
          have hGs:=Lib.hid (hGa.out.grown hgs (some_ne (Nat.ne_of_lt l3)))
          by_cases hin:i=n
          · have hi':¬(i:Int)<n:=by omega
            obtain⟨w8,hw8⟩:∃x:World,x=wr:=⟨_,rfl⟩
            subst hw8
            have g0:=hGs.out.cell' (i:=0) rfl
            have g1:=hGs.out.cell' (i:=1) rfl
            have hG8:=Lib.hid (HG.out.below hBs.out (by have:=HG.out.2.1;have:=HGB.out;omega))
            have DI0:=sinKeys_any (c:=c) (root:=root) HI.out HC.out.nl (by have:=HC.out.n1;omega) w8 hG8.out
            rw [HNN.out] at DI0
            have DI:=Lib.hid DI0
            have HIE:=Lib.hid hin
            clear DI0 hin hi
            go_upto_region 35 with(go_at_call 33;((with_reducible refine DI.out.mono ?_));rintro e w9 ⟨kb,rfl,hkb,hb9,hM9⟩)
            clear g0 g1
            have hB9:=Lib.hid (hBs.out.trans (hb9.mono (by have:=hBs.out.size;have:=HGB.out;omega)))
            have hD9:=Lib.hid (hDr.out.keep hb9)
            have hkl:Hid ((inKeysV nodes).length=N):=by
              have:=(inKeys_fold HI.out (nodes.flatMap GNode.keys) (fun k hk=>by
                obtain⟨nd,hnd,hk⟩:=List.mem_flatMap.1 hk
                obtain⟨q,hq,rfl⟩:=List.getElem_of_mem hnd
                have e:ndAt nodes q=nodes[q]:=by have:=ndAt_get hq;rw [List.getElem?_eq_getElem hq] at this;exact(Option.some.inj this).symm
                exact HI.out q hq k (by rw [e];unfold refs;exact List.mem_append.2 (.inl hk))) (noMarks nodes.length) (by simp [noMarks]) (noMarks_closed nodes _)).1
              show _=_
              unfold inKeysV
              rw [this];exact HNN.out
            go_loopw [180] (fun v ws=>∃(q:Nat),q≤N∧v=.int .i64 (q:Int)∧Below w9.heap.size w9 ws) (fun v _=>N - (intOf v).toNat)
            case atStart=>exact⟨0,Nat.zero_le _,rfl,Below.refl _ _⟩
            case round=>
              obtain⟨q,hq,rfl,hgq⟩:=hrel
              by_cases hqn:q=N
              · have hq':¬(q:Int)<N:=by omega
                go_wp2_with (fail)
                go_ret
                exact⟨rfl,by rw [HGB.out];exact hB9.out.trans (hgq.mono (by have:=hB9.out.size;have:=HGB.out;omega))⟩
              · have hq':(q:Int)<N:=by omega
                have q0:(0:Int)≤q:=by omega
                have hv:=HDF.out q (by have:=HNN.out;omega)
                rw [HN.out,HNN.out] at hv
                have m0:=(hM9.out.keep hgq).cell' (Bs_get (m:=inKeysV nodes) (k:=q) (by have:=hkl.out;omega))
                have c0:=(hD9.out.keep hgq).cell' (I64_getD (l:=defsV spans N i) (k:=q) (by rw [defsV_len];omega))
                rw [HIE.out] at c0
                rw [hv] at c0
                clear hv
                generalize (inKeysV nodes).getD q false=ib at *
                cases ib with
                | true=>
                  rw [if_pos rfl] at c0
                  go_wp2_with (fail)
                  go_roundw
                  case rel=>exact⟨q+1,by omega,i64e (by omega),hgq⟩
                  case measure=>simp [intOf];omega
                | false=>
                  rw [if_neg (by simp)] at c0
                  go_wp2_with (fail)
                  go_roundw
                  case rel=>exact⟨q+1,by omega,i64e (by omega),hgq⟩
                  case measure=>simp [intOf];omega
          · have hi':(i:Int)<n:=by omega
            have i0:(0:Int)≤i:=by omega
            have hi2:i<spans.length:=by have:=HN.out;omega
            obtain⟨s0,s1,s2,s3,s4,s5,s6,s7,s8⟩:=(HS.out.below hBs.out (by have:=HS.out.2.1;have:=HGB.out;omega)).of_at hi2
            obtain⟨m,hm,hmN,hkn⟩:=HO.out.nd i hi2
            have hsucc:=Lib.hid (defsV_succ (n:=N) hi2)
            rw [HO.out.al i hi2] at s7
            rw [hm] at s0 hsucc
            have hcb:=Lib.hid (defsV_cb spans N i (by omega))
            have m0:(0:Int)≤m:=by omega
            have m1:(m:Int)<N:=by have:=HNN.out;omega
            generalize (spAt spans i).parent=s1v at *
            generalize (spAt spans i).entry=s2v at *
            generalize (spAt spans i).from_=s3v at *
            generalize (spAt spans i).to_=s4v at *
            generalize (spAt spans i).kf=s5v at *
            generalize (spAt spans i).kt=s6v at *
            generalize (spAt spans i).whole=s8v at *
            have hBx:Hid (Arr (wr.alloc (.cells #[.int .i64 (m:Int),.int .i64 s1v,.int .i64 s2v,.int .i64 s3v,.int .i64 s4v,.int .i64 s5v,.int .i64 s6v,.bool false,.bool s8v] 34)) wr.heap.size 34 [.int .i64 (m:Int),.int .i64 s1v,.int .i64 s2v,.int .i64 s3v,.int .i64 s4v,.int .i64 s5v,.int .i64 s6v,.bool false,.bool s8v]):=Arr.new wr _ _
            have hbx:Hid (Below wr.heap.size wr (wr.alloc (.cells #[.int .i64 (m:Int),.int .i64 s1v,.int .i64 s2v,.int .i64 s3v,.int .i64 s4v,.int .i64 s5v,.int .i64 s6v,.bool false,.bool s8v] 34))):=(Below.refl _ _).alloc (Nat.le_refl _) _
            clear hm
            go_upto_region 21 with(fail)
            clear s0 s1 s2 s3 s4 s5 s6 s7 s8
            generalize (wr.alloc (.cells #[.int .i64 (m:Int),.int .i64 s1v,.int .i64 s2v,.int .i64 s3v,.int .i64 s4v,.int .i64 s5v,.int .i64 s6v,.bool false,.bool s8v] 34))=w6 at *
            have hB6:=Lib.hid (hBs.out.trans (hbx.out.mono (by have:=hBs.out.size;have:=HGB.out;omega)))
            have hX6:=Lib.hid (hXs.out.keep hbx.out)
            have hG6:=Lib.hid (hGs.out.keep hbx.out)
            have hD6:=Lib.hid (hDr.out.keep hbx.out)
            have hg6:Hid (wq.grownBy w6 (some db)):=grown_trans hgs ⟨hbx.out.os,hbx.out.tape,hbx.out.output,hbx.out.size,fun j hj _=>hbx.out.block j hj⟩
            have l5:db<wr.heap.size:=hDr.out.lt
            obtain⟨sb,hsb⟩:∃b,wr.heap.size=b:=⟨_,rfl⟩
            rw [hsb] at hBx l5 ⊢
            clear hsb hbx hBs hgs hXs hGs hDr
            have z7:=hBx.out.cell' (i:=7) rfl
            have z0:=hBx.out.cell' (i:=0) rfl
            obtain⟨hv1,hv2⟩:=hcb.out m
            have p0:=hD6.out.cell' (I64_getD (l:=defsV spans N i) (k:=m) (by rw [defsV_len];omega))
            have pf:=hD6.out.frozen m
            have hD7:Hid (Arr (w6.setCell ⟨db,m,none⟩ (.int .i64 ((defsV spans N i).getD m 0+1))) db 3 (I64 (defsV spans N (i+1)))):=by
              have h:=hD6.out.store m (.int .i64 ((defsV spans N i).getD m 0+1))
              rw [I64_set] at h
              rw [hsucc.out]
              exact h
            have hB7:=Lib.hid (hB6.out.setCell (p:=⟨db,m,none⟩) (show gb≤db by omega) (.int .i64 ((defsV spans N i).getD m 0+1)))
            have hg7:=Lib.hid (grown_trans hg6.out (grown_set w6 ⟨db,m,none⟩ (.int .i64 ((defsV spans N i).getD m 0+1))))
            have hX7:=Lib.hid (hX6.out.far (p:=⟨db,m,none⟩) l4 (.int .i64 ((defsV spans N i).getD m 0+1)))
            have hG7:=Lib.hid (hG6.out.far (p:=⟨db,m,none⟩) (Nat.ne_of_lt l3) (.int .i64 ((defsV spans N i).getD m 0+1)))
            have hS7:=Lib.hid (hBx.out.far (p:=⟨db,m,none⟩) (Nat.ne_of_gt l5) (.int .i64 ((defsV spans N i).getD m 0+1)))
            generalize (defsV spans N i).getD m 0=dv at *
            clear hsucc hcb
            go_upto_region 23 with(fail)
            clear z7 z0 p0 pf hD6 hB6 hX6 hG6 hBx hg6 hv1 hv2
            generalize (w6.setCell ⟨db,m,none⟩ (.int .i64 (dv+1)))=w7 at *
            have hHO7:Hid (w7.ownsGroups Tryz.prog 3 (mb+1) 3 .i64 mb n D):=HOWN.out.kept hg7.out (some_ne (Nat.ne_of_gt l2)) (HOWN.out.rowsAbove (fun j e=>by have:=Option.some.inj e;omega))
            have g0:=hG7.out.cell' (i:=0) rfl
            have z0:=hS7.out.cell' (i:=0) rfl
            obtain⟨K,ck,I,ci,_,_,_,_,c4,_,_⟩:=(HG.out.below hB7.out (by have:=HG.out.2.1;have:=HGB.out;omega)).of_at hmN
            obtain⟨M,hM⟩:∃y,(ndAt nodes m).items.length=y:=⟨_,rfl⟩
            have hMl:M≤4096:=by have:=kidI_len spans (i:Int) spans.length;have:=HN.out;unfold kidsV at hkn;omega
            rw [hM] at c4 hkn
            have HKN:=Lib.hid hkn
            clear hkn hM
            go_upto_region 24 with(at_make;go_loud (refine wpList_mk rfl _ _ 78 rfl 4 _ _ Tryz.underlying78 infoBool rfl _ _ _ _ rfl rfl M M (by omega) (by omega) (by omega) (by omega) (by unfold maxLen;omega) ?_;intro tb w8 htb hT hb8 hz8))
            clear g0 z0 c4
            have hTz:Hid (Arr w8 tb 4 (Bs (mtv M 0))):=by rw [mtv_zero];show Hid (Arr w8 tb 4 (Bs (noMarks M)));rw [←Bs_rep];exact hT
            have hB8:=Lib.hid (hB7.out.trans (hb8.mono (by have:=hB7.out.size;have:=HGB.out;omega)))
            have hHO8:=groups_below hHO7.out hb8 (Nat.le_refl _)
            have htb7:w7.heap.size≤tb:=by have:=htb.out;omega
            have hkey:=keyOf_int_mk (P:=Tryz.prog) (q:=.i64) (a:=(i:Int)) children_int (WalkArith.wf_i64 (by omega))
            have hnm:n<maxLen:=by unfold maxLen;omega
            clear hT hz8 htb
            go_upto_region 25 with(at_lookup;go_loud (refine wpList_lookup_groups _ rfl _ _ 76 rfl 3 38 3 .i64 (int_keyed children_int) under_kids (zero_ints _) (mb+1) mb n D rfl hHO8 hnm _ _ rfl hkey ?_;intro v zs hat hoi hzl hback;have hzk:=Lib.hid (kids_of (by rw [HN.out];exact HKD.out) hat hoi);have hne:=own_arr hoi.1 hTz.out (by decide);have hlt:=hoi.1.lt;obtain⟨A,cv,rfl,hAr,hAb⟩:=ints_shape hoi))
            have hAn:Hid (∀ad,A=some ad→ad.block≠tb∧ad.block<w8.heap.size):=fun ad e=>⟨fun e2=>hne (by rw [e,←e2];rfl),(hlt ad.block (by rw [e];rfl)).2⟩
            have hAI:Hid (Rd w8 A (I64 zs)):=hAr
            have hZM:Hid (zs.length=M):=by show _=_;rw [hzk.out];exact HKN.out
            have hZE:Hid (∀(j:Nat) (x:Int),zs[j]? = some x→∃kx:Nat,x=(kx:Int)∧kx<spans.length∧(spAt spans kx).entry=(j:Int)):=fun j x hx=>by
              rw [hzk.out] at hx
              obtain⟨i',rfl,hi',_⟩:=kidI_mem (List.mem_of_getElem? hx)
              exact⟨i',rfl,hi',by have:=HO.out.kd i j _ hi2 hx;rwa [Int.toNat_natCast] at this⟩
            clear hback hat hoi hAr hAb hlt hne hzl hHO8 hkey hzk
            rw [hZM.out]
            go_loopw [147] (fun v wt=>∃(j:Nat),j≤M∧v=.int .i64 (j:Int)∧Hid (Arr wt tb 4 (Bs (mtv M j)))∧Hid (Below gb w wt)∧Hid (Below w7.heap.size w7 wt)∧w8.grownBy wt (some tb)) (fun v _=>M - (intOf v).toNat)
            case atStart=>exact⟨0,Nat.zero_le _,rfl,hTz,hB8,hb8,World.grownBy.refl _ _⟩
            case round=>
              obtain⟨j,hj,rfl,hTr,hBt,hWt,hgt⟩:=hrel
              by_cases hjm:j=M
              · have hj':¬(j:Int)<M:=by omega
                have hHOt:=groups_below hHO7.out hWt.out (Nat.le_refl _)
                have hkey:=keyOf_int_mk (P:=Tryz.prog) (q:=.i64) (a:=(i:Int)) children_int (WalkArith.wf_i64 (by omega))
                have hDt:=Lib.hid (hD7.out.keep hWt.out)
                have hgo:Hid (wq.grownBy wr (some db)):=grown_trans hg7.out ⟨hWt.out.os,hWt.out.tape,hWt.out.output,hWt.out.size,fun j hj _=>hWt.out.block j hj⟩
                go_upto_region 33 with(at_lookup;go_loud (refine wpList_lookup_groups _ rfl _ _ 76 rfl 3 38 3 .i64 (int_keyed children_int) under_kids (zero_ints _) (mb+1) mb n D rfl hHOt hnm _ _ rfl hkey ?_;intro v2 zs2 hat2 hoi2 hzl2 hback2;have hz2:zs2.length=M:=(by rw [kids_of (by rw [HN.out];exact HKD.out) hat2 hoi2];exact HKN.out);obtain⟨A2,cv2,rfl,hAr2,hAb2⟩:=ints_shape hoi2;clear hback2 hat2 hoi2 hzl2 hAr2 hAb2))
                go_wp2_with (fail)
                go_roundw
                case rel=>exact⟨i+1,by omega,i64e (by omega),hDt,hBt,hgo.out⟩
                case measure=>simp [intOf];omega
              · have hj':(j:Int)<M:=by omega
                have j0:(0:Int)≤j:=by omega
                obtain⟨x,hx⟩:∃x,zs[j]? = some x:=⟨_,List.getElem?_eq_getElem (by have:=hZM.out;omega)⟩
                obtain⟨kx,rfl,hkx,hent⟩:=hZE.out j x hx
                obtain⟨ad,rfl,ha⟩:=(hAI.out.grown hgt (fun ad e e2=>(hAn.out ad e).1 (Option.some.inj e2))).at_ (I64_get hx)
                obtain⟨s0,s1,s2,s3,s4,s5,s6,s7,s8⟩:=(HS.out.below hBt.out (by have:=HS.out.2.1;have:=HGB.out;omega)).of_at hkx
                rw [hent] at s2
                have k0:(0:Int)≤kx:=by omega
                have k1:(kx:Int)<n:=by have:=HN.out;omega
                have y4:=(hX7.out.keep hWt.out).cell' (i:=4) rfl
                have p0:=hTr.out.cell' (Bs_get (m:=mtv M j) (k:=j) (by rw [mtv_len (by omega)];omega))
                rw [mtv_get (by omega)] at p0
                have pf:=hTr.out.frozen j
                have hT3:Hid (Arr (wr.setCell ⟨tb,j,none⟩ (.bool true)) tb 4 (Bs (mtv M (j+1)))):=by
                  have h:=hTr.out.store j (.bool true)
                  rw [Bs_set,mtv_set (by omega)] at h
                  exact h
                have hB3:=Lib.hid (hBt.out.setCell (p:=⟨tb,j,none⟩) (show gb≤tb by have:=hB7.out.size;have:=HGB.out;omega) (.bool true))
                have hW3:=Lib.hid (hWt.out.setCell (p:=⟨tb,j,none⟩) (show w7.heap.size≤tb from htb7) (.bool true))
                have hg3:=Lib.hid (grown_trans hgt (grown_set wr ⟨tb,j,none⟩ (.bool true)))
                clear hx hent s0 s1 s3 s4 s5 s6 s7 s8
                go_wp2_with (fail)
                go_roundw
                case rel=>exact⟨j+1,by omega,i64e (by omega),hT3,hB3,hW3,hg3.out⟩
                case measure=>simp [intOf];omega
      · have hk1:(k:Int)<(n:Int) - 1:=by omega
        have hk2:(k:Int)<((n - 1:Nat):Int):=by omega
        first
          | (exfalso;omega)
          | (obtain ⟨p, m, t, e1, e2, e3, e4, e5, e6⟩ := HO.out.up (k + 1) (by omega) (by have := HN.out; omega)
             have hkl:k+1<spans.length:=by have:=HN.out;omega
             obtain⟨s0,s1,s2,s3,s4,s5,s6,s7,s8⟩:=(HS.out.below hBr.out (by have:=HS.out.2.1;have:=HGB.out;omega)).of_at hkl
             have eo:os+(k+1)*9=os+9+k*9:=by omega
             rw [eo] at s0 s1 s2 s3 s4 s5 s6 s7 s8
             rw [e1] at s1
             have k0:(0:Int)≤k:=by omega
             generalize spAt spans (k+1)=sp at *
             have E5:=Lib.hid e5
             clear e5
             have hBx:Hid (Arr (wr.alloc (.cells #[.int .i64 sp.node,.int .i64 (p:Int),.int .i64 sp.entry,.int .i64 sp.from_,.int .i64 sp.to_,.int .i64 sp.kf,.int .i64 sp.kt,.bool sp.alias_,.bool sp.whole] 34)) wr.heap.size 34 [.int .i64 sp.node,.int .i64 (p:Int),.int .i64 sp.entry,.int .i64 sp.from_,.int .i64 sp.to_,.int .i64 sp.kf,.int .i64 sp.kt,.bool sp.alias_,.bool sp.whole]):=Arr.new wr _ _
             have hbx:Hid (Below wr.heap.size wr (wr.alloc (.cells #[.int .i64 sp.node,.int .i64 (p:Int),.int .i64 sp.entry,.int .i64 sp.from_,.int .i64 sp.to_,.int .i64 sp.kf,.int .i64 sp.kt,.bool sp.alias_,.bool sp.whole] 34))):=(Below.refl _ _).alloc (Nat.le_refl _) _
             clear eo
             go_upto_region 10 with(fail)
             clear s0 s1 s2 s3 s4 s5 s6 s7 s8
             generalize (wr.alloc (.cells #[.int .i64 sp.node,.int .i64 (p:Int),.int .i64 sp.entry,.int .i64 sp.from_,.int .i64 sp.to_,.int .i64 sp.kf,.int .i64 sp.kt,.bool sp.alias_,.bool sp.whole] 34))=w6 at *
             have hB6:=Lib.hid (hBr.out.trans (hbx.out.mono (by have:=hBr.out.size;have:=HGB.out;omega)))
             have hW6:=Lib.hid (hgr.trans (hbx.out.mono hgr.size))
             obtain⟨sb,hsb⟩:∃b,wr.heap.size=b:=⟨_,rfl⟩
             rw [hsb] at hBx ⊢
             clear hsb hbx hgr hBr hk1 hk2 hkl
             have hX6:=hX3.out.keep hW6.out
             have y4:=hX6.cell' (i:=4) rfl
             have hG6:=hGx3.out.keep hW6.out
             have x0:=hG6.cell' (i:=0) rfl
             have hpl:p<spans.length:=by have:=HN.out;omega
             have hsp:=(HS.out.below hB6.out (by have:=HS.out.2.1;have:=HGB.out;omega)).of_at hpl
             have q0:=hsp.c0
             have q7:=hsp.c7
             rw [e3] at q0
             rw [HO.out.al p hpl] at q7
             obtain⟨K,ck,I,ci,_,_,_,_,c4,_,hIt,_⟩:=(HG.out.below hB6.out (by have:=HG.out.2.1;have:=HGB.out;omega)).of_at e4
             have htl:=(List.getElem?_eq_some_iff.1 e6).1
             obtain⟨ai,rfl,hit⟩:=hIt.at_ (I64_get e6)
             obtain⟨ln,hln⟩:∃y,(ndAt nodes m).items.length=y:=⟨_,rfl⟩
             rw [hln] at c4 htl
             have m0:(0:Int)≤m:=by omega
             have m1:(m:Int)<N:=by have:=HNN.out;omega
             have p0:(0:Int)≤p:=by omega
             have p1:(p:Int)<n:=by have:=HN.out;omega
             have p2:¬(k:Int)<p:=by omega
             have e5:=E5.out
             have t0:(0:Int)≤sp.entry:=by omega
             have t3:¬sp.entry<0:=by omega
             have t1:sp.entry<ln:=by omega
             have t2:¬(ln:Int)≤sp.entry:=by omega
             rw [show t=sp.entry.toNat by omega] at hit
             clear hsp e1 e2 e3 e4 e5 e6 hpl hln hIt htl
             have z0:=hBx.out.cell' (i:=0) rfl
             have z1:=hBx.out.cell' (i:=1) rfl
             have z2:=hBx.out.cell' (i:=2) rfl
             go_upto_region 12 with(fail)
             clear q7
             go_region
             have hB7:Hid (Below gb w w6.drew):=hB6.out.drew
             have hW7:Hid (Below w3.heap.size w3 w6.drew):=hW6.out.drew
             have z0':w6.drew.cell? ⟨sb,0,none⟩=some (.int .i64 sp.node):=z0
             have z2':w6.drew.cell? ⟨sb,2,none⟩=some (.int .i64 sp.entry):=z2
             have hit':w6.drew.cell? (ai.add sp.entry.toNat)=some (.int .i64 sp.node):=hit
             generalize w6.drew=w7 at *
             go_wp2_with (fail)
             clear z0 z2 hit hX6 y4 hG6 x0 q0 c4 m0 m1 p0 p1 p2 hBx z1
             have a1:¬(ln:Int)≤sp.entry:=by omega
             have a2:¬sp.entry<0:=by omega
             go_region
             have hB8:Hid (Below gb w w7.drew):=hB7.out.drew
             have hW8:Hid (Below w3.heap.size w3 w7.drew):=hW7.out.drew
             generalize w7.drew=w8 at *
             clear z0' z2' hit' t0 t1 t2 t3 a1 a2 hB7 hW7
             go_wp2_with (fail)
             go_roundw
             case rel=>exact⟨k+1,by omega,i64e (by omega),hB8,hW8.out⟩
             case measure=>simp [intOf];omega)
end Go.Proofs.YtijoollonkibfaaGreatDoor
