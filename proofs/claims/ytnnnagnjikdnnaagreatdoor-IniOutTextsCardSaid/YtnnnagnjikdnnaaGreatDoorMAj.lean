/- The walk of the parser's items, given what a value does. -/
import Derived.Test.YtnnnagnjikdnnaaGreatDoorMAi
import Derived.Deep.CutBlock
import Derived.Test.YtnnnagnjikdnnaaGreatDoorMAf
import Derived.Test.YtnnnagnjikdnnaaGreatDoorMAe
set_option linter.unusedVariables false
set_option linter.unusedSimpArgs false
set_option linter.defProp false
set_option linter.constructorNameAsVariable false
namespace Go.Proofs.YtnnnagnjikdnnaaGreatDoor
open Go.RowKit
theorem lenNK_eq {w:World} {N:Nat} {a b c vk:Value} {A:Option Addr} {l cp:Nat} (h:Arr w N 30 [a,b,c,vk,.slice A l cp]):lenNK N w=l:=by
 unfold lenNK
 rw [h.cell' (i:=4) (u:=.slice A l cp) rfl]
def ItemsR (w0:World) (F0:Nat→Prop) (lab0:Nat→Option Nat) (B N n0:Nat) (kd:Int) (s:List Nat) (x:Nat→Prop) (ks is:List Int) (st:KSt) (e:Ending) (w':World):Prop:=
 e=.returned (.tuple #[])∧∃vn ncs lab vk vi,ItK w0 F0 lab0 B N n0 kd s x w' vn ncs lab vk vi ks is st
def ItX (w0:World) (F0:Nat→Prop) (lab0:Nat→Option Nat) (B N n0:Nat) (kd:Int) (s:List Nat) (x:Nat→Prop) (ks is:List Int) (st:KSt) (w':World):Prop:=
 ∃vn ncs lab vk vi,ItK w0 F0 lab0 B N n0 kd s x w' vn ncs lab vk vi ks is st
theorem keyK_len {vk:KSt→Option (Nat×KSt)} {s:List Nat} {mp:Bool} {ks ks2:List Int} {st s2:KSt} (h:keyK vk s mp ks st=some (ks2,s2)):ks2.length≤ks.length+1:=by
 unfold keyK at h
 split at h
 ·split at h
  ·cases h
  ·split at h
   ·have e:_=ks2:=congrArg Prod.fst (Option.some.inj h)
    rw [←e,List.length_append,List.length_singleton]
    exact Nat.le_refl _
   ·cases h
 ·have e:ks=ks2:=congrArg Prod.fst (Option.some.inj h)
  rw [e]
  omega
set_option maxRecDepth 20000 in
set_option maxHeartbeats 32000000 in
theorem kitems_any {B d n0 en:Nat} {kd:Int} {s:List Nat} {x:Nat→Prop} {mp:Bool} {vkf:KSt→Option (Nat×KSt)} (hs:By s) (hl:s.length≤65536) (hd:d≤32) (hx:x n0) (hmp:(kd == 10)=mp)
  (hV:∀st k st' vn ncs lab w,vkf st=some (k,st')→KM w B s vn ncs lab x st→Calls Tryz.prog 61 #[.pointer (some ⟨B,0,none⟩),.int .i64 ((d:Int)+1)] w (ValRK B s x w vn lab st k st'))
  {w0 w:World} {F0:Nat→Prop} {lab0 lab:Nat→Option Nat} {N f0:Nat} {vn vk vi:Value} {ncs:List Value} {ks' is':List Int} {st st':KSt} (h:ItK w0 F0 lab0 B N n0 kd s x w vn ncs lab vk vi [] [] st) (hi:st.i<s.length)
  (hp:itemsK vkf s en mp f0 [] [] { st with i:=st.i+1 } = some (ks',is',st')) :
  Calls Tryz.prog 94 #[.pointer (some ⟨B,0,none⟩),.pointer (some ⟨N,0,none⟩),.int .u8 (en:Int),.int .i64 (d:Int)] w (ItemsR w0 F0 lab0 B N n0 kd s x ks' is' st'):=by
 obtain⟨n,hn⟩:∃n,s.length=n:=⟨_,rfl⟩
 have HS:=Lib.hid hs
 have HN:=Lib.hid hn
 have HV:=Lib.hid hV
 have HX:=Lib.hid hx
 have HMP:=Lib.hid hmp
 have HI0:Hid (ItK w0 F0 lab0 B N n0 kd s x (w.setCell ⟨B,1,none⟩ (.int .i64 ((st.i:Int)+1))) vn ncs lab vk vi [] [] { st with i:=st.i+1 }):=h.setI (st.i+1)
 have HR0:Hid (∃g,itemsK vkf s en mp g [] [] { st with i:=st.i+1 } = some (ks',is',st')):=⟨_,hp⟩
 have c1:=h.km.c1
 have cf:=h.km.f 1
 rw [hn] at hl hi
 obtain⟨i0,hi0⟩:∃i0,st.i=i0:=⟨_,rfl⟩
 have hd1:(d:Int)≤32:=by omega
 rw [hi0] at c1 hi HI0 HR0
 clear hs hn hV hx hmp h hp hi0
 go_enter Tryz.func94,Tryz.ntmps94
 go_upto_region 1 with(fail)
 generalize (w.setCell ⟨B,1,none⟩ (.int .i64 ((i0:Int)+1)))=w1 at *
 clear c1 cf
 have HX0:Hid (ItX w0 F0 lab0 B N n0 kd s x [] [] ⟨i0+1,st.nodes⟩ w1):=⟨_,_,_,_,_,HI0.out⟩
 have HRx:Hid (∃g,itemsK vkf s en mp g [] [] ⟨i0+1,st.nodes⟩=some (ks',is',st')):=HR0.out
 clear HI0 HR0
 go_loopw [] (fun wr=>∃(ks is:List Int) (st1:KSt),is.length≤4097∧ks.length≤is.length∧Hid (ItX w0 F0 lab0 B N n0 kd s x ks is st1 wr)∧Hid (∃g,itemsK vkf s en mp g ks is st1=some (ks',is',st'))) (fun wr=>5000 - lenNK N wr)
 case atStart=>exact⟨[],[],_,by decide,by decide,HX0,HRx⟩
 case round=>
  clear HX0 HRx
  obtain⟨ks,is,st1,hil,hkl,hXr,hRr⟩:=hrel
  obtain⟨vn1,ncs1,lab1,vk1,vi1,hI⟩:=hXr.out
  obtain⟨g,hg⟩:=hRr.out
  cases g with
  | zero=>cases hg
  | succ g=>
   rw [itemsK] at hg
   split at hg
   ·cases hg
   ·rename_i c hc
    obtain⟨i1,n1⟩:=st1
    have hcn:=(List.getElem?_eq_some_iff.1 hc).1
    rw [HN.out] at hcn
    have HI:=Lib.hid hI
    obtain⟨Ai,ci,rfl,hi1,hi2⟩:=own_slice hI.ri.1
    have D1:Hid (∀m,Calls Tryz.prog 89 #[.pointer (some ⟨B,0,none⟩)] (wr.drewN m) (RetB c (wr.drewN m))):=fun m=>knext_any hc HS.out (wr.drewN m) HI.out.km.par
    have c0:=hI.km.c0
    have c1:=hI.km.c1
    have hsz:(mks s).size=n:=by rw [size_mks];exact HN.out
    have HLN:=Lib.hid (lenNK_eq hI.nd)
    have HHC:=Lib.hid hc
    clear hI hXr hRr hc
    dsimp only at c1 hcn
    have j0:(0:Int)≤i1:=by omega
    have j1:(i1:Int)<n:=by omega
    by_cases hce:c=en
    ·subst hce
     rw [if_pos rfl] at hg
     have hft:=Option.some.inj hg
     have e1:ks=ks':=congrArg Prod.fst hft
     have e2:is=is':=congrArg (fun p=>p.2.1) hft
     have e3:(⟨i1+1,n1⟩:KSt)=st':=congrArg (fun p=>p.2.2) hft
     subst e1
     subst e2
     subst e3
     have i2:decide ((n:Int)≤i1)=false:=by simp;omega
     have cf:=HI.out.km.f 1
     clear hg hft
     go_upto_region 1 with(fail)
     go_quiet (((go_at_call 89;exact Calls.quiet_of (D1.out _))))
     have hF:Hid (ItX w0 F0 lab0 B N n0 kd s x ks is ⟨i1+1,n1⟩ ((wr.drewN nq).setCell ⟨B,1,none⟩ (.int .i64 ((i1:Int)+1)))):=⟨_,_,_,_,_,(HI.out.drewN nq).setI (i1+1)⟩
     clear HI D1
     go_wp2_with (fail)
     go_end0
     exact⟨rfl,hF.out⟩
    ·rw [if_neg hce] at hg
     have m1:((c:Int) == en)=false:=by simp;omega
     have m2:((c:Int) != en)=true:=by simp;omega
     split at hg
     ·cases hg
     rename_i sc hsc
     split at hg
     ·cases hg
     rename_i ks2 s2 hk2
     split at hg
     ·cases hg
     rename_i v s3 hv3
     split at hg
     ·rename_i hb
      have HSC:=Lib.hid hsc
      have HK2:=Lib.hid hk2
      have HV3:=Lib.hid hv3
      have HG:=Lib.hid hg
      have HB:=Lib.hid hb
      clear hsc hk2 hv3 hg hb
      go_upto_region 1 with(fail)
      go_quiet (((go_at_call 89;exact Calls.quiet_of (D1.out _))))
      have HI2:=Lib.hid (HI.out.drewN nq)
      generalize wr.drewN nq=w2 at *
      clear HI D1 c0 c1 m1 m2 hce
      have z4:=HI2.out.nd.cell' (i:=4) rfl
      go_upto_if 36 with(fail)
      go_cut [] from 15 to 71 (fun wx=>ItX w0 F0 lab0 B N n0 kd s x ks is sc wx)
      case first=>
       have hsc:=HSC.out
       unfold commaK at hsc
       by_cases h0:is.length=0
       ·rw [if_pos h0] at hsc
        obtain rfl:=Option.some.inj hsc
        have HF:Hid (ItX w0 F0 lab0 B N n0 kd s x ks is ⟨i1,n1⟩ w2):=⟨_,_,_,_,_,HI2.out⟩
        have hp:¬(0:Int)<is.length:=by omega
        clear hsc HI2 HSC
        go_wp2_with (fail)
        go_meet
        exact HF.out
       ·rw [if_neg h0] at hsc
        split at hsc
        ·rename_i h44
         obtain rfl:=Option.some.inj hsc
         have hp:(0:Int)<is.length:=by omega
         have D:Hid (Calls Tryz.prog 93 #[.pointer (some ⟨B,0,none⟩),.int .u8 44] w2 (TookK B i1 w2)):=ktake_any h44 HS.out (by rw [HN.out];exact hl) w2 HI2.out.km.par
         have HF:Hid (∀w3,AtW w2 B (i1+1) w3→ItX w0 F0 lab0 B N n0 kd s x ks is ⟨i1+1,n1⟩ w3):=fun w3 h=>⟨_,_,_,_,_,HI2.out.atw h⟩
         clear hsc HI2 HSC h44
         go_wp2_with (go_at_call 93;((with_reducible refine D.out.mono ?_));rintro e w3 ⟨rfl,hk3⟩)
         go_meet
         exact HF.out _ hk3
        ·cases hsc
      case rest=>
       obtain⟨w4,hw4⟩:∃x,x=wc:=⟨_,rfl⟩
       subst hw4
       clear HI2 hi1 hi2 z4
       obtain⟨vn4,ncs4,lab4,vk4,vi4,hI4⟩:=hcut
       have HI4:=Lib.hid hI4
       obtain⟨Ak,ck,rfl,hk1,hk2⟩:=own_slice hI4.rk.1
       have z0:=hI4.nd.cell' (i:=0) rfl
       have z3:=hI4.nd.cell' (i:=3) rfl
       have zf3:=hI4.nd.frozen 3
       have lN:=hI4.nd.lt
       have lNB:=hI4.ne
       clear hI4
       go_upto_if 43 with(fail)
       go_cut [] from 15 to 71 (fun wx=>ItX w0 F0 lab0 B N n0 kd s x ks2 is s2 wx)
       case first=>
        have hm:=HMP.out
        have hk:=HK2.out
        unfold keyK at hk
        cases mp with
        | false=>
         obtain⟨rfl,rfl⟩:ks=ks2∧sc=s2:=by
          have h:=Option.some.inj hk
          exact⟨congrArg Prod.fst h,congrArg Prod.snd h⟩
         have HF:Hid (ItX w0 F0 lab0 B N n0 kd s x ks is sc w4):=⟨_,_,_,_,_,HI4.out⟩
         clear hk HI4 HK2
         go_wp2_with (fail)
         go_meet
         exact HF.out
        | true=>
         rw [if_pos rfl] at hk
         split at hk
         ·cases hk
         rename_i kk sk hkk
         split at hk
         ·rename_i h61
          obtain⟨rfl,rfl⟩:ks ++ [(kk:Int)]=ks2∧(⟨sk.i+1,sk.nodes⟩:KSt)=s2:=by
           have h:=Option.some.inj hk
           exact⟨congrArg Prod.fst h,congrArg Prod.snd h⟩
          have H61:=Lib.hid h61
          have DV:=Lib.hid (HV.out sc kk sk _ _ _ w4.drew hkk HI4.out.drew.km)
          clear hk h61 hkk HK2
          have hwr:IntKind.i64.wrap ((d:Int)+1)=(d:Int)+1:=IntWalk.i64_in _ (by omega)
          go_upto_region 5 with(fail)
          go_cut [] from 15 to 71 (fun wx=>ItX w0 F0 lab0 B N n0 kd s x (ks ++ [(kk:Int)]) is sk wx)
          case first=>
           rw [kload_eq 28 (.tmp 47)]
           go_region_held3 (fun _=>True) (trivial) (first | (go_at_call 61;((with_reducible refine DV.out.mono ?_));rintro e w6 ⟨rfl,hv6⟩;obtain⟨vn6,ncs6,lab6,hI6⟩:=HI4.out.drew.call (show ValRK B s x w4.drew vn4 lab4 sc kk sk _ w6 from⟨rfl,hv6⟩);have HI6:=Lib.hid hI6;have x3:=hI6.nd.cell' (i:=3) rfl;have lN6:=hI6.nd.lt;have hbA:Below w6.heap.size w6 (w6.alloc (.cells #[.int .i64 (kk:Int)] 3)):=(Below.refl _ _).alloc (Nat.le_refl _) _;have x3':(w6.alloc (.cells #[.int .i64 (kk:Int)] 3)).cell? ⟨N,3,none⟩=some (.slice Ak ks.length ck):=(hbA.cell lN6).trans x3;have lB6:=hI6.km.lt;clear hI6 hv6 hbA) | (refine step_apS rfl (.tmp 48) (.tmp 53) 28 rfl B 3 _ 1 _ Tryz.underlying28 Tryz.info3 rfl (by decide) _ ks.length (I64 ks) rfl (HI6.out.rk.1.alloc _) ⟨w6.heap.size,0,none⟩ _ [.int .i64 (kk:Int)] rfl rfl (cells_new _ _ _) rfl (by unfold maxLen;omega) (by omega) (by simp;omega) ?_;intro v8 w8 hown8 hgr8 hat8;obtain⟨A8,c8,rfl,hc8,hm8⟩:=own_slice hown8;have PA:=arr_grew HI6.out.nd HI6.out.rk.1 (by decide) hgr8;have q8:=PA.frozen 3;have z8:=PA.cell' (i:=3) rfl;have HJ:=Lib.hid (HI6.out.pushK HX.out hown8 hgr8 hat8);clear PA hown8 hgr8 hat8))
           all_goals
            go_wp2_with (fail)
            go_meet
            exact⟨_,_,_,_,_,HJ.out⟩
          case rest=>
           obtain⟨w6,hw6⟩:∃x,x=wc:=⟨_,rfl⟩
           subst hw6
           obtain⟨vn6,ncs6,lab6,vk6,vi6,hI6⟩:=hcut
           have HI6:=Lib.hid hI6
           have D6:Hid (Calls Tryz.prog 93 #[.pointer (some ⟨B,0,none⟩),.int .u8 61] w6 (TookK B sk.i w6)):=ktake_any H61.out HS.out (by rw [HN.out];exact hl) w6 hI6.km.par
           have HF:Hid (∀w3,AtW w6 B (sk.i+1) w3→ItX w0 F0 lab0 B N n0 kd s x (ks ++ [(kk:Int)]) is ⟨sk.i+1,sk.nodes⟩ w3):=fun w3 h=>⟨_,_,_,_,_,HI6.out.atw h⟩
           clear hI6 HI6 HI4 DV z0 z3 zf3
           go_wp2_with (go_at_call 93;((with_reducible refine D6.out.mono ?_));rintro e w3 ⟨rfl,hk3⟩)
           go_meet
           exact HF.out _ hk3
         ·cases hk
       case rest=>
        clear HI4 hk1 hk2 z0 z3 zf3 lN lNB
        obtain⟨w5,hw5⟩:∃x,x=wc:=⟨_,rfl⟩
        subst hw5
        obtain⟨vn5,ncs5,lab5,vk5,vi5,hI5⟩:=hcut
        have HI5:=Lib.hid hI5
        obtain⟨Ai,ci,rfl,hi1,hi2⟩:=own_slice hI5.ri.1
        have DV:=Lib.hid (HV.out s2 v s3 _ _ _ w5.drew HV3.out hI5.drew.km)
        have z4:=hI5.nd.cell' (i:=4) rfl
        have lN:=hI5.nd.lt
        have lNB:=hI5.ne
        have hb4:=HB.out.2
        clear hI5
        have hwr:IntKind.i64.wrap ((d:Int)+1)=(d:Int)+1:=IntWalk.i64_in _ (by omega)
        go_upto_region 7 with(fail)
        rw [kload_eq 28 (.tmp 62)]
        go_region_held3 (fun _=>True) (trivial) (first | (go_at_call 61;((with_reducible refine DV.out.mono ?_));rintro e w6 ⟨rfl,hv6⟩;obtain⟨vn6,ncs6,lab6,hI6⟩:=HI5.out.drew.call (show ValRK B s x w5.drew vn5 lab5 s2 v s3 _ w6 from⟨rfl,hv6⟩);have HI6:=Lib.hid hI6;have x3:=hI6.nd.cell' (i:=4) rfl;have lN6:=hI6.nd.lt;have hbA:Below w6.heap.size w6 (w6.alloc (.cells #[.int .i64 (v:Int)] 3)):=(Below.refl _ _).alloc (Nat.le_refl _) _;have x3':(w6.alloc (.cells #[.int .i64 (v:Int)] 3)).cell? ⟨N,4,none⟩=some (.slice Ai is.length ci):=(hbA.cell lN6).trans x3;have lB6:=hI6.km.lt;clear hI6 hv6 hbA) | (refine step_apS rfl (.tmp 63) (.tmp 68) 28 rfl B 3 _ 1 _ Tryz.underlying28 Tryz.info3 rfl (by decide) _ is.length (I64 is) rfl (HI6.out.ri.1.alloc _) ⟨w6.heap.size,0,none⟩ _ [.int .i64 (v:Int)] rfl rfl (cells_new _ _ _) rfl (by unfold maxLen;omega) (by omega) (by simp;omega) ?_;intro v8 w8 hown8 hgr8 hat8;obtain⟨A8,c8,rfl,hc8,hm8⟩:=own_slice hown8;have PA:=arr_grew HI6.out.nd HI6.out.ri.1 (by decide) hgr8;have q8:=PA.frozen 4;have z8:=PA.cell' (i:=4) rfl;have HJ:=Lib.hid (HI6.out.pushI HX.out hown8 hgr8 hat8);have hl7:=lenNK_eq HJ.out.nd;have HL7:=Lib.hid hl7;clear PA hown8 hgr8 hat8 hl7))
        all_goals
         have HX7:Hid (ItX w0 F0 lab0 B N n0 kd s x ks2 (is ++ [(v:Int)]) s3 (w8.setCell ⟨N,4,none⟩ (.slice A8 (is.length+1) c8))):=⟨_,_,_,_,_,HJ.out⟩
         clear HJ HI6 HI5 DV z4 x3 x3' lN lNB lN6 lB6 q8 z8
         go_wp2_with (fail)
         go_roundw
         case rel=>exact⟨ks2,is ++ [(v:Int)],s3,by rw [List.length_append,List.length_singleton];omega,by rw [List.length_append,List.length_singleton];have:=keyK_len HK2.out;omega,HX7,Lib.hid ⟨g,HG.out⟩⟩
         case measure=>rw [HL7.out,HLN.out];omega
     ·cases hg
end Go.Proofs.YtnnnagnjikdnnaaGreatDoor
namespace Go.Proofs.YtnnnagnjikdnnaaGreatDoor
open Go.RowKit
abbrev zNdK:List Value:=[.int .i64 0,.string ⟨#[]⟩,.bool false,.slice none 0 0,.slice none 0 0]
def FinK (w0:World) (F0:Nat→Prop) (lab0:Nat→Option Nat) (B N n0:Nat) (s:List Nat) (x:Nat→Prop) (k:Nat) (st':KSt) (wx:World):Prop:=
 ∃vn ncs lab vk vi nd,∃st2:KSt,KM wx B s vn ncs lab x st2∧Arr wx N 30 [.int .i64 nd.kind,.string (mks nd.text),.bool nd.ord,vk,vi]∧BRow wx B lab (2*n0+2) vk nd.keys∧BRow wx B lab (2*n0+3) vi nd.items ∧
  PStep w0 wx F0 (fun g=>KF B vn lab g∨g=N)∧KRows w0 B lab0 n0 wx lab∧¬KF B vn lab N∧n0<st2.nodes.length∧k=n0∧st'=⟨st2.i,st2.nodes.set n0 nd⟩
theorem ItK.fin {w0 wr:World} {F0:Nat→Prop} {lab0 lab:Nat→Option Nat} {B N n0:Nat} {kd:Int} {s:List Nat} {x:Nat→Prop} {vn vk vi:Value} {ncs:List Value} {ks is:List Int} {st2 st':KSt} {k:Nat}
  (h:ItK w0 F0 lab0 B N n0 kd s x wr vn ncs lab vk vi ks is st2) (hk:k=n0) (hs:st'=⟨st2.i,st2.nodes.set n0 ⟨kd,[],false,ks,is⟩⟩):FinK w0 F0 lab0 B N n0 s x k st' wr:=
 ⟨vn,ncs,lab,vk,vi,⟨kd,[],false,ks,is⟩,st2,h.km,h.nd,h.rk,h.ri,h.ps,h.rows,h.far,h.nn,hk,hs⟩
theorem ItK.kind {w0 wr:World} {F0:Nat→Prop} {lab0 lab:Nat→Option Nat} {B N n0:Nat} {kd:Int} {s:List Nat} {x:Nat→Prop} {vn vk vi:Value} {ncs:List Value} {ks is:List Int} {st2:KSt}
  (h:ItK w0 F0 lab0 B N n0 kd s x wr vn ncs lab vk vi ks is st2) (kd2:Int):ItK w0 F0 lab0 B N n0 kd2 s x (wr.setCell ⟨N,0,none⟩ (.int .i64 kd2)) vn ncs lab vk vi ks is st2:=
 ⟨h.km.far (p:=⟨N,0,none⟩) h.far _,h.nd.store 0 _,h.rk.farK (p:=⟨N,0,none⟩) h.far _,h.ri.farK (p:=⟨N,0,none⟩) h.far _,h.ps.trans (cstep_set (.inr rfl) 0 _),fun t v xs ht hr=>(h.rows t v xs ht hr).farK (p:=⟨N,0,none⟩) h.far _,h.far,h.nn⟩
theorem PStep.newN {w w':World} {F F':Nat→Prop} {N:Nat} (h:PStep w w' F F') (hN:w.heap.size≤N):PStep w w' F (fun g=>F' g∨g=N):=⟨h.os,h.tape,h.output,h.size,h.keep,fun g hg=>hg.elim (h.new g) (fun e=>.inr (by rw [e];exact hN))⟩
theorem nil_row (w:World) (B:Nat) (lab:Nat→Option Nat) (t:Nat):BRow w B lab t (.slice none 0 0) []:=⟨World.ownsRow_nil _ _ _ _,fun g e=>by simp [Value.ownBlock] at e⟩
theorem ItK.text {w0 wr:World} {F0:Nat→Prop} {lab0 lab:Nat→Option Nat} {B N n0:Nat} {kd:Int} {s:List Nat} {x:Nat→Prop} {vn:Value} {ncs:List Value} {st2 st':KSt} {k:Nat} {tx:List Nat}
  (h:ItK w0 F0 lab0 B N n0 kd s x wr vn ncs lab (.slice none 0 0) (.slice none 0 0) [] [] st2) (hk:k=n0) (hs:st'=⟨st2.i,st2.nodes.set n0 ⟨5,tx,false,[],[]⟩⟩) :
  FinK w0 F0 lab0 B N n0 s x k st' (((((wr.setCell ⟨N,0,none⟩ (.int .i64 5)).setCell ⟨N,1,none⟩ (.string (mks tx))).setCell ⟨N,2,none⟩ (.bool false)).setCell ⟨N,3,none⟩ (.slice none 0 0)).setCell ⟨N,4,none⟩ (.slice none 0 0)):=by
 refine⟨vn,ncs,lab,.slice none 0 0,.slice none 0 0,⟨5,tx,false,[],[]⟩,st2,?_,?_,nil_row _ _ _ _,nil_row _ _ _ _,?_,?_,h.far,h.nn,hk,hs⟩
 ·exact((((h.km.far (p:=⟨N,0,none⟩) h.far _).far (p:=⟨N,1,none⟩) h.far _).far (p:=⟨N,2,none⟩) h.far _).far (p:=⟨N,3,none⟩) h.far _).far (p:=⟨N,4,none⟩) h.far _
 ·exact((((h.nd.store 0 _).store 1 _).store 2 _).store 3 _).store 4 _
 ·exact((((h.ps.trans (cstep_set (.inr rfl) 0 _)).trans (cstep_set (.inr rfl) 1 _)).trans (cstep_set (.inr rfl) 2 _)).trans (cstep_set (.inr rfl) 3 _)).trans (cstep_set (.inr rfl) 4 _)
 ·intro t v xs ht hr
  exact(((((h.rows t v xs ht hr).farK (p:=⟨N,0,none⟩) h.far _).farK (p:=⟨N,1,none⟩) h.far _).farK (p:=⟨N,2,none⟩) h.far _).farK (p:=⟨N,3,none⟩) h.far _).farK (p:=⟨N,4,none⟩) h.far _
theorem set_last {α:Type} (a:List α) (z y:α) {n:Nat} (hn:a.length=n):(a ++ [z]).set n y=a ++ [y]:=by
 subst hn
 rw [List.set_append_right _ _ (Nat.le_refl _),Nat.sub_self]
 rfl
theorem five_of {ncs:List Value} {n:Nat} (h:n*5+5≤ncs.length):∃v0 v1 v2 v3 v4,(ncs.drop (n*5)).take 5 = [v0,v1,v2,v3,v4]:=by
 refine⟨ncs.getD (n*5) undef,ncs.getD (n*5+1) undef,ncs.getD (n*5+2) undef,ncs.getD (n*5+3) undef,ncs.getD (n*5+4) undef,?_⟩
 apply List.ext_getElem?
 intro j
 rw [List.getElem?_take]
 by_cases hj:j<5
 ·rw [if_pos hj,List.getElem?_drop]
  match j,hj with
  | 0,_=>simp [List.getD_eq_getElem?_getD,List.getElem?_eq_getElem (show n*5<ncs.length by omega)]
  | 1,_=>simp [List.getD_eq_getElem?_getD,List.getElem?_eq_getElem (show n*5+1<ncs.length by omega)]
  | 2,_=>simp [List.getD_eq_getElem?_getD,List.getElem?_eq_getElem (show n*5+2<ncs.length by omega)]
  | 3,_=>simp [List.getD_eq_getElem?_getD,List.getElem?_eq_getElem (show n*5+3<ncs.length by omega)]
  | 4,_=>simp [List.getD_eq_getElem?_getD,List.getElem?_eq_getElem (show n*5+4<ncs.length by omega)]
 ·rw [if_neg hj,List.getElem?_eq_none (by simp;omega)]
theorem five_at {w:World} {b gn cap n k:Nat} {ncs:List Value} (h:w.ownsRow b 30 5 (.slice (some ⟨gn,0,none⟩) n cap) n ncs) (hk:k<n) :
  (∃u0 u1 u2 u3 u4,w.cell? ⟨gn,k*5,none⟩=some u0∧w.cell? ⟨gn,k*5+1,none⟩=some u1∧w.cell? ⟨gn,k*5+2,none⟩=some u2∧w.cell? ⟨gn,k*5+3,none⟩=some u3∧w.cell? ⟨gn,k*5+4,none⟩=some u4) ∧
  ∀j,j<5→w.frozen? ⟨gn,k*5+j,none⟩=false:=by
 have hl:=h.1
 obtain⟨u0,u1,u2,u3,u4,hc⟩:=five_of (ncs:=ncs) (n:=k) (by omega)
 have hg:∀j,j<5→ncs[k*5+j]? = ([u0,u1,u2,u3,u4]:List Value)[j]?:=fun j hj=>by
  rw [←hc,List.getElem?_take,if_pos hj,List.getElem?_drop]
 refine⟨⟨u0,u1,u2,u3,u4,(own_cell h (hg 0 (by decide))).1,(own_cell h (hg 1 (by decide))).1,(own_cell h (hg 2 (by decide))).1,(own_cell h (hg 3 (by decide))).1,(own_cell h (hg 4 (by decide))).1⟩,fun j hj=>?_⟩
 exact(own_cell h (List.getElem?_eq_getElem (by omega))).2
set_option maxRecDepth 20000 in
set_option maxHeartbeats 32000000 in
theorem kval_any {B:Nat} {s:List Nat} (hs:By s) (hl:s.length≤65536) (f:Nat):∀(d:Nat) (x:Nat→Prop) (st:KSt) (k:Nat) (st':KSt) (vn:Value) (ncs:List Value) (lab:Nat→Option Nat) (w:World),valK s f d st=some (k,st')→KM w B s vn ncs lab x st →
  Calls Tryz.prog 61 #[.pointer (some ⟨B,0,none⟩),.int .i64 (d:Int)] w (ValRK B s x w vn lab st k st'):=by
 induction f with
 | zero=>intro d x st k st' vn ncs lab w h;cases h
 | succ f ih=>
  intro d x st k st' vn ncs lab w h hM
  rw [valK] at h
  split at h
  ·rename_i hb
   obtain⟨hn4,hd⟩:=hb
   obtain⟨n0,hn0⟩:∃n,st.nodes.length=n:=⟨_,rfl⟩
   split at h
   ·cases h
   rename_i c hc
   have HC:=Lib.hid hc
   have HH:=Lib.hid h
   have HS:=Lib.hid hs
   have HN0:=Lib.hid hn0
   have HIH:=Lib.hid ih
   obtain⟨An,cn,hvn,hn1,hn2⟩:=own_slice hM.nod
   rw [HN0.out] at hvn
   subst hvn
   have HM:=Lib.hid hM
   have c2:=hM.c2
   have cf:=hM.f 2
   rw [hn0] at hn4
   have d0:(d:Int)≤32:=by omega
   have d1:¬(32:Int)<d:=by omega
   have n1:¬(4096:Int)≤n0:=by omega
   have lB:=hM.lt
   clear hM hc h hs ih hn0 hn1
   go_enter Tryz.func61,Tryz.ntmps61
   go_upto_region 5 with(at_builtin;go_loud (refine wpList_apS rfl (.tmp 24) (.tmp 26) 24 rfl B 30 _ 5 _ Tryz.underlying24 Tryz.infoS30 rfl (by decide) _ n0 ncs rfl (by have h:=HM.out.nod;rw [HN0.out] at h;exact h.alloc _) ⟨w.heap.size,0,none⟩ _ zNdK rfl rfl (cells_new _ _ _) rfl (by unfold maxLen;omega) (by omega) (by simp;omega) ?_;intro v3 w3 hown3 hgr3 hat3;obtain⟨A3,c3,rfl,hc3,hm3⟩:=own_slice hown3;obtain⟨PA,h4,hP4,hR4⟩:=HM.out.addNode zeroK zNdK (.slice A3 (n0+1) c3) (by rw [HN0.out];exact hown3) hgr3 hat3;have i3:=PA.cell' (i:=2) rfl;have q3:=PA.frozen 2;clear hgr3 hat3 hown3 PA))
   go_upto_region 6 with(fail)
   obtain⟨W4,hW4⟩:∃W,w3.setCell ⟨B,2,none⟩ (.slice A3 (n0+1) c3)=W:=⟨_,rfl⟩
   have hN4:w3.heap.size=W4.heap.size:=by rw [←hW4];simp [World.setCell]
   have HM4:Hid (KM W4 B s (.slice A3 (n0+1) c3) (ncs ++ zNdK) lab (fun i=>x i∨i=n0) ⟨st.i,st.nodes ++ [zeroK]⟩):=by have h:=h4;rw [HN0.out,hW4] at h;exact h
   have HP4:Hid (PStep w W4 (KF B (.slice An n0 cn) lab) (KF B (.slice A3 (n0+1) c3) lab)):=by rw [←hW4];exact hP4
   have HR4:Hid (KRows w B lab n0 W4 lab):=by rw [←hW4];exact hR4 n0
   rw [hW4,hN4]
   clear hW4 hN4 h4 hP4 hR4 i3 q3 hc3 hm3
   have hbA:Below W4.heap.size W4 (W4.alloc (.cells #[.int .i64 0,.string ⟨#[]⟩,.bool false,.slice none 0 0,.slice none 0 0] 30)):=(Below.refl _ _).alloc (Nat.le_refl _) _
   have IT5:Hid (ItK w (KF B (.slice An n0 cn) lab) lab B W4.heap.size n0 0 s (fun i=>x i∨i=n0) (W4.alloc (.cells #[.int .i64 0,.string ⟨#[]⟩,.bool false,.slice none 0 0,.slice none 0 0] 30)) (.slice A3 (n0+1) c3) (ncs ++ zNdK) lab (.slice none 0 0) (.slice none 0 0) [] [] ⟨st.i,st.nodes ++ [zeroK]⟩):=
    ⟨HM4.out.below hbA,Arr.new W4 _ _,nil_row _ _ _ _,nil_row _ _ _ _,(HP4.out.trans (PStep.of_below hbA)).newN HP4.out.size,fun t v xs ht hr=>(HR4.out t v xs ht hr).below hbA,fun e=>Nat.lt_irrefl _ (HM4.out.cfLt _ e),by show n0<(st.nodes ++ [zeroK]).length;rw [List.length_append,HN0.out];simp⟩
   obtain⟨N,hN⟩:∃N,W4.heap.size=N:=⟨_,rfl⟩
   have hNw:w.heap.size≤N:=by rw [←hN];exact HP4.out.size
   generalize (W4.alloc (.cells #[.int .i64 0,.string ⟨#[]⟩,.bool false,.slice none 0 0,.slice none 0 0] 30))=w5 at *
   rw [hN] at IT5 ⊢
   clear hN hbA HM4 HP4 HR4
   have D1:=Lib.hid (knext_any HC.out HS.out w5 IT5.out.km.par)
   have HKX:Hid (k=n0→True):=fun _=>trivial
   clear HKX
   go_upto_block 0 with(go_at_call 89;((with_reducible refine D1.out.mono ?_));rintro e w6 ⟨rfl,m,rfl⟩)
   go_cut [] (fun wx=>FinK w (KF B (.slice An n0 cn) lab) lab B N n0 s (fun i=>x i∨i=n0) k st' wx)
   case first=>
    have hh:=HH.out
    have hcn:=(List.getElem?_eq_some_iff.1 HC.out).1
    by_cases h34:c=34
    ·subst h34
     rw [if_pos rfl] at hh
     split at hh
     ·cases hh
     rename_i tx j htx
     have hh2:=Option.some.inj hh
     have e1:st.nodes.length=k:=congrArg Prod.fst hh2
     have e2:_=st':=congrArg Prod.snd hh2
     rw [HN0.out] at e1
     have HE1:=Lib.hid e1
     have HE2:=Lib.hid e2
     have HTX:=Lib.hid htx
     have DT:Hid (∀m,Calls Tryz.prog 90 #[.pointer (some ⟨B,0,none⟩)] (w5.drewN m) (TextKR tx B j (w5.drewN m))):=fun m=>ktext_any HC.out HS.out hl HTX.out (w5.drewN m) IT5.out.km.par
     clear hh hh2 e1 e2 htx HH hcn
     go_wp2_with (go_at_call 90;((with_reducible refine(DT.out _).mono ?_));rintro e w7 ⟨rfl,hk7⟩;have IT7:=Lib.hid ((IT5.out.drewN m).atw hk7);have z0:=IT7.out.nd.cell' (i:=0) rfl;have z1:=IT7.out.nd.cell' (i:=1) rfl;have z2:=IT7.out.nd.cell' (i:=2) rfl;have z3:=IT7.out.nd.cell' (i:=3) rfl;have z4:=IT7.out.nd.cell' (i:=4) rfl;have f0:=IT7.out.nd.frozen 0;have f1:=IT7.out.nd.frozen 1;have f2:=IT7.out.nd.frozen 2;have f3:=IT7.out.nd.frozen 3;have f4:=IT7.out.nd.frozen 4)
     go_meet
     refine IT7.out.text HE1.out.symm ?_
     rw [←HE2.out,set_last _ _ _ HN0.out]
    ·rw [if_neg h34] at hh
     have m34:((c:Int) == 34)=false:=by simp;omega
     by_cases h91:c=91
     ·subst h91
      rw [if_pos rfl] at hh
      clear h34 m34
      split at hh
      ·cases hh
      rename_i ks is st2 hit
      split at hh
      ·rename_i hlt
       have hh2:=Option.some.inj hh
       have e1:st.nodes.length=k:=congrArg Prod.fst hh2
       have e2:_=st':=congrArg Prod.snd hh2
       rw [HN0.out] at e1 e2
       have HE1:=Lib.hid e1
       have HE2:=Lib.hid e2
       have HIT:=Lib.hid hit
       have DI:Hid (∀m,Calls Tryz.prog 94 #[.pointer (some ⟨B,0,none⟩),.pointer (some ⟨N,0,none⟩),.int .u8 93,.int .i64 (d:Int)] ((w5.drewN m).setCell ⟨N,0,none⟩ (.int .i64 9)) (ItemsR w (KF B (.slice An n0 cn) lab) lab B N n0 9 s (fun i=>x i∨i=n0) ks is st2)):=fun m=>
        kitems_any (mp:=false) HS.out hl hd (.inr rfl) (by decide) (fun st k st' vn ncs lab w h hk=>by have h2:=HIH.out (d+1) _ st k st' vn ncs lab w h hk;rw [Int.natCast_add] at h2;exact h2) ((IT5.out.drewN m).kind 9) hcn HIT.out
       have HF:Hid (∀wx,ItX w (KF B (.slice An n0 cn) lab) lab B N n0 9 s (fun i=>x i∨i=n0) ks is st2 wx→FinK w (KF B (.slice An n0 cn) lab) lab B N n0 s (fun i=>x i∨i=n0) k st' wx):=fun wx h=>by
        obtain⟨vn,ncs,lab,vk,vi,hI⟩:=h
        exact hI.fin HE1.out.symm HE2.out.symm
       have z0:=IT5.out.nd.cell' (i:=0) rfl
       have zf:=IT5.out.nd.frozen 0
       clear hh hh2 e1 e2 hit HH IT5 hcn
       go_upto_region 27 with(fail)
       go_wp2_with (go_at_call 94;((with_reducible refine(DI.out _).mono ?_));rintro e w8 ⟨rfl,hX⟩)
       go_meet
       exact HF.out _ hX
      ·cases hh
     ·rw [if_neg h91] at hh
      split at hh
      ·rename_i h123
       subst h123
       clear h34 m34 h91
       split at hh
       ·cases hh
       rename_i ks is st2 hit
       split at hh
       ·rename_i hlt
        have hh2:=Option.some.inj hh
        have e1:st.nodes.length=k:=congrArg Prod.fst hh2
        have e2:_=st':=congrArg Prod.snd hh2
        rw [HN0.out] at e1 e2
        have HE1:=Lib.hid e1
        have HE2:=Lib.hid e2
        have HIT:=Lib.hid hit
        have DI:Hid (∀m,Calls Tryz.prog 94 #[.pointer (some ⟨B,0,none⟩),.pointer (some ⟨N,0,none⟩),.int .u8 125,.int .i64 (d:Int)] ((w5.drewN m).setCell ⟨N,0,none⟩ (.int .i64 10)) (ItemsR w (KF B (.slice An n0 cn) lab) lab B N n0 10 s (fun i=>x i∨i=n0) ks is st2)):=fun m=>
         kitems_any (mp:=true) HS.out hl hd (.inr rfl) (by decide) (fun st k st' vn ncs lab w h hk=>by have h2:=HIH.out (d+1) _ st k st' vn ncs lab w h hk;rw [Int.natCast_add] at h2;exact h2) ((IT5.out.drewN m).kind 10) hcn HIT.out
        have HF:Hid (∀wx,ItX w (KF B (.slice An n0 cn) lab) lab B N n0 10 s (fun i=>x i∨i=n0) ks is st2 wx→FinK w (KF B (.slice An n0 cn) lab) lab B N n0 s (fun i=>x i∨i=n0) k st' wx):=fun wx h=>by
         obtain⟨vn,ncs,lab,vk,vi,hI⟩:=h
         exact hI.fin HE1.out.symm HE2.out.symm
        have z0:=IT5.out.nd.cell' (i:=0) rfl
        have zf:=IT5.out.nd.frozen 0
        clear hh hh2 e1 e2 hit HH IT5 hcn
        go_upto_region 30 with(fail)
        go_wp2_with (go_at_call 94;((with_reducible refine(DI.out _).mono ?_));rintro e w8 ⟨rfl,hX⟩)
        go_meet
        exact HF.out _ hX
       ·cases hh
      ·cases hh
   case rest=>
    clear HH HIH D1 IT5 c2 cf HM
    obtain⟨w9,hw9⟩:∃x,x=wc:=⟨_,rfl⟩
    subst hw9
    obtain⟨vn9,ncs9,lab9,vk9,vi9,nd,st2,K1,K2,K3,K4,K5,K6,K7,K8,rfl,rfl⟩:=hcut
    obtain⟨N2,hN2⟩:∃m,st2.nodes.length=m:=⟨_,rfl⟩
    obtain⟨g9,cap9,hv9,hca9,hcb9⟩:=own_slice0 K1.nod (by omega)
    rw [hN2] at hv9
    subst hv9
    have hput:=K1.putNode (y:=x) (vk:=vk9) (vi:=vi9) (n:=k) (nd:=nd) (fun i h=>h) K8 (by rw [hN2]) K3 K4
    have hk2:k<N2:=by omega
    have hnod:=K1.nod
    rw [hN2] at hnod
    obtain⟨⟨u0,u1,u2,u3,u4,g0,g1,g2,g3,g4⟩,gf⟩:=five_at hnod hk2
    obtain⟨Ak9,ck9,rfl,_,_⟩:=own_slice K3.1
    obtain⟨Ai9,ci9,rfl,_,_⟩:=own_slice K4.1
    have gf0:w9.frozen? ⟨g9,k*5,none⟩=false:=gf 0 (by decide)
    have gf1:=gf 1 (by decide)
    have gf2:=gf 2 (by decide)
    have gf3:=gf 3 (by decide)
    have gf4:=gf 4 (by decide)
    have p2:=K1.c2
    have z0:=K2.cell' (i:=0) rfl
    have z1:=K2.cell' (i:=1) rfl
    have z2:=K2.cell' (i:=2) rfl
    have z3:=K2.cell' (i:=3) rfl
    have z4:=K2.cell' (i:=4) rfl
    have k0:(0:Int)≤k:=by omega
    have k1:(k:Int)<N2:=by omega
    have HPUT:=Lib.hid hput
    have HK5:=Lib.hid K5
    have HK6:=Lib.hid K6
    have HK8:=Lib.hid K8
    clear hput K1 K2 K3 K4 K5 K6 K7 K8 gf hca9 hcb9 hN2 hnod
    go_upto_region 34 with(fail)
    go_region
    obtain⟨W11,hw11⟩:∃x,x=(((((w9.setCell ⟨g9,k*5,none⟩ (.int .i64 nd.kind)).setCell ⟨g9,k*5+1,none⟩ (.string (mks nd.text))).setCell ⟨g9,k*5+2,none⟩ (.bool nd.ord)).setCell ⟨g9,k*5+3,none⟩ (.slice Ak9 nd.keys.length ck9)).setCell ⟨g9,k*5+4,none⟩ (.slice Ai9 nd.items.length ci9)).drew:=⟨_,rfl⟩
    rw [←hw11]
    have HF:Hid (ValRK B s x w (.slice An k cn) lab st k ⟨st2.i,st2.nodes.set k nd⟩ (.returned (.int .i64 (k:Int))) W11):=by
     rw [hw11]
     refine⟨rfl,_,_,_,HPUT.out.1.drew,?_,?_,?_⟩
     ·have h:=(HK5.out.trans HPUT.out.2.1.plusN).drew
      exact⟨h.os,h.tape,h.output,h.size,h.keep,fun g hg=>h.new g (.inl hg)⟩
     ·intro t v xs ht hr
      rw [HN0.out] at ht
      exact(HPUT.out.2.2 k t v xs ht (HK6.out t v xs ht hr)).below (Below.drew (Below.refl _ _))
     ·rw [HN0.out,List.length_set]
      exact HK8.out
    clear hw11 HPUT HK5 HK6 HK8 HN0 g0 g1 g2 g3 g4 gf0 gf1 gf2 gf3 gf4 p2 z0 z1 z2 z3 z4
    go_wp2_with (fail)
    go_ret
    exact HF.out
  ·cases h
end Go.Proofs.YtnnnagnjikdnnaaGreatDoor
namespace Go.Proofs.YtnnnagnjikdnnaaGreatDoor
open Go.RowKit
section
variable {f a:Nat} {l:List Nat} {ts:List JTok} {ns:List JNote}
end
theorem checkG_end {f a:Nat}:checkG f a []=none:=by cases f <;> simp [checkG]
theorem checkG_step {f a:Nat} {l:List Nat} (hne:l≠[]) (h:checkG (f+1) a l=none):decL l≠(65533,1)∧checkG f (a+(decL l).2) (l.drop (decL l).2)=none:=by
 rw [checkG,if_neg hne] at h
 by_cases hd:decL l=(65533,1)
 ·rw [if_pos hd] at h;cases h
 ·rw [if_neg hd] at h;exact⟨hd,h⟩
theorem check_gen {l:List Nat} {f a g b:Nat} (h:checkG f a l=none) (hf:l.length≤f) (hg:l.length≤g):checkG g b l=none:=by
 induction f generalizing l a g b with
 | zero=>have:l = []:=List.eq_nil_of_length_eq_zero (by omega);subst this;exact checkG_end
 | succ f ih=>
  by_cases hne:l = []
  ·subst hne;exact checkG_end
  ·obtain⟨h1,h2⟩:=checkG_step hne h
   have:=List.length_pos_iff.2 hne
   have hk:=(decL_bd l).2
   obtain⟨g,rfl⟩:∃g',g=g'+1:=⟨g - 1,by omega⟩
   rw [checkG,if_neg hne,if_neg h1]
   exact ih h2 (by rw [List.length_drop];omega) (by rw [List.length_drop];omega)
theorem check_ascii {c:Nat} {l:List Nat} (hc:c<128) {g b:Nat}:checkG (g+1) b (c :: l)=checkG g (b+1) l:=by
 have hd:decL (c :: l)=(c,1):=by
  rw [decL_N]
  have:(c :: l).getD 0 0 % 256=c:=by show c % 256=c;omega
  rw [this,Lib.decodeN_ascii _ _ _ _ _ hc]
 rw [checkG,if_neg (by simp),hd,if_neg (by intro e;injection e with e;omega)]
 rfl
end Go.Proofs.YtnnnagnjikdnnaaGreatDoor
namespace Go.Proofs.YtnnnagnjikdnnaaGreatDoor
open Go.RowKit
def Off (a b:Nat):Prop:=b=a∨b=a+9
def TokR9 (t t':JTok):Prop:=t'.kind=t.kind∧t'.text=t.text∧Off t.from_ t'.from_
inductive Toks9:List JTok→List JTok→Prop
 | nil:Toks9 [] []
 | cons {t t':JTok} {l l':List JTok} (h:TokR9 t t') (k:Toks9 l l'):Toks9 (t :: l) (t' :: l')
theorem Toks9.refl:∀l:List JTok,Toks9 l l
 | []=>.nil
 | _ :: l=>.cons ⟨rfl,rfl,.inl rfl⟩ (Toks9.refl l)
theorem Toks9.app {a a' b b':List JTok} (h:Toks9 a a') (k:Toks9 b b'):Toks9 (a ++ b) (a' ++ b'):=by
 induction h with
 | nil=>exact k
 | cons h1 _ ih=>exact .cons h1 ih
theorem Toks9.len {a b:List JTok} (h:Toks9 a b):b.length=a.length:=by
 induction h with
 | nil=>rfl
 | cons _ _ ih=>simp [ih]
end Go.Proofs.YtnnnagnjikdnnaaGreatDoor
namespace Go.Proofs.YtnnnagnjikdnnaaGreatDoor
open Go.RowKit
/-! ### The brackets -/
end Go.Proofs.YtnnnagnjikdnnaaGreatDoor
namespace Go.Proofs.YtnnnagnjikdnnaaGreatDoor
open Go.RowKit
theorem By.taken {l:List Nat} (h:By l) (n:Nat):By (l.take n):=fun c hc=>h c (List.mem_of_mem_take hc)
theorem By.dropped {l:List Nat} (h:By l) (n:Nat):By (l.drop n):=fun c hc=>h c (List.mem_of_mem_drop hc)
def NB (L:Nat) (l:List GNode):Prop:=∀nd∈l,nd.keys.length≤L∧nd.items.length≤L
theorem NB.snoc {L:Nat} {l:List GNode} (h:NB L l) (nd:GNode) (hk:nd.keys = []) (hi:nd.items = []):NB L (l ++ [nd]):=fun x hx=>by
 rcases List.mem_append.1 hx with h1 | h1
 ·exact h x h1
 ·obtain rfl:=List.mem_singleton.1 h1
  rw [hk,hi];simp
end Go.Proofs.YtnnnagnjikdnnaaGreatDoor
namespace Go.Proofs.YtnnnagnjikdnnaaGreatDoor
open Go.RowKit
def OffLe (M:Nat) (l:List JTok):Prop:=∀t∈l,t.from_≤M
theorem OffLe.sub {M m:Nat} {a b:PSt} (h:PSub m a b) (ha:OffLe M a.left):OffLe M b.left:=by
 obtain⟨⟨j,h1,h2,h3⟩,_⟩:=h
 intro t ht
 rw [h3] at ht
 exact ha t (List.mem_of_mem_drop ht)
theorem node_cells {ncs:List Value} {k:Nat} {a b c d e:Value} (h:(ncs.drop (k*5)).take 5 = [a,b,c,d,e]):ncs[k*5]? = some a∧ncs[k*5+1]? = some b∧ncs[k*5+2]? = some c∧ncs[k*5+3]? = some d∧ncs[k*5+4]? = some e:=by
 have g:∀j,j<5→ncs[k*5+j]? = [a,b,c,d,e][j]?:=fun j hj=>by rw [←h,List.getElem?_take_of_lt hj,List.getElem?_drop]
 exact⟨g 0 (by omega),g 1 (by omega),g 2 (by omega),g 3 (by omega),g 4 (by omega)⟩
end Go.Proofs.YtnnnagnjikdnnaaGreatDoor
