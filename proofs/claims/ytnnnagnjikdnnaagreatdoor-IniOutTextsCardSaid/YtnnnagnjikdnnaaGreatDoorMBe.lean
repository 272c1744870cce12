/- The walks of canon.leaf and of the table's length, at leaves, lists and maps. -/
import Derived.Test.YtnnnagnjikdnnaaGreatDoorMBd
set_option linter.unusedVariables false
set_option linter.unusedSimpArgs false
set_option linter.defProp false
set_option linter.constructorNameAsVariable false
namespace Go.Proofs.YtnnnagnjikdnnaaGreatDoor
open Go.RowKit
theorem below_grown {w w':World} (h:Below w.heap.size w w') (row:Option Nat):w.grownBy w' row:=⟨h.os,h.tape,h.output,h.size,fun j hj _=>h.block j hj⟩
set_option maxRecDepth 20000 in
set_option maxHeartbeats 4000000 in
theorem cleaf_all {g p : Nat} {nd : GNode} (hk0 : 0 ≤ nd.kind) (hk5 : nd.kind ≤ 5) (hby : By nd.text) (hl : nd.text.length ≤ 10000) (w : World) (h0 : w.cell? ⟨g, p, none⟩ = some (.int .i64 nd.kind)) (h1 : w.cell? ⟨g, p + 1, none⟩ = some (.string (mks nd.text))) :
    Calls Tryz.prog 97 #[.pointer (some ⟨g,p,none⟩)] w fun e w'=>e=.returned (.string (mks (leafT nd)))∧Below w.heap.size w w':=by
  by_cases k0:nd.kind=0
  · rw [k0] at h0
    have e:leafT nd = [110,117,108,108]:=by unfold leafT;rw [if_pos k0]
    rw [e]
    clear hk0 hk5 hby hl h1 e k0
    go_enter Tryz.func97,Tryz.ntmps97
    go_wp2
    go_ret
    exact⟨rfl,Below.refl _ _⟩
  · by_cases k5:nd.kind=5
    · rw [k5] at h0
      have e:leafT nd=cquo nd.text:=by unfold leafT;rw [if_neg k0,if_pos k5]
      rw [e]
      have D:=Lib.hid (cquoted_any hby hl w)
      clear hk0 hk5 hby hl e k0 k5
      go_enter Tryz.func97,Tryz.ntmps97
      go_wp2_with (go_at_call 122;((with_reducible refine D.out.mono ?_));rintro e w2 ⟨rfl,hb2⟩)
      go_ret
      exact⟨rfl,hb2⟩
    · have e:leafT nd=nd.text:=by unfold leafT;rw [if_neg k0,if_neg k5]
      rw [e]
      obtain⟨kd,hkd⟩:∃kd,nd.kind=kd:=⟨_,rfl⟩
      rw [hkd] at h0 hk0 hk5 k0 k5
      have m0:(kd == 0)=false:=by simp;omega
      have m5:(kd == 5)=false:=by simp;omega
      have m6:(kd == 6)=false:=by simp;omega
      have m7:(kd == 7)=false:=by simp;omega
      have m8:(kd == 8)=false:=by simp;omega
      clear hkd hby hl e k0 k5 hk0 hk5
      go_enter Tryz.func97,Tryz.ntmps97
      go_wp2
      go_ret
      exact⟨rfl,Below.refl _ _⟩
theorem add_step {lv : Int → List Int → Option (List Int)} {N : Nat} {e y : Int} {s s2 : Int × List Int} (h : addLT lv N e y s = some s2) :
    ∃kn,lv y s.2=some kn∧kn.length=N∧0≤atG kn y∧s.1+(e+atG kn y)≤65537∧s2=(s.1+(e+atG kn y),kn):=by
  unfold addLT at h
  split at h
  · cases h
  · rename_i kn hk
    split at h
    · rename_i hb
      exact⟨kn,hk,hb.1,hb.2.1,hb.2.2,(Option.some.inj h).symm⟩
    · cases h
theorem ent_step {lv : Int → List Int → Option (List Int)} {N : Nat} {nd : GNode} {i : Int} {s s2 : Int × List Int} (h : entT lv N nd i s = some s2) :
    (nd.kind=10∧∃s1,addLT lv N 1 (nd.keys.getD i.toNat 0) s=some s1∧addLT lv N 0 (nd.items.getD i.toNat 0) s1=some s2)∨(nd.kind≠10∧addLT lv N 0 (nd.items.getD i.toNat 0) s=some s2):=by
  unfold entT at h
  by_cases h10:nd.kind=10
  · rw [if_pos h10] at h
    split at h
    · cases h
    · rename_i s1 h1
      exact .inl ⟨h10,s1,h1,h⟩
  · rw [if_neg h10] at h
    exact .inr ⟨h10,h⟩
theorem getD_at {l:List Int} {i:Nat} {y:Int} (h:l[i]? = some y):l.getD ((i:Int)).toNat 0=y:=by rw [Int.toNat_natCast,List.getD_eq_getElem?_getD,h];rfl
theorem rngI_at {n i:Nat} (h:i<n):(rngI n)[i]? = some (i:Int):=by simp [rngI,h]
set_option maxRecDepth 20000 in
set_option maxHeartbeats 16000000 in
theorem clenT_any {B g o c tb sb kb n : Nat} {nodes : List GNode} {root : Int} (hI : Idx nodes) (hL : NL 65536 nodes) (hBy : ∀ k, By (ndAt nodes k).text) (hn4 : n ≤ 4096) (hn : nodes.length = n) (hBk : B ≤ kb) (f : Nat) : ∀ (k : Nat) (kn kn' : List Int) (w : World), lenT nodes f (k : Int) kn = some kn' → GRd w B g o nodes → Arr w tb 145 [.slice (some ⟨g, o, none⟩) n c, .int .i64 root, .slice (some ⟨sb, 0, none⟩) n n] → Arr w kb 3 (I64 kn) →
    Calls Tryz.prog 63 #[.pointer (some ⟨tb,0,none⟩),.int .i64 (k:Int),.slice (some ⟨kb,0,none⟩) n n] w (LenR w kb k kn'):=by
  induction f with
  | zero=>intro k kn kn' w h;cases h
  | succ f ih=>
    intro k kn kn' w h hG hT hA
    rw [lenT] at h
    split at h
    · rename_i hin
      obtain⟨hkl,_,hkx⟩:=hin
      have hkn:k<n:=by omega
      have hkn':(k:Int)<n:=by omega
      have hk0:(0:Int)≤k:=by omega
      obtain⟨v,hv⟩:∃v,kn[k]? = some v:=⟨_,List.getElem?_eq_getElem (by omega)⟩
      have hat:atG kn (k:Int)=v:=by unfold atG;rw [Int.toNat_natCast,List.getD_eq_getElem?_getD,hv];rfl
      rw [hat,Int.toNat_natCast] at h
      have ck:=hA.cell' (I64_get hv)
      have ht:=hT.cell' (i:=0) rfl
      split at h
      · rename_i hv0
        obtain rfl:=Option.some.inj h
        go_enter Tryz.func63,Tryz.ntmps63
        go_wp2
        go_ret
        exact⟨by rw [hat];rfl,World.grownBy.refl _ _,hA⟩
      · rename_i hv0
        have hv1:¬v ≥ 0:=hv0
        obtain⟨K,ckk,I,ci,d0,d1,d2,d3,d4,hKK,hI1,hI2⟩:=hG.of_at (show k<nodes.length by omega)
        have hnl:=(hL k (by omega)).2
        have hby:=hBy k
        generalize hnd:ndAt nodes k=nd at *
        split at h
        · rename_i hk2
          obtain⟨⟨hk00,hk5⟩,hi2,htl⟩:=hk2
          obtain rfl:=Option.some.inj h
          have D:=Lib.hid (cleaf_all hk00 hk5 hby htl w d0 d1)
          obtain⟨kd,hkd⟩:∃kd,nd.kind=kd:=⟨_,rfl⟩
          rw [hkd] at d0 hk00 hk5
          rw [hi2] at d4
          have m9:(kd == 9)=false:=by simp;omega
          have m10:(kd == 10)=false:=by simp;omega
          have m11:(kd == 11)=false:=by simp;omega
          have HG:=Lib.hid hG
          have HA:=Lib.hid hA
          have HND:=Lib.hid hnd
          have HI2:=Lib.hid hi2
          have HKL:=Lib.hid hkl
          have hlq:(leafT nd).length≤65537:=by
            unfold leafT
            have:=cquo_len nd.text
            split
            · decide
            · split <;> omega
          have hBw:=hG.2.1
          clear hG hA hT hnd hi2 hkl hkd hby htl hI1 hI2 hKK d3 d2 hk00 hk5
          go_enter Tryz.func63,Tryz.ntmps63
          go_upto_region 12 with(go_at_call 97;((with_reducible refine D.out.mono ?_));rintro e w2 ⟨rfl,hb2⟩)
          have hG2:=HG.out.below hb2 hBw
          have hA2:=HA.out.keep hb2
          obtain⟨K2,ck2,I2,ci2,_,_,_,_,q4,_,_⟩:=hG2.of_at (show k<nodes.length by omega)
          rw [HND.out,HI2.out] at q4
          have hg2:=Lib.hid (below_grown hb2 (some kb))
          have HA2:=Lib.hid hA2
          clear hG2 hA2 hb2 D
          go_upto_region 13 with(fail)
          obtain⟨tl,htl2⟩:∃tl:Int,((leafT nd).length:Int)=tl:=⟨_,rfl⟩
          have htl3:tl≤65537:=by omega
          have hmin:min tl 65537=tl:=by omega
          have hak:atG (kn.set k tl) (k:Int)=tl:=by unfold atG;rw [Int.toNat_natCast,List.getD_eq_getElem?_getD,List.getElem?_set_self (by have:=HKL.out;omega)];rfl
          rw [htl2]
          have hA3:=Lib.hid (HA2.out.store k (.int .i64 tl))
          have fk:=HA2.out.frozen k
          have ck3:=HA2.out.cell' (I64_get hv)
          clear hlq
          go_loopw [8,58] (fun s u wr=>s=.int .i64 tl∧u=.int .i64 0∧wr=w2) (fun _ _ _=>0)
          case atStart=>exact⟨rfl,rfl,rfl⟩
          case round=>
            obtain⟨rfl,rfl,rfl⟩:=hrel
            go_wp2
            go_ret
            rw [htl2]
            exact⟨by rw [hak];rfl,grown_trans hg2.out (grown_set wr ⟨kb,k,none⟩ _),by have h:=hA3.out;rw [I64_set] at h;exact h⟩
        · rename_i hk2
          split at h
          · rename_i hk9
            obtain⟨hk9,hni0⟩:=hk9
            split at h
            · cases h
            · rename_i sum KN hrun
              obtain rfl:=Option.some.inj h
              obtain⟨ni,hni⟩:∃ni,nd.items.length=ni:=⟨_,rfl⟩
              have HNI:=Lib.hid hni
              have HG:=Lib.hid hG
              have HT:=Lib.hid hT
              have HND:=Lib.hid hnd
              have hidx:=hI k (by omega)
              rw [hnd] at hidx
              have HIX:=Lib.hid (fun x (hx:x∈nd.items)=>(show 0≤x∧x<(n:Int) by have:=hidx x (by unfold refs;exact List.mem_append.2 (.inr hx));omega))
              have HKX:=Lib.hid (fun x (hx:x∈nd.keys)=>(show 0≤x∧x<(n:Int) by have:=hidx x (by unfold refs;exact List.mem_append.2 (.inl hx));omega))
              have hne:Hid (tb≠kb):=hT.ne hA (by decide)
              have hrun0:Hid (runG (entT (lenT nodes f) nodes.length nd) ((rngI ni).drop 0) (1+(ni:Int),kn)=some (sum,KN)):=by show _=_;rw [←hni];exact hrun
              have hA0:=Lib.hid hA
              have hkl0:Hid (kn.length=n):=by show _=_;omega
              have HK9:=Lib.hid hk9
              rw [hni] at d4 hni0 hnl
              have hmx:(2:Int)+max 0 ((ni:Int) - 1)=1+(ni:Int):=by omega
              obtain⟨kd,hkd⟩:∃kd,nd.kind=kd:=⟨_,rfl⟩
              rw [hkd] at d0
              have HKD:=Lib.hid hkd
              have hkd2:kd=9∨kd=10:=by rw [←hkd];rcases hk9 with h | h;exact .inl h;exact .inr h.1
              have HI1:=Lib.hid hI1
              have HI2:=Lib.hid hI2
              clear h hrun hG hT hA hidx hnd hkl hI1 hI2 hI hKK hby hk2 hk9 hkd hni d1 d2 d3
              go_enter Tryz.func63,Tryz.ntmps63
              rcases hkd2 with rfl | rfl
              all_goals
                go_upto_region 13 with(fail)
                have hst:Hid (0≤1+(ni:Int)∧1+(ni:Int)≤65537):=by show _∧_;omega
                have hgr0:w.grownBy w (some kb):=World.grownBy.refl _ _
                go_loopw [8,58] (fun sv u wr=>∃(i:Nat) (sm:Int) (knr:List Int),i≤ni∧u=.int .i64 (i:Int)∧sv=.int .i64 sm∧Hid (runG (entT (lenT nodes f) nodes.length nd) ((rngI ni).drop i) (sm,knr)=some (sum,KN))∧Hid (0≤sm∧sm≤65537)∧Hid (knr.length=n)∧Hid (Arr wr kb 3 (I64 knr))∧Hid (w.grownBy wr (some kb))) (fun _ u _=>ni - (intOf u).toNat)
                case atStart=>exact⟨0,_,kn,Nat.zero_le _,rfl,rfl,hrun0,hst,hkl0,hA0,hgr0⟩
                case round=>
                  obtain⟨i,sm,knr,hi,rfl,rfl,hr,hsm,hkl,hA,hgr⟩:=hrel
                  clear hrun0 hst hkl0 hA0 hgr0
                  have hr':=hr.out
                  obtain⟨hsm0,hsm1⟩:=hsm.out
                  by_cases hin:i<ni
                  · have hin':(i:Int)<ni:=by omega
                    obtain⟨y,hy⟩:∃y,nd.items[i]? = some y:=⟨_,List.getElem?_eq_getElem (by have:=HNI.out;omega)⟩
                    obtain⟨hy0,hy1⟩:=HIX.out y (List.mem_of_getElem? hy)
                    obtain⟨ky,rfl⟩:∃ky:Nat,y=(ky:Int):=⟨y.toNat,by omega⟩
                    rw [drop_cons_at (rngI_at hin),runG] at hr'
                    have hGr:=HG.out.grown hgr.out hBk
                    have hTr:=HT.out.grown hgr.out (some_ne hne.out)
                    have hi0:(0:Int)≤i:=by omega
                    split at hr'
                    · cases hr'
                    · rename_i st hst
                      obtain⟨Kr,ckr,Ir,cir,g0,_,_,g3,_,⟨rK,bK⟩,_⟩:=hGr.of_at (show k<nodes.length by omega)
                      rw [HND.out] at g0 g3 rK
                      rw [HKD.out] at g0
                      obtain⟨adI,hadI,cy⟩:=(HI1.out.grown hgr.out (fun ad e e2=>by have h1:=HI2.out ad e;have h2:=Option.some.inj e2;omega)) i _ (I64_get hy)
                      subst hadI
                      have hr2:=Lib.hid hr'
                      rcases ent_step hst with⟨h10,s1,ha1,ha2⟩ | ⟨h10,ha2⟩
                      · first
                        | (exfalso;have:=HKD.out;omega)
                        | (have hkl2 : nd.keys.length = ni := by have := HK9.out; have := HNI.out; have := HKD.out; omega
                           obtain⟨x,hx⟩:∃x,nd.keys[i]? = some x:=⟨_,List.getElem?_eq_getElem (by omega)⟩
                           obtain⟨hx0,hx1⟩:=HKX.out x (List.mem_of_getElem? hx)
                           obtain⟨kx,rfl⟩:∃kx:Nat,x=(kx:Int):=⟨x.toNat,by omega⟩
                           rw [getD_at hx] at ha1
                           rw [getD_at hy] at ha2
                           obtain⟨kn1,hl1,hkl1,hp1,hq1,rfl⟩:=add_step ha1
                           obtain⟨kn2,hl2,hkl3,hp2,hq2,rfl⟩:=add_step ha2
                           obtain⟨adK,rfl,cx⟩:=rK.at_ (I64_get hx)
                           rw [hkl2] at g3
                           dsimp only at hl1 hl2 hq1 hq2
                           have D:=Lib.hid (ih kx knr kn1 wr hl1 hGr hTr hA.out)
                           obtain⟨a1,ha1v⟩:∃a1,atG kn1 (kx:Int)=a1:=⟨_,rfl⟩
                           rw [ha1v] at hp1 hq1 hq2 hr2
                           have HA1V:=Lib.hid ha1v
                           have HL2:=Lib.hid hl2
                           have HQ2:=Lib.hid hq2
                           have hs1:Hid (0≤sm+(1+a1)∧sm+(1+a1)≤65537):=by show _∧_;omega
                           have HKL1:=Lib.hid hkl1
                           have HKL3:Hid (kn2.length=n):=hkl3.trans hn
                           have HP2:=Lib.hid hp2
                           have HHY:=Lib.hid hy
                           clear hr hr' hst ha1 ha2 hl1 hl2 hkl1 hkl3 hq2 hp2 hGr hTr hA hkl hsm hx hy rK bK ha1v hkl2 hy0 hy1 hx0 hx1
                           go_upto_region 17 with(go_at_call 63;((with_reducible refine D.out.mono ?_));rintro e w5 ⟨rfl,hg5,hA5⟩;rw [HA1V.out])
                           have hgr5:=Lib.hid (grown_trans hgr.out hg5)
                           have hG5:=HG.out.grown hgr5.out hBk
                           have hT5:=HT.out.grown hgr5.out (some_ne hne.out)
                           have D2:=Lib.hid (ih ky kn1 kn2 w5 HL2.out hG5 hT5 hA5.out)
                           obtain⟨a2,ha2v⟩:∃a2,atG kn2 (ky:Int)=a2:=⟨_,rfl⟩
                           have HA2V:=Lib.hid ha2v
                           have hb2:=HQ2.out
                           have hb3:=HP2.out
                           rw [ha2v] at hb2 hb3
                           have hs2:Hid (0≤sm+(1+a1)+(0+a2)∧sm+(1+a1)+(0+a2)≤65537):=by show _∧_;have:=hs1.out;omega
                           have hr3:=hr2.out
                           rw [ha2v] at hr3
                           have HR3:=Lib.hid hr3
                           clear hr2 hr3 hG5 hT5 ha2v
                           go_wp2_with (go_at_call 63;((with_reducible refine D2.out.mono ?_));rintro e w6 ⟨rfl,hg6,hA6⟩;rw [HA2V.out])
                           go_roundw
                           case rel=>exact⟨i+1,sm+(1+a1)+(0+a2),kn2,by omega,i64e (by omega),i64e (by omega),HR3,hs2,HKL3,hA6,grown_trans hgr5.out hg6⟩
                           case measure=>simp [intOf];omega)
                      · first
                        | (exfalso;have:=HKD.out;omega)
                        | (rw [getD_at hy] at ha2
                           obtain⟨kn2,hl2,hkl3,hp2,hq2,rfl⟩:=add_step ha2
                           dsimp only at hl2 hq2
                           have D:=Lib.hid (ih ky knr kn2 wr hl2 hGr hTr hA.out)
                           obtain⟨a2,ha2v⟩:∃a2,atG kn2 (ky:Int)=a2:=⟨_,rfl⟩
                           rw [ha2v] at hp2 hq2 hr2
                           have HA2V:=Lib.hid ha2v
                           have hs2:Hid (0≤sm+(0+a2)∧sm+(0+a2)≤65537):=by show _∧_;omega
                           have HKL3:Hid (kn2.length=n):=hkl3.trans hn
                           clear hr hr' hst ha2 hl2 hkl3 hGr hTr hA hkl hsm hy rK bK ha2v hy0 hy1
                           go_wp2_with (go_at_call 63;((with_reducible refine D.out.mono ?_));rintro e w6 ⟨rfl,hg6,hA6⟩;rw [HA2V.out])
                           go_roundw
                           case rel=>exact⟨i+1,sm+(0+a2),kn2,by omega,i64e (by omega),i64e (by omega),hr2,hs2,HKL3,hA6,grown_trans hgr.out hg6⟩
                           case measure=>simp [intOf];omega)
                  · obtain rfl:ni=i:=by omega
                    have hin':¬(ni:Int)<ni:=by omega
                    rw [List.drop_of_length_le (by rw [rngI_len];omega),runG] at hr'
                    have hr2:=Option.some.inj hr'
                    have e1:sm=sum:=congrArg Prod.fst hr2
                    have e2:knr=KN:=congrArg Prod.snd hr2
                    subst e1
                    subst e2
                    have hmin:min sm 65537=sm:=by omega
                    obtain⟨v2,hv2⟩:∃v2,knr[k]? = some v2:=⟨_,List.getElem?_eq_getElem (by have:=hkl.out;omega)⟩
                    have ck2:=hA.out.cell' (I64_get hv2)
                    have fk2:=hA.out.frozen k
                    have hak:atG (knr.set k sm) (k:Int)=sm:=by unfold atG;rw [Int.toNat_natCast,List.getD_eq_getElem?_getD,List.getElem?_set_self (by have:=hkl.out;omega)];rfl
                    have hA2:=Lib.hid (hA.out.store k (.int .i64 sm))
                    clear hr hr' hr2 hsm hA hv2
                    go_wp2
                    go_ret
                    exact⟨by rw [hak];rfl,grown_trans hgr.out (grown_set wr ⟨kb,k,none⟩ _),by have h:=hA2.out;rw [I64_set] at h;exact h⟩
          · cases h
    · cases h
end Go.Proofs.YtnnnagnjikdnnaaGreatDoor
