/- The walks of iniout's keyForm and valueForm. -/
import Derived.Test.YtnnnagnjikdnnaaGreatDoorMBj
import Derived.Test.YtnnnagnjikdnnaaGreatDoorMAo
import Derived.Test.YtnnnagnjikdnnaaGreatDoorMAy
import Derived.Test.YtnnnagnjikdnnaaGreatDoorMAp
set_option linter.unusedVariables false
set_option linter.unusedSimpArgs false
set_option linter.defProp false
set_option linter.constructorNameAsVariable false
namespace Go.Proofs.YtnnnagnjikdnnaaGreatDoor
open Go.RowKit
theorem bare_hi:∀x,128≤x→(!bareI x)=true:=fun x hx=>by
 have:bareI x=false:=by
  cases h:bareI x with
  | false=>rfl
  | true=>have:=bareI_is h;omega
 rw [this];rfl
theorem ctl_hi:∀x,128≤x→decide (x<32)=false:=fun x hx=>by simp;omega
set_option maxRecDepth 20000 in
set_option maxHeartbeats 8000000 in
theorem keyForm_cb {t:List Nat} (ht:By t) (hl:t.length≤10000) (w:World) (h:DB16 w) :
  Calls Tryz.prog 18 #[.string (mks t)] w fun e w'=>e=.returned (.string (mks (keyI t)))∧Below w.heap.size w w':=by
 have HX:=Lib.hid (Arr.new w 90 [.func (.func 39) #[] #[]])
 have hb1:Below w.heap.size w (w.alloc (.cells #[.func (.func 39) #[] #[]] 90)):=(Below.refl _ _).alloc (Nat.le_refl _) _
 change Hid (Arr (w.alloc (.cells #[.func (.func 39) #[] #[]] 90)) w.heap.size 90 [.func (.func 39) #[] #[]]) at HX
 have HB1:=Lib.hid hb1
 have DQ:=Lib.hid (fun(w':World) (hb:Below w.heap.size w w')=>quotedO_cb ht hl w' (h.keep hb))
 have HT:=Lib.hid ht
 have HL:=Lib.hid hl
 obtain⟨R,hR⟩:∃R,mks (keyI t)=R:=⟨_,rfl⟩
 rw [hR]
 have HR:=Lib.hid hR
 clear ht hl h hb1 hR
 go_enter Tryz.func18,Tryz.ntmps18
 go_upto_region 2 with(fail)
 generalize w.alloc (.cells #[.func (.func 39) #[] #[]] 90)=W at *
 obtain⟨bb,hbb⟩:∃bb,Hid (w.heap.size=bb):=⟨_,rfl⟩
 rw [hbb.out] at HX ⊢
 have x0:=HX.out.cell' (i:=0) rfl
 have DC:=con_key (p:=fun r=>!bareI r) bare_hi HT.out (by have:=HL.out;omega) (bb:=bb) W (fun r w' hr hb=>nbare_cb hr w' ((hb.cell (block_lt_of_cell x0)).trans x0))
 clear x0
 cases t with
 | nil=>
  clear DC
  go_wp2_with (go_at_call 42;((with_reducible refine(DQ.out _ HB1.out).mono ?_));rintro e w2 ⟨rfl,hb2⟩)
  go_ret
  exact⟨by rw [←HR.out];rfl,HB1.out.trans (hb2.mono HB1.out.size)⟩
 | cons c r=>
  have hq:keyQ (c :: r)=(c :: r).any (fun x=>!bareI x):=rfl
  rw [←hq] at DC
  have HDC:=Lib.hid DC
  clear DC hq
  cases hk:keyQ (c :: r) with
  | true=>
   have hk2:=Lib.hid (show keyI (c :: r)=quoI (c :: r) by unfold keyI;rw [hk,if_pos rfl])
   rw [hk] at HDC
   clear hk
   go_wp2_with (first | (go_at_call 40;((with_reducible refine HDC.out.mono ?_));rintro e w2 ⟨rfl,hb2⟩;have HB2:=Lib.hid (HB1.out.trans (hb2.mono HB1.out.size));clear hb2) | (go_at_call 42;((with_reducible refine(DQ.out _ HB2.out).mono ?_));rintro e w3 ⟨rfl,hb3⟩))
   go_ret
   exact⟨by rw [←HR.out,hk2.out];rfl,HB2.out.trans (hb3.mono HB2.out.size)⟩
  | false=>
   have hk2:=Lib.hid (show keyI (c :: r)=c :: r by unfold keyI;rw [hk,if_neg (by decide)])
   rw [hk] at HDC
   clear hk
   go_wp2_with (go_at_call 40;((with_reducible refine HDC.out.mono ?_));rintro e w2 ⟨rfl,hb2⟩;have HB2:=Lib.hid (HB1.out.trans (hb2.mono HB1.out.size));clear hb2)
   go_ret
   exact⟨by rw [←HR.out,hk2.out];rfl,HB2.out⟩
set_option maxRecDepth 20000 in
set_option maxHeartbeats 8000000 in
theorem valueForm_cb {t:List Nat} (ht:By t) (hl:t.length≤10000) (w:World) (h:DB16 w) :
  Calls Tryz.prog 21 #[.string (mks t)] w fun e w'=>e=.returned (.string (mks (valI t)))∧Below w.heap.size w w':=by
 have DQ:=Lib.hid (fun(w':World) (hb:Below w.heap.size w w')=>quotedO_cb ht hl w' (h.keep hb))
 have DC:=con_val (p:=fun r=>decide (r<32)) ctl_hi ht (by omega) (bb:=0) w (fun r w' hr _=>ctl_cb hr w')
 obtain⟨R,hR⟩:∃R,mks (valI t)=R:=⟨_,rfl⟩
 rw [hR]
 have HR:=Lib.hid hR
 have HT:=Lib.hid ht
 have HB0:=Lib.hid (Below.refl w.heap.size w)
 have HL:=Lib.hid hl
 clear ht hl h hR
 cases t with
 | nil=>
  clear DC
  go_enter Tryz.func21,Tryz.ntmps21
  go_wp2_with (go_at_call 42;((with_reducible refine(DQ.out _ HB0.out).mono ?_));rintro e w3 ⟨rfl,hb3⟩)
  go_ret
  exact⟨by rw [←HR.out];rfl,hb3⟩
 | cons c r=>
  obtain⟨n,hn⟩:∃n,(c :: r).length=n:=⟨_,rfl⟩
  obtain⟨n1,hn1⟩:∃n1,n=n1+1:=⟨n - 1,by rw [←hn];rfl⟩
  have hsz:(mks (c :: r)).size=n:=by rw [size_mks];exact hn
  have q0:0<(mks (c :: r)).size:=by rw [hsz];omega
  have h00:(c :: r)[0]? = some c:=rfl
  have hg0:=get_mks h00 (HT.out.get h00) q0
  clear h00
  obtain⟨d,hd⟩:∃d,(c :: r)[n1]? = some d:=⟨_,List.getElem?_eq_getElem (by omega)⟩
  have q1:n1<(mks (c :: r)).size:=by rw [hsz];omega
  have hg1:=get_mks hd (HT.out.get hd) q1
  have hlast:(c :: r).getLastD 0=d:=by
   rw [List.getLastD_eq_getLast?,List.getLast?_eq_getElem?,hn,hn1,Nat.add_sub_cancel,hd]
   rfl
  have hvq:valQ (c :: r)=(c == 34 || c == 32 || d == 32 || (c :: r).any fun x=>decide (x<32)):=by
   unfold valQ
   rw [hlast]
   rfl
  obtain⟨b,hb⟩:∃b,((c :: r).any fun x=>decide (x<32))=b:=⟨_,rfl⟩
  rw [hb] at hvq DC
  have HDC:=Lib.hid DC
  have h9:=HL.out
  rw [hn] at h9
  have n4:(n1:Int)≤10000:=by omega
  have e1:(n:Int) - 1=n1:=by omega
  have n0:(0:Int)<n:=by omega
  have n2:(n1:Int)<n:=by omega
  have n3:(0:Int)≤n1:=by omega
  have hvy:valQ (c :: r)=true→valI (c :: r)=quoI (c :: r):=fun h=>by unfold valI;rw [h,if_pos rfl]
  have hvn:valQ (c :: r)=false→valI (c :: r)=c :: r:=fun h=>by unfold valI;rw [h,if_neg (by decide)]
  rw [hvq] at hvy hvn
  have HVY:=Lib.hid hvy
  have HVN:=Lib.hid hvn
  clear hvq hvy hvn hd hlast hn hn1 hb DC
  by_cases c34:c=34
  ·subst c34
   have HV:=Lib.hid (HVY.out rfl)
   go_enter Tryz.func21,Tryz.ntmps21
   go_wp2_with (go_at_call 42;((with_reducible refine(DQ.out _ HB0.out).mono ?_));rintro e w3 ⟨rfl,hb3⟩)
   go_ret
   exact⟨by rw [←HR.out,HV.out];rfl,hb3⟩
  have m34:((c:Int) == 34)=false:=by simp;omega
  have k34:(c == 34)=false:=by simp;exact c34
  by_cases c32:c=32
  ·subst c32
   have HV:=Lib.hid (HVY.out rfl)
   go_enter Tryz.func21,Tryz.ntmps21
   go_wp2_with (go_at_call 42;((with_reducible refine(DQ.out _ HB0.out).mono ?_));rintro e w3 ⟨rfl,hb3⟩)
   go_ret
   exact⟨by rw [←HR.out,HV.out];rfl,hb3⟩
  have m32:((c:Int) == 32)=false:=by simp;omega
  have k32:(c == 32)=false:=by simp;exact c32
  by_cases d32:d=32
  ·subst d32
   have HV:=Lib.hid (HVY.out (by rw [k34,k32];rfl))
   clear k34 k32
   go_enter Tryz.func21,Tryz.ntmps21
   go_wp2_with (go_at_call 42;((with_reducible refine(DQ.out _ HB0.out).mono ?_));rintro e w3 ⟨rfl,hb3⟩)
   go_ret
   exact⟨by rw [←HR.out,HV.out];rfl,hb3⟩
  have o32:((d:Int) == 32)=false:=by simp;omega
  have l32:(d == 32)=false:=by simp;exact d32
  cases b with
  | true=>
   have HV:=Lib.hid (HVY.out (by rw [k34,k32,l32];rfl))
   clear k34 k32 l32 c34 c32 d32
   go_enter Tryz.func21,Tryz.ntmps21
   go_wp2_with (first | (go_at_call 40;((with_reducible refine HDC.out.mono ?_));rintro e w2 ⟨rfl,hb2⟩;have HB2:=Lib.hid hb2;clear hb2) | (go_at_call 42;((with_reducible refine(DQ.out _ HB2.out).mono ?_));rintro e w3 ⟨rfl,hb3⟩))
   go_ret
   exact⟨by rw [←HR.out,HV.out];rfl,HB2.out.trans (hb3.mono HB2.out.size)⟩
  | false=>
   have HV:=Lib.hid (HVN.out (by rw [k34,k32,l32];rfl))
   clear k34 k32 l32 c34 c32 d32
   go_enter Tryz.func21,Tryz.ntmps21
   go_wp2_with (go_at_call 40;((with_reducible refine HDC.out.mono ?_));rintro e w2 ⟨rfl,hb2⟩;have HB2:=Lib.hid hb2;clear hb2)
   go_ret
   exact⟨by rw [←HR.out,HV.out];rfl,HB2.out⟩
end Go.Proofs.YtnnnagnjikdnnaaGreatDoor
namespace Go.Proofs.YtnnnagnjikdnnaaGreatDoor
open Go.RowKit
structure YB where
  st:Nat
  pa:Nat
  gr:Nat
  fo:Nat
  vi:Nat
  sm:Nat
def cycFn (e:YB):Value:=.func (.func 65) #[] #[.pointer (some ⟨e.st,0,none⟩),.pointer (some ⟨e.pa,0,none⟩),.pointer (some ⟨e.gr,0,none⟩),.pointer (some ⟨e.fo,0,none⟩),.pointer (some ⟨e.vi,0,none⟩)]
structure YE (w0 w:World) (B g o c:Nat) (nodes:List GNode) (root:Int) (F:Nat→Prop) (e:YB) (vp:Value) (S P:List Int):Prop where
  be:Below B w0 w
  gd:GRd w B g o nodes
  st:Arr w e.st 28 [.slice (some ⟨e.sm,0,none⟩) nodes.length nodes.length]
  gr:Arr w e.gr 26 [.slice (some ⟨g,o,none⟩) nodes.length c,.int .i64 root]
  vi:Arr w e.vi 88 [cycFn e]
  sm:Arr w e.sm 3 (I64 S)
  pa:Arr w e.pa 28 [vp]
  fd:Arr w e.fo 28 [.slice none 0 0]
  ro:w.ownsRow B 3 1 vp P.length (I64 P)
  lo:∀b,F b→B≤b
  hi:∀b,F b→b<w.heap.size
  fr:¬F e.st∧¬F e.gr∧¬F e.vi∧¬F e.fo
  fw:F e.sm∧F e.pa
  fo:∀b,vp.ownBlock=some b→F b
  d1:vp.ownBlock≠some e.sm
section
variable {w0 w w' w1 w3:World} {B g o c:Nat} {nodes:List GNode} {root:Int} {F:Nat→Prop} {e:YB} {vp v':Value} {S P:List Int}
theorem YE.kept (h:YE w0 w B g o c nodes root F e vp S P) (hb:Below w.heap.size w w'):YE w0 w' B g o c nodes root F e vp S P:=
  { be:=h.be.trans (hb.mono h.gd.2.1)
    gd:=h.gd.below hb h.gd.2.1
    st:=h.st.keep hb
    gr:=h.gr.keep hb
    vi:=h.vi.keep hb
    sm:=h.sm.keep hb
    pa:=h.pa.keep hb
    fd:=h.fd.keep hb
    ro:=own_below h.ro hb
    lo:=h.lo
    hi:=fun b hF=>Nat.lt_of_lt_of_le (h.hi b hF) hb.size
    fr:=h.fr
    fw:=h.fw
    fo:=h.fo
    d1:=h.d1 }
theorem YE.neF (h:YE w0 w B g o c nodes root F e vp S P) {r:Nat} (hF:F r):e.st≠r∧e.gr≠r∧e.vi≠r∧e.fo≠r:=by
  obtain⟨h1,h2,h3,h4⟩:=h.fr
  exact⟨fun e=>h1 (e▸hF),fun e=>h2 (e▸hF),fun e=>h3 (e▸hF),fun e=>h4 (e▸hF)⟩
theorem YE.set_sm (h:YE w0 w B g o c nodes root F e vp S P) (S':List Int) (hg:w.grownBy w' (some e.sm)) (hA:Arr w' e.sm 3 (I64 S')):YE w0 w' B g o c nodes root F e vp S' P:=by
  obtain⟨n1,n2,n3,n4⟩:=h.neF h.fw.1
  exact { be := below_row h.be hg h.gd.2.1 (h.lo _ h.fw.1)
          gd:=h.gd.grown hg (h.lo _ h.fw.1)
          st:=h.st.grown hg (some_ne n1)
          gr:=h.gr.grown hg (some_ne n2)
          vi:=h.vi.grown hg (some_ne n3)
          sm:=hA
          pa:=h.pa.grown hg (some_ne (kind_ne h.pa h.sm (by decide)))
          fd:=h.fd.grown hg (some_ne n4)
          ro:=row_grown h.ro hg h.d1
          lo:=h.lo
          hi:=fun b hF=>Nat.lt_of_lt_of_le (h.hi b hF) hg.size
          fr:=h.fr
          fw:=h.fw
          fo:=h.fo
          d1:=h.d1 }
theorem YE.push (h : YE w0 w B g o c nodes root F e vp S P) (x : Int) (hb : Below w.heap.size w w1) (hg : w1.grownBy w3 vp.ownBlock) (hown : w3.ownsRow B 3 1 v' (P.length + 1) (I64 P ++ [.int .i64 x])) (hat : v'.ownBlock = vp.ownBlock ∨ v'.ownBlock = some w1.heap.size) :
    ∃F',YE w0 (w3.setCell ⟨e.pa,0,none⟩ v') B g o c nodes root F' e v' S (P ++ [x])∧PStep w (w3.setCell ⟨e.pa,0,none⟩ v') F F'∧(∀b,F b→F' b):=by
  have hq:∀b,vp.ownBlock=some b→F b:=h.fo
  have hBw:B≤w1.heap.size:=Nat.le_trans h.gd.2.1 hb.size
  have hst:=arr_row h.pa hb hg (row_ne h.ro h.pa (by decide))
  have far:∀{b:Nat} {t:TypeId} {xs:List Value},Arr w b t xs→vp.ownBlock≠some b→b≠e.pa→Arr (w3.setCell ⟨e.pa,0,none⟩ v') b t xs:=fun ha hn hne=>(arr_row ha hb hg hn).far hne v'
  have hown4:(w3.setCell ⟨e.pa,0,none⟩ v').ownsRow B 3 1 v' (P ++ [x]).length (I64 (P ++ [x])):=by
    rw [I64_append,List.length_append,List.length_singleton]
    exact own_far (p:=⟨e.pa,0,none⟩) hown (own_arr hown hst (by decide)) v'
  have hss:(w3.setCell ⟨e.pa,0,none⟩ v').heap.size=w3.heap.size:=by simp [World.setCell]
  have hsz:w.heap.size≤w3.heap.size:=Nat.le_trans hb.size hg.size
  have hvF:∀b,v'.ownBlock=some b→F b∨w.heap.size≤b:=fun b hb'=>by
    rcases hat with h1 | h1
    · exact .inl (hq b (h1▸hb'))
    · rw [h1] at hb'
      have:=Option.some.inj hb'
      have:=hb.size
      exact .inr (by omega)
  have hvold:∀b,b<w.heap.size→vp.ownBlock≠some b→v'.ownBlock≠some b:=fun b hl hn hb'=>by
    rcases hat with h1 | h1
    · exact hn (h1▸hb')
    · rw [h1] at hb'
      have:=Option.some.inj hb'
      have:=hb.size
      omega
  obtain⟨f1,f2,f3,f4⟩:=h.fr
  obtain⟨n1,n2⟩:=h.fw
  have hb3:Below B w0 w3:=(h.be.trans (hb.mono h.gd.2.1)).trans (below_of_grown hg hBw (fun k e'=>h.lo k (hq k e')))
  refine⟨fun b=>F b∨v'.ownBlock=some b,?_,?_,fun b hF=>.inl hF⟩
  · exact { be := hb3.setCell (p := ⟨e.pa, 0, none⟩) (h.lo _ n2) v'
            gd:=by
              have h1:=h.gd.below hb h.gd.2.1
              have h2:GRd w3 B g o nodes:=⟨h1.1,Nat.le_trans h1.2.1 hg.size,fun i nd hi=>(h1.2.2 i nd hi).same h1.1 fun a ha u hu=>hg.cell hu (fun e'=>by have:=h.lo a.block (hq a.block e'.symm);omega)⟩
              exact h2.grown (grown_set w3 ⟨e.pa,0,none⟩ v') (h.lo _ n2)
            st:=far h.st (fun k=>f1 (hq _ k)) (fun k=>f1 (k▸n2))
            gr:=far h.gr (fun k=>f2 (hq _ k)) (fun k=>f2 (k▸n2))
            vi:=far h.vi (fun k=>f3 (hq _ k)) (fun k=>f3 (k▸n2))
            fd:=far h.fd (fun k=>f4 (hq _ k)) (fun k=>f4 (k▸n2))
            sm:=far h.sm h.d1 (kind_ne h.sm h.pa (by decide))
            pa:=hst.store 0 v'
            ro:=hown4
            lo:=fun b hF=>hF.elim (h.lo b) (fun k=>(hown.lt b k).1)
            hi:=fun b hF=>by rw [hss];exact hF.elim (fun k=>Nat.lt_of_lt_of_le (h.hi b k) hsz) (fun k=>(hown.lt b k).2)
            fr:=⟨fun k=>k.elim f1 (hvold _ h.st.lt (fun k=>f1 (hq _ k))),fun k=>k.elim f2 (hvold _ h.gr.lt (fun k=>f2 (hq _ k))),fun k=>k.elim f3 (hvold _ h.vi.lt (fun k=>f3 (hq _ k))),fun k=>k.elim f4 (hvold _ h.fd.lt (fun k=>f4 (hq _ k)))⟩
            fw:=⟨.inl n1,.inl n2⟩
            fo:=fun b k=>.inr k
            d1:=hvold _ h.sm.lt h.d1 }
  · refine⟨hg.os.trans hb.os,hg.tape.trans hb.tape,hg.output.trans hb.output,by rw [hss];exact hsz,fun b hlt hF=>?_,fun b hF=>?_⟩
    · exact(setCell_heap_ne _ _ _ (by rintro rfl;exact hF n2)).trans ((hg.block b (Nat.lt_of_lt_of_le hlt hb.size) (fun e'=>hF (hq b e'.symm))).trans (hb.block b hlt))
    · exact hF.elim .inl (fun k=>hvF b k)
theorem YE.pop {A : Option Addr} {n cap : Nat} (h : YE w0 w B g o c nodes root F e (.slice A (n + 1) cap) S P) (hn : P.length = n + 1) :
    YE w0 (w.setCell ⟨e.pa,0,none⟩ (.slice A n cap)) B g o c nodes root F e (.slice A n cap) S P.dropLast:=by
  have hg:=grown_set w ⟨e.pa,0,none⟩ (.slice A n cap)
  obtain⟨n1,n2,n3,n4⟩:=h.neF h.fw.2
  have hob:(Value.slice A n cap).ownBlock=(Value.slice A (n+1) cap).ownBlock:=by cases A <;> rfl
  have hown:(w.setCell ⟨e.pa,0,none⟩ (.slice A n cap)).ownsRow B 3 1 (.slice A n cap) P.dropLast.length (I64 P.dropLast):=by
    have h1:=h.ro
    rw [hn] at h1
    rw [I64_dropLast,List.length_dropLast,hn]
    exact own_far (p:=⟨e.pa,0,none⟩) (own_pop h1) (by rw [hob];exact row_ne h.ro h.pa (by decide)) _
  exact { be := below_row h.be hg h.gd.2.1 (h.lo _ h.fw.2)
          gd:=h.gd.grown hg (h.lo _ h.fw.2)
          st:=h.st.grown hg (some_ne n1)
          gr:=h.gr.grown hg (some_ne n2)
          vi:=h.vi.grown hg (some_ne n3)
          fd:=h.fd.grown hg (some_ne n4)
          sm:=h.sm.grown hg (some_ne (kind_ne h.sm h.pa (by decide)))
          pa:=h.pa.store 0 _
          ro:=hown
          lo:=h.lo
          hi:=fun b hF=>Nat.lt_of_lt_of_le (h.hi b hF) hg.size
          fr:=h.fr
          fw:=h.fw
          fo:=by rw [hob];exact h.fo
          d1:=by rw [hob];exact h.d1 }
end
def NoOpen (S:List Int) (k:Nat):Prop:=∀j,k≤j→S.getD j 0≠1
def UpI (nodes:List GNode):Prop:=∀k,k<nodes.length→∀x∈(ndAt nodes k).items,(k:Int)<x∧x<(nodes.length:Int)
end Go.Proofs.YtnnnagnjikdnnaaGreatDoor
namespace Go.Proofs.YtnnnagnjikdnnaaGreatDoor
open Go.RowKit
def CYC (w0 w:World) (B g o c:Nat) (nodes:List GNode) (root:Int) (F:Nat→Prop) (e:YB) (S P:List Int) (k:Nat) (en:Ending) (w':World):Prop:=
 en=.returned (.bool false)∧∃F' vp' S',Hid (YE w0 w' B g o c nodes root F' e vp' S' P)∧S'.length=nodes.length∧Hid (NoOpen S' k)∧Hid (∀j,j<k→S'.getD j 0=S.getD j 0)∧PStep w w' F F'
def VisY (w0:World) (B g o c:Nat) (nodes:List GNode) (root:Int) (e:YB) (f:Nat):Prop:=∀(k:Nat) (w:World) (F:Nat→Prop) (vp:Value) (S P:List Int),nodes.length≤k+f→k<nodes.length→S.length=nodes.length→NoOpen S k→P.length≤k→YE w0 w B g o c nodes root F e vp S P →
 Calls Tryz.prog 65 #[.int .i64 (k:Int),.pointer (some ⟨e.st,0,none⟩),.pointer (some ⟨e.pa,0,none⟩),.pointer (some ⟨e.gr,0,none⟩),.pointer (some ⟨e.fo,0,none⟩),.pointer (some ⟨e.vi,0,none⟩)] w (CYC w0 w B g o c nodes root F e S P k)
theorem I64_sets (l:List Int) (k:Nat) (x:Int):(I64 l).set k (.int .i64 x)=I64 (l.set k x):=by simp [I64,List.map_set]
theorem NoOpen.up {S:List Int} {k j:Nat} (h:NoOpen S k) (hkj:k≤j):NoOpen S j:=fun i hi=>h i (by omega)
theorem NoOpen.set1 {S:List Int} {k:Nat} (h:NoOpen S k) (hk:k<S.length):NoOpen (S.set k 1) (k+1):=fun j hj=>by
 rw [getD_set hk,if_neg (by omega)];exact h j (by omega)
theorem NoOpen.set2 {S:List Int} {k:Nat} (h:NoOpen S (k+1)) (hk:k<S.length):NoOpen (S.set k 2) k:=fun j hj=>by
 rw [getD_set hk]
 by_cases e:k=j
 ·rw [if_pos e];omega
 ·rw [if_neg e];exact h j (by omega)
set_option maxRecDepth 20000 in
set_option maxHeartbeats 16000000 in
theorem visitY_any {w0:World} {B g o c:Nat} {nodes:List GNode} {root:Int} {e:YB} (hw0:LibE w0) (hB0:B=w0.heap.size) (hU:UpI nodes) (hL:NL 65536 nodes) (hN:nodes.length≤65536) (hT:∀k,k<nodes.length→(ndAt nodes k).kind=10→SortN nodes (ndAt nodes k)) (f:Nat):VisY w0 B g o c nodes root e f:=by
 have HB0:=Lib.hid hB0
 clear hB0
 induction f with
 | zero=>intro k w F vp S P hf hk;omega
 | succ f ih=>
  intro k w F vp S P hf hk hSl hS hPl hE
  have hk0:(0:Int)≤k:=by omega
  have hk1:(k:Int)<nodes.length:=by omega
  have x0:=hE.st.cell' (i:=0) rfl
  have m0:=hE.sm.cell' (I64_getD (l:=S) (k:=k) (by omega))
  have f0:=hE.sm.frozen k
  have hg1:=grown_set w ⟨e.sm,k,none⟩ (.int .i64 1)
  have hE1:Hid (YE w0 (w.setCell ⟨e.sm,k,none⟩ (.int .i64 1)) B g o c nodes root F e vp (S.set k 1) P):=hE.set_sm _ hg1 (by have:=hE.sm.store k (.int .i64 1);rw [I64_sets] at this;exact this)
  have hP1:=Lib.hid (pstep_grown hg1 hE.fw.1)
  have HSL:=Lib.hid hSl
  have hS1:=Lib.hid (hS.set1 (by omega:k<S.length))
  have hSk:Hid (∀j,j<k→(S.set k 1).getD j 0=S.getD j 0):=fun j hj=>by rw [getD_set (by omega),if_neg (by omega)]
  have hSl1:Hid ((S.set k 1).length=nodes.length):=by show _=_;rw [List.length_set];exact hSl
  clear hg1 hE hS hSl
  go_enter Tryz.func65,Tryz.ntmps65
  go_upto_region 2 with(fail)
  clear x0 m0 f0
  generalize w.setCell ⟨e.sm,k,none⟩ (.int .i64 1)=w1 at *
  generalize hSS:S.set k 1=S1 at *
  clear hSS
  obtain⟨Ao,co,hvs,_,_⟩:=own_slice hE1.out.ro
  subst hvs
  have a0:=hE1.out.pa.cell' (i:=0) rfl
  have hBw:B≤w1.heap.size:=hE1.out.gd.2.1
  have hr1:Hid ((w1.alloc (.cells #[.int .i64 (k:Int)] 3)).ownsRow B 3 1 (.slice Ao P.length co) P.length (I64 P)):=hE1.out.ro.alloc _
  have hb1:Hid (Below w1.heap.size w1 (w1.alloc (.cells #[.int .i64 (k:Int)] 3))):=(Below.refl _ _).alloc (Nat.le_refl _) _
  go_upto_region 3 with(at_builtin;go_loud (refine wpList_apS rfl (.tmp 15) (.tmp 17) 28 rfl B 3 _ 1 _ Tryz.underlying28 infoInt rfl (by decide) _ P.length (I64 P) rfl hr1.out ⟨w1.heap.size,0,none⟩ _ [.int .i64 (k:Int)] rfl rfl (cells_new _ _ _) rfl (by unfold maxLen;omega) (by omega) (by simp;omega) ?_;intro v3 w3 hown3 hgr3 hat3;obtain⟨A3,c3,hv3,hc3,hm3⟩:=own_slice hown3;subst hv3;have hS3:=arr_row hE1.out.pa hb1.out hgr3 (row_ne hE1.out.ro hE1.out.pa (by decide));have p3:=hS3.cell' (i:=0) rfl;have q3:=hS3.frozen 0))
  obtain⟨F2,hE2',hP2',hFF⟩:=hE1.out.push (k:Int) hb1.out hgr3 hown3 hat3
  have hE2:Hid (YE w0 (w3.setCell ⟨e.pa,0,none⟩ (.slice A3 (P.length+1) c3)) B g o c nodes root F2 e (.slice A3 (P.length+1) c3) S1 (P ++ [(k:Int)])):=hE2'
  have hP2:=Lib.hid (hP1.out.trans hP2')
  clear hE2' hP2' hFF hown3 hgr3 hat3 hS3 p3 q3 hr1 hb1 hBw a0 hE1 hP1
  generalize w3.setCell ⟨e.pa,0,none⟩ (.slice A3 (P.length+1) c3)=w2 at *
  generalize (Value.slice A3 (P.length+1) c3)=vp2 at *
  have b1:w2.cell? ⟨e.gr,0,none⟩=some (.slice (some ⟨g,o,none⟩) nodes.length c):=hE2.out.gr.cell' (i:=0) rfl
  have b2:w2.cell? ⟨e.gr,1,none⟩=some (.int .i64 root):=hE2.out.gr.cell' (i:=1) rfl
  have hw2:LibE w2:=by
   have h:=hE2.out.be
   rw [HB0.out] at h
   exact hw0.keep h
  have D:=Lib.hid (sorted_any (c:=c) (root:=root) hL k hk (hT k hk) w2 hw2 hE2.out.gd)
  clear hw2
  obtain⟨m,hm⟩:∃m,(ndAt nodes k).items.length=m:=⟨_,rfl⟩
  have HMM:=Lib.hid hm
  rw [hm] at D
  clear hm
  go_upto_region 4 with(go_at_call 66;((with_reducible refine D.out.mono ?_));rintro en w4 ⟨lb,xs,rfl,hlb,hlb2,hb4,hxl,hxi,hrd⟩)
  have hE4:=Lib.hid (hE2.out.kept hb4)
  have hlF:¬F2 lb:=fun h=>by have:=hE2.out.hi _ h;omega
  have hP4:=Lib.hid (hP2.out.trans (PStep.of_below hb4))
  have hml:m≤65536:=by have:=(hL k hk).2;have:=HMM.out;omega
  clear b1 b2 D hE2 hP2 hb4 hlb
  go_loopw [23] (fun v wr=>∃(i:Nat) (F1:Nat→Prop) (vp1:Value) (S2:List Int),i≤m∧v=.int .i64 (i:Int)∧Hid (YE w0 wr B g o c nodes root F1 e vp1 S2 (P ++ [(k:Int)]))∧Hid (S2.length=nodes.length)∧Hid (NoOpen S2 (k+1))∧Hid (∀j,j<k→S2.getD j 0=S.getD j 0)∧PStep w4 wr F2 F1) (fun v _=>m - (intOf v).toNat)
  case atStart=>exact⟨0,F2,vp2,S1,Nat.zero_le _,rfl,hE4,hSl1,hS1,hSk,PStep.of_below (Below.refl _ _)⟩
  case round=>
   obtain⟨i,F1,vp1,S2,hi,rfl,hE5,hSl5,hS5,hSk5,hPr⟩:=hrel
   have hs5:=hSl5.out
   by_cases him:i=m
   ·have hi':¬(i:Int)<m:=by omega
    have hlen:(P ++ [(k:Int)]).length=P.length+1:=by simp
    obtain⟨gs,cs,hvp,hcs,hcm⟩:=own_some hE5.out.ro (by omega)
    rw [hlen] at hvp hcs
    subst hvp
    have y0:=hE5.out.st.cell' (i:=0) rfl
    have y1:=hE5.out.sm.cell' (I64_getD (l:=S2) (k:=k) (by omega))
    have y2:=hE5.out.sm.frozen k
    have hg6:=grown_set wr ⟨e.sm,k,none⟩ (.int .i64 2)
    have hE6:Hid (YE w0 (wr.setCell ⟨e.sm,k,none⟩ (.int .i64 2)) B g o c nodes root F1 e (.slice (some ⟨gs,0,none⟩) (P.length+1) cs) (S2.set k 2) (P ++ [(k:Int)])):=hE5.out.set_sm _ hg6 (by have:=hE5.out.sm.store k (.int .i64 2);rw [I64_sets] at this;exact this)
    have hP6:=Lib.hid (hPr.trans (pstep_grown hg6 hE5.out.fw.1))
    have hS6:=Lib.hid (hS5.out.set2 (by omega:k<S2.length))
    have hSk6:Hid (∀j,j<k→(S2.set k 2).getD j 0=S.getD j 0):=fun j hj=>by rw [getD_set (by omega),if_neg (by omega)];exact hSk5.out j hj
    have hSl6:Hid ((S2.set k 2).length=nodes.length):=by show _=_;rw [List.length_set];exact hs5
    clear hg6 hE5 hS5 hSk5 hSl5 hPr
    go_upto_region 17 with(fail)
    clear y0 y1 y2
    generalize wr.setCell ⟨e.sm,k,none⟩ (.int .i64 2)=w6 at *
    generalize hSS:S2.set k 2=S6 at *
    clear hSS
    have r1:=hE6.out.pa.cell' (i:=0) rfl
    have r2:=hE6.out.pa.frozen 0
    have hE7:Hid (YE w0 (w6.setCell ⟨e.pa,0,none⟩ (.slice (some ⟨gs,0,none⟩) P.length cs)) B g o c nodes root F1 e (.slice (some ⟨gs,0,none⟩) P.length cs) S6 P):=by
     have h:=hE6.out.pop hlen
     rw [List.dropLast_concat] at h
     exact h
    have hP7:=Lib.hid (hP6.out.trans (pstep_grown (grown_set w6 ⟨e.pa,0,none⟩ (.slice (some ⟨gs,0,none⟩) P.length cs)) hE6.out.fw.2))
    have hp0:(0:Int)≤P.length:=by omega
    have hp1:(P.length:Int)≤cs:=by omega
    have hp2:P.length≤65536:=by omega
    unfold maxLen at hcm
    have hFin:Hid (CYC w0 w B g o c nodes root F e S P k (.returned (.bool false)) (w6.setCell ⟨e.pa,0,none⟩ (.slice (some ⟨gs,0,none⟩) P.length cs))):=⟨rfl,F1,_,S6,hE7,hSl6.out,hS6,hSk6,hP4.out.trans hP7.out⟩
    clear hE6 hP6 hE7 hP7 hS6 hSk6 hSl6
    go_wp2_with (fail)
    go_ret
    exact hFin.out
   ·have hi':(i:Int)<m:=by omega
    obtain⟨a,hxa,ham⟩:=InR_get hxi (k:=i) (by omega)
    obtain⟨ad,had,hca⟩:=(hPr.rd hrd.out (fun ad e2=>by have:=Option.some.inj e2;subst this;exact hlF)).at_ (I64_get hxa)
    obtain rfl:=Option.some.inj had
    rw [Addr.add_mid,Nat.zero_add] at hca
    obtain⟨K,ck,I,ci,_,_,_,_,c4,_,hIt,hIb⟩:=hE5.out.gd.of_at hk
    obtain⟨y,hy⟩:∃y,(ndAt nodes k).items[a]? = some y:=⟨_,List.getElem?_eq_getElem (by have:=HMM.out;omega)⟩
    obtain⟨ai,rfl,hcy⟩:=hIt.at_ (I64_get hy)
    have hyr:=hU k hk y (List.mem_of_getElem? hy)
    obtain⟨ky,rfl⟩:∃ky:Nat,y=(ky:Int):=⟨y.toNat,by omega⟩
    have hky:ky<nodes.length:=by omega
    have hkk:k+1≤ky:=by omega
    rw [HMM.out] at c4
    have i0:(0:Int)≤i:=by omega
    have a0:(0:Int)≤a:=by omega
    have a1:(a:Int)<m:=by omega
    have y0:(0:Int)≤ky:=by omega
    have y1:(ky:Int)<nodes.length:=by omega
    have g0:=hE5.out.gr.cell' (i:=0) rfl
    have t0:=hE5.out.st.cell' (i:=0) rfl
    have v0:=hE5.out.vi.cell' (i:=0) rfl
    unfold cycFn at v0
    have hb:=hE5.out.sm.cell' (I64_getD (l:=S2) (k:=ky) (by omega))
    have hno:=hS5.out ky hkk
    have DV:=Lib.hid (ih ky wr F1 vp1 S2 (P ++ [(k:Int)]) (by omega) hky hs5 (hS5.out.up hkk) (by simp;omega) hE5.out)
    clear hy hyr hIt hIb
    generalize S2.getD ky 0=sv at *
    have hsv1:((sv:Int) == 1)=false:=by simpa using hno
    by_cases hsv:sv=0
    ·have hsv0:((sv:Int) == 0)=true:=by simpa using hsv
     clear hsv hno
     go_upto_region 15 with(go_at_call 65;((with_reducible refine DV.out.mono ?_));rintro en w7 ⟨rfl,F7,vp7,S7,hE7,hSl7,hS7,hSk7,hP7⟩)
     have hS8:Hid (NoOpen S7 (k+1)):=fun j hj=>by
      by_cases hjk:ky≤j
      ·exact hS7.out j hjk
      ·rw [hSk7.out j (by omega)];exact hS5.out j hj
     have hSk8:Hid (∀j,j<k→S7.getD j 0=S.getD j 0):=fun j hj=>(hSk7.out j (by omega)).trans (hSk5.out j hj)
     have hP8:=hPr.trans hP7
     clear hca c4 hcy g0 t0 hb v0 DV hE5 hS5 hSk5 hPr hP7 hS7 hSk7
     go_wp2_with (fail)
     go_roundw
     case rel=>exact⟨i+1,F7,vp7,S7,by omega,i64e (by omega),hE7,hSl7,hS8,hSk8,hP8⟩
     case measure=>simp [intOf];omega
    ·have hsv0:((sv:Int) == 0)=false:=by simpa using hsv
     clear hsv hno DV
     go_wp2_with (fail)
     go_roundw
     case rel=>exact⟨i+1,F1,vp1,S2,by omega,i64e (by omega),hE5,hSl5,hS5,hSk5,hPr⟩
     case measure=>simp [intOf];omega
end Go.Proofs.YtnnnagnjikdnnaaGreatDoor
namespace Go.Proofs.YtnnnagnjikdnnaaGreatDoor
open Go.RowKit
structure OB where
  mt:Nat
  ou:Nat
  en:Nat
  gr:Nat
  vi:Nat
  mm:Nat
  em:Nat
def orderFn (e:OB):Value:=.func (.func 124) #[] #[.pointer (some ⟨e.mt,0,none⟩),.pointer (some ⟨e.ou,0,none⟩),.pointer (some ⟨e.gr,0,none⟩),.pointer (some ⟨e.en,0,none⟩),.pointer (some ⟨e.vi,0,none⟩)]
structure OE (w0 w:World) (B g o c:Nat) (nodes:List GNode) (root:Int) (F:Nat→Prop) (e:OB) (vs:Value) (M:List Bool) (L:List Int) (es:List Value):Prop where
  be:Below B w0 w
  gd:GRd w B g o nodes
  mt:Arr w e.mt 100 [.slice (some ⟨e.mm,0,none⟩) nodes.length nodes.length]
  en:Arr w e.en 134 [.slice (some ⟨e.em,0,none⟩) nodes.length nodes.length]
  gr:Arr w e.gr 26 [.slice (some ⟨g,o,none⟩) nodes.length c,.int .i64 root]
  vi:Arr w e.vi 135 [orderFn e]
  mm:Arr w e.mm 4 (Bs M)
  em:Arr w e.em 28 es
  ou:Arr w e.ou 28 [vs]
  ro:w.ownsRow B 3 1 vs L.length (I64 L)
  lo:∀b,F b→B≤b
  hi:∀b,F b→b<w.heap.size
  fr:¬F e.mt∧¬F e.en∧¬F e.gr∧¬F e.vi
  fw:F e.mm∧F e.em∧F e.ou
  fo:∀b,vs.ownBlock=some b→F b
  d1:e.ou≠e.em
section
variable {w0 w w' w1 w3:World} {B g o c:Nat} {nodes:List GNode} {root:Int} {F:Nat→Prop} {e:OB} {vs v':Value} {M:List Bool} {L:List Int} {es:List Value}
theorem OE.kept (h:OE w0 w B g o c nodes root F e vs M L es) (hb:Below w.heap.size w w'):OE w0 w' B g o c nodes root F e vs M L es:=
  { be:=h.be.trans (hb.mono h.gd.2.1)
    gd:=h.gd.below hb h.gd.2.1
    mt:=h.mt.keep hb
    en:=h.en.keep hb
    gr:=h.gr.keep hb
    vi:=h.vi.keep hb
    mm:=h.mm.keep hb
    em:=h.em.keep hb
    ou:=h.ou.keep hb
    ro:=own_below h.ro hb
    lo:=h.lo
    hi:=fun b hF=>Nat.lt_of_lt_of_le (h.hi b hF) hb.size
    fr:=h.fr
    fw:=h.fw
    fo:=h.fo
    d1:=h.d1 }
theorem OE.neF (h:OE w0 w B g o c nodes root F e vs M L es) {r:Nat} (hF:F r):e.mt≠r∧e.en≠r∧e.gr≠r∧e.vi≠r:=by
  obtain⟨h1,h2,h3,h4⟩:=h.fr
  exact⟨fun e=>h1 (e▸hF),fun e=>h2 (e▸hF),fun e=>h3 (e▸hF),fun e=>h4 (e▸hF)⟩
theorem OE.set_mm (h:OE w0 w B g o c nodes root F e vs M L es) (M':List Bool) (hg:w.grownBy w' (some e.mm)) (hA:Arr w' e.mm 4 (Bs M')):OE w0 w' B g o c nodes root F e vs M' L es:=by
  obtain⟨n1,n2,n3,n4⟩:=h.neF h.fw.1
  exact { be := below_row h.be hg h.gd.2.1 (h.lo _ h.fw.1)
          gd:=h.gd.grown hg (h.lo _ h.fw.1)
          mt:=h.mt.grown hg (some_ne n1)
          en:=h.en.grown hg (some_ne n2)
          gr:=h.gr.grown hg (some_ne n3)
          vi:=h.vi.grown hg (some_ne n4)
          mm:=hA
          em:=h.em.grown hg (some_ne (kind_ne h.em h.mm (by decide)))
          ou:=h.ou.grown hg (some_ne (kind_ne h.ou h.mm (by decide)))
          ro:=row_grown h.ro hg (row_ne h.ro h.mm (by decide))
          lo:=h.lo
          hi:=fun b hF=>Nat.lt_of_lt_of_le (h.hi b hF) hg.size
          fr:=h.fr
          fw:=h.fw
          fo:=h.fo
          d1:=h.d1 }
theorem OE.set_em (h:OE w0 w B g o c nodes root F e vs M L es) (es':List Value) (hg:w.grownBy w' (some e.em)) (hA:Arr w' e.em 28 es'):OE w0 w' B g o c nodes root F e vs M L es':=by
  obtain⟨n1,n2,n3,n4⟩:=h.neF h.fw.2.1
  exact { be := below_row h.be hg h.gd.2.1 (h.lo _ h.fw.2.1)
          gd:=h.gd.grown hg (h.lo _ h.fw.2.1)
          mt:=h.mt.grown hg (some_ne n1)
          en:=h.en.grown hg (some_ne n2)
          gr:=h.gr.grown hg (some_ne n3)
          vi:=h.vi.grown hg (some_ne n4)
          mm:=h.mm.grown hg (some_ne (kind_ne h.mm h.em (by decide)))
          em:=hA
          ou:=h.ou.grown hg (some_ne h.d1)
          ro:=row_grown h.ro hg (row_ne h.ro h.em (by decide))
          lo:=h.lo
          hi:=fun b hF=>Nat.lt_of_lt_of_le (h.hi b hF) hg.size
          fr:=h.fr
          fw:=h.fw
          fo:=h.fo
          d1:=h.d1 }
theorem OE.push (h : OE w0 w B g o c nodes root F e vs M L es) (x : Int) (hb : Below w.heap.size w w1) (hg : w1.grownBy w3 vs.ownBlock) (hown : w3.ownsRow B 3 1 v' (L.length + 1) (I64 L ++ [.int .i64 x])) (hat : v'.ownBlock = vs.ownBlock ∨ v'.ownBlock = some w1.heap.size) :
    ∃F',OE w0 (w3.setCell ⟨e.ou,0,none⟩ v') B g o c nodes root F' e v' M (L ++ [x]) es∧PStep w (w3.setCell ⟨e.ou,0,none⟩ v') F F'∧(∀b,F b→F' b):=by
  have hq:∀b,vs.ownBlock=some b→F b:=h.fo
  have hBw:B≤w1.heap.size:=Nat.le_trans h.gd.2.1 hb.size
  have hst:=arr_row h.ou hb hg (row_ne h.ro h.ou (by decide))
  have far:∀{b:Nat} {t:TypeId} {xs:List Value},Arr w b t xs→vs.ownBlock≠some b→b≠e.ou→Arr (w3.setCell ⟨e.ou,0,none⟩ v') b t xs:=fun ha hn hne=>(arr_row ha hb hg hn).far hne v'
  have hown4:(w3.setCell ⟨e.ou,0,none⟩ v').ownsRow B 3 1 v' (L ++ [x]).length (I64 (L ++ [x])):=by
    rw [I64_append,List.length_append,List.length_singleton]
    exact own_far (p:=⟨e.ou,0,none⟩) hown (own_arr hown hst (by decide)) v'
  have hss:(w3.setCell ⟨e.ou,0,none⟩ v').heap.size=w3.heap.size:=by simp [World.setCell]
  have hsz:w.heap.size≤w3.heap.size:=Nat.le_trans hb.size hg.size
  have hvF:∀b,v'.ownBlock=some b→F b∨w.heap.size≤b:=fun b hb'=>by
    rcases hat with h1 | h1
    · exact .inl (hq b (h1▸hb'))
    · rw [h1] at hb'
      have:=Option.some.inj hb'
      have:=hb.size
      exact .inr (by omega)
  have hvold:∀b,b<w.heap.size→vs.ownBlock≠some b→v'.ownBlock≠some b:=fun b hl hn hb'=>by
    rcases hat with h1 | h1
    · exact hn (h1▸hb')
    · rw [h1] at hb'
      have:=Option.some.inj hb'
      have:=hb.size
      omega
  obtain⟨f1,f2,f3,f4⟩:=h.fr
  obtain⟨n1,n2,n3⟩:=h.fw
  have hb3:Below B w0 w3:=(h.be.trans (hb.mono h.gd.2.1)).trans (below_of_grown hg hBw (fun k e'=>h.lo k (hq k e')))
  refine⟨fun b=>F b∨v'.ownBlock=some b,?_,?_,fun b hF=>.inl hF⟩
  · exact { be := hb3.setCell (p := ⟨e.ou, 0, none⟩) (h.lo _ n3) v'
            gd:=by
              have h1:=h.gd.below hb h.gd.2.1
              have h2:GRd w3 B g o nodes:=⟨h1.1,Nat.le_trans h1.2.1 hg.size,fun i nd hi=>(h1.2.2 i nd hi).same h1.1 fun a ha u hu=>hg.cell hu (fun e'=>by have:=h.lo a.block (hq a.block e'.symm);omega)⟩
              exact h2.grown (grown_set w3 ⟨e.ou,0,none⟩ v') (h.lo _ n3)
            mt:=far h.mt (fun k=>f1 (hq _ k)) (fun k=>f1 (k▸n3))
            en:=far h.en (fun k=>f2 (hq _ k)) (fun k=>f2 (k▸n3))
            gr:=far h.gr (fun k=>f3 (hq _ k)) (fun k=>f3 (k▸n3))
            vi:=far h.vi (fun k=>f4 (hq _ k)) (fun k=>f4 (k▸n3))
            mm:=far h.mm (row_ne h.ro h.mm (by decide)) (kind_ne h.mm h.ou (by decide))
            em:=far h.em (row_ne h.ro h.em (by decide)) (Ne.symm h.d1)
            ou:=hst.store 0 v'
            ro:=hown4
            lo:=fun b hF=>hF.elim (h.lo b) (fun k=>(hown.lt b k).1)
            hi:=fun b hF=>by rw [hss];exact hF.elim (fun k=>Nat.lt_of_lt_of_le (h.hi b k) hsz) (fun k=>(hown.lt b k).2)
            fr:=⟨fun k=>k.elim f1 (hvold _ h.mt.lt (fun k=>f1 (hq _ k))),fun k=>k.elim f2 (hvold _ h.en.lt (fun k=>f2 (hq _ k))),fun k=>k.elim f3 (hvold _ h.gr.lt (fun k=>f3 (hq _ k))),fun k=>k.elim f4 (hvold _ h.vi.lt (fun k=>f4 (hq _ k)))⟩
            fw:=⟨.inl n1,.inl n2,.inl n3⟩
            fo:=fun b k=>.inr k
            d1:=h.d1 }
  · refine⟨hg.os.trans hb.os,hg.tape.trans hb.tape,hg.output.trans hb.output,by rw [hss];exact hsz,fun b hlt hF=>?_,fun b hF=>?_⟩
    · exact(setCell_heap_ne _ _ _ (by rintro rfl;exact hF n3)).trans ((hg.block b (Nat.lt_of_lt_of_le hlt hb.size) (fun e'=>hF (hq b e'.symm))).trans (hb.block b hlt))
    · exact hF.elim .inl (fun k=>hvF b k)
end
def cfB (m:List Bool):Nat:=m.count false
theorem cfB_set {m:List Bool} {k:Nat} (h:m.getD k false=false) (hk:k<m.length):cfB (m.set k true)+1=cfB m:=by
  unfold cfB
  induction m generalizing k with
  | nil=>simp at hk
  | cons a l ih=>
    cases k with
    | zero=>
      have:a=false:=by simpa using h
      subst this
      simp
    | succ k=>
      have:=ih (k:=k) (by simpa using h) (by simpa using hk)
      simp only [List.set_cons_succ,List.count_cons]
      omega
def InL (n:Nat) (xs:List Int):Prop:=∀x∈xs,InN n x
end Go.Proofs.YtnnnagnjikdnnaaGreatDoor
