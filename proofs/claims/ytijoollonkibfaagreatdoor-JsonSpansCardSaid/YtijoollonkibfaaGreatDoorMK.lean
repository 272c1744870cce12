/- A call of a Go function as a step of a region that draws its order. -/
import Derived.Test.YtijoollonkibfaaGreatDoorMG
import Derived.Test.YtijoollonkibfaaGreatDoorMJ
import Derived.StillTailTactics
set_option linter.unusedVariables false
set_option linter.unusedSimpArgs false
set_option linter.defProp false
set_option linter.constructorNameAsVariable false
namespace Go.Proofs.YtijoollonkibfaaGreatDoor
open Go.RowKit
section
variable {P:Program} {w:World} {ops:Array Oper} {o:Oper} {a:Act} {K:Act→World→Prop} {Q:Exit→Act→World→Prop} {E:Prop}
end
end Go.Proofs.YtijoollonkibfaaGreatDoor
namespace Go.Proofs.YtijoollonkibfaaGreatDoor
open Go.RowKit
structure LoopS (w:World) (B pb sb nb mb:Nat) (F0:Nat→Prop) (k:PK) (kd:Int) (cs:List Value) (L:Nat) (x:PLoop) (F:Nat→Prop) (A:Option Addr) (n c:Nat) (vn vs:Value) (ncs:List Value) (vk vi:Value) (wr:World):Prop where
  pm:PMx wr B pb F k A n c vn vs ncs x.st
  step:PStep w wr F0 F
  sp:Arr wr sb 34 cs
  spF:¬F sb
  nd:Arr wr nb 40 [.int .i64 kd,.string ⟨#[]⟩,.bool false,vk,vi]
  ndF:¬F nb
  mp:KeyMap wr mb x.ks.length x.ks
  mpF:¬F mb
  ok:wr.ownsRow w.heap.size 3 1 vk x.keys.length (I64 x.keys)
  oi:wr.ownsRow w.heap.size 3 1 vi x.items.length (I64 x.items)
  kF:∀g,vk.ownBlock=some g→¬F g
  iF:∀g,vi.ownBlock=some g→¬F g
  ki:∀g,vk.ownBlock=some g→vi.ownBlock≠some g
  tk:∀t∈x.st.left,TokOK t
  iv:PInv x.st
  li:LibAt B wr
  l1:x.items.length+x.st.left.length≤L
  l2:x.keys.length+x.st.left.length≤L
  l3:x.ks.length+x.st.left.length≤L
  bx:w.heap.size≤sb∧w.heap.size≤nb∧w.heap.size≤mb
  lob:B≤w.heap.size
def LoopX (w:World) (B pb sb nb mb:Nat) (F0:Nat→Prop) (k:PK) (kd:Int) (cs:List Value) (L:Nat) (x:PLoop) (wr:World):Prop:=∃F A n c vn vs ncs vk vi,LoopS w B pb sb nb mb F0 k kd cs L x F A n c vn vs ncs vk vi wr
section
variable {w:World} {B pb sb nb mb:Nat} {F0:Nat→Prop} {k:PK} {kd:Int} {cs:List Value} {L:Nat} {x:PLoop} {F:Nat→Prop} {A:Option Addr} {n c:Nat} {vn vs:Value} {ncs:List Value} {vk vi:Value} {wr:World}
theorem own_kept {w w':World} {F F':Nat→Prop} {b:Nat} {e:TypeId} {k:Nat} {v:Value} {n:Nat} {xs:List Value} (h:w.ownsRow b e k v n xs) (hs:PStep w w' F F') (hF:∀g,v.ownBlock=some g→¬F g):w'.ownsRow b e k v n xs:=
  own_same h (fun g hg=>hs.keep g (h.lt g hg).2 (hF g hg))
theorem LoopS.next (h : LoopS w B pb sb nb mb F0 k kd cs L x F A n c vn vs ncs vk vi wr) {w' : World} {F' : Nat → Prop} {A' : Option Addr} {n' c' : Nat} {vn' vs' : Value} {ncs' : List Value} {y : PLoop} (hs : PStep wr w' F F') (hp : PMx w' B pb F' k A' n' c' vn' vs' ncs' y.st)
    (h1:y.ks=x.ks) (h2:y.keys=x.keys) (h3:y.items=x.items) (h4:PInv y.st) (h5:∀t∈y.st.left,TokOK t) (h6:y.st.left.length≤x.st.left.length):LoopS w B pb sb nb mb F0 k kd cs L y F' A' n' c' vn' vs' ncs' vk vi w' where
  pm:=hp
  step:=h.step.trans hs
  sp:=hs.arr h.sp h.spF
  spF:=hs.out h.sp.lt h.spF
  nd:=hs.arr h.nd h.ndF
  ndF:=hs.out h.nd.lt h.ndF
  mp:=by rw [h1];exact h.mp.same (hs.keep mb h.mp.lt h.mpF)
  mpF:=hs.out h.mp.lt h.mpF
  ok:=by rw [h2];exact own_kept h.ok hs h.kF
  oi:=by rw [h3];exact own_kept h.oi hs h.iF
  kF:=fun g hg=>hs.out (h.ok.lt g hg).2 (h.kF g hg)
  iF:=fun g hg=>hs.out (h.oi.lt g hg).2 (h.iF g hg)
  ki:=h.ki
  tk:=h5
  iv:=h4
  li:=h.li.step (hs.below h.pm.lo h.li.size)
  l1:=by rw [h3];have:=h.l1;omega
  l2:=by rw [h2];have:=h.l2;omega
  l3:=by rw [h1];have:=h.l3;omega
  bx:=h.bx
  lob:=h.lob
theorem LoopS.below (h:LoopS w B pb sb nb mb F0 k kd cs L x F A n c vn vs ncs vk vi wr) {w':World} (hb:Below wr.heap.size wr w'):LoopS w B pb sb nb mb F0 k kd cs L x F A n c vn vs ncs vk vi w':=
  h.next (PStep.of_below hb) (h.pm.below hb) rfl rfl rfl h.iv h.tk (Nat.le_refl _)
theorem LoopS.tokNe (h:LoopS w B pb sb nb mb F0 k kd cs L x F A n c vn vs ncs vk vi wr) {g:Nat} {t:TypeId} {us:List Value} (ha:Arr wr g t us) (ht:t≠67):∀ad,A=some ad→ad.block≠g:=fun ad e e2=>by
  obtain⟨_,_,C,fz,hb⟩:=h.pm.tokA ad e
  rw [e2] at hb
  exact ht (cells_kind ha hb)
end
theorem map_kind {w:World} {b n:Nat} {ks:List (List Nat)} (h:KeyMap w b n ks) {g:Nat} {C:Array Value} {t:TypeId} {fz:Nat×Nat} (hg:w.heap[g]? = some (.cells C t fz)):g≠b:=by
  obtain⟨D,⟨es,clock,hb,_⟩,_⟩:=h
  rintro rfl
  rw [hb] at hg
  injection hg with hg
  cases hg
theorem I64_app (a:List Int) (v:Int):I64 a ++ [.int .i64 v]=I64 (a ++ [v]):=by simp [I64]
section
variable {w:World} {B pb sb nb mb:Nat} {F0:Nat→Prop} {k:PK} {kd:Int} {cs:List Value} {L:Nat} {x:PLoop} {F:Nat→Prop} {A:Option Addr} {n c:Nat} {vn vs:Value} {ncs:List Value} {vk vi:Value} {wr:World}
theorem LoopS.pushItem (h : LoopS w B pb sb nb mb F0 k kd cs L x F A n c vn vs ncs vk vi wr) {w6 : World} {ob : Obj} {v6 : Value} {v' : Int} (hgr : (wr.alloc ob).grownBy w6 vi.ownBlock) (hown : w6.ownsRow w.heap.size 3 1 v6 (x.items.length + 1) (I64 x.items ++ [.int .i64 v']))
    (hat:v6.ownBlock=vi.ownBlock∨v6.ownBlock=some (wr.alloc ob).heap.size) (hl:x.items.length+1+x.st.left.length≤L) :
    LoopS w B pb sb nb mb F0 k kd cs L { x with items:=x.items ++ [v'] } F A n c vn vs ncs vk v6 (w6.setCell ⟨nb,4,none⟩ v6):=by
  have hb1:Below wr.heap.size wr (wr.alloc ob):=(Below.refl _ _).alloc (Nat.le_refl _) _
  have hsa:(wr.alloc ob).heap.size=wr.heap.size+1:=by simp
  have hlt:wr.heap.size<w6.heap.size:=by have:=hgr.size;omega
  have hne:∀{g:Nat} {C:Array Value} {t:TypeId} {fz:Nat×Nat},wr.heap[g]? = some (.cells C t fz)→t≠3→w6.heap[g]? = wr.heap[g]?:=fun {g C t fz} hh ht=>by
    have hl:=(Array.getElem?_eq_some_iff.1 hh).1
    refine(hgr.block g (by omega) ?_).trans (hb1.block g hl)
    intro e
    obtain⟨C',fz',h'⟩:=own_kind h.oi e.symm
    exact ht (cells_kind hh h')
  have hnd6:=(hne h.nd (by decide)).trans h.nd
  have hsp6:=(hne h.sp (by decide)).trans h.sp
  have hnbsb:sb≠nb:=fun e=>by have h1:=h.sp;rw [e] at h1;exact absurd (cells_kind h1 h.nd) (by decide)
  have hvn:v6.ownBlock≠some nb:=own_arr hown hnd6 (by decide)
  have hmb6:w6.heap[mb]? = wr.heap[mb]?:=by
    refine(hgr.block mb (by have:=h.mp.lt;omega) ?_).trans (hb1.block mb h.mp.lt)
    intro e
    obtain⟨C',fz',h'⟩:=own_kind h.oi e.symm
    exact map_kind h.mp h' rfl
  have hnbmb:mb≠nb:=fun e=>map_kind h.mp h.nd e.symm
  have hF6:∀g,v6.ownBlock=some g→¬F g:=fun g hg hf=>by
    rcases hat with he | he
    · exact h.iF g (he▸hg) hf
    · rw [he] at hg
      have:=Option.some.inj hg
      have:=h.pm.hi g hf
      omega
  have hOk:w6.ownsRow w.heap.size 3 1 vk x.keys.length (I64 x.keys):=own_same h.ok (fun g hg=>by
    have hl:=(h.ok.lt g hg).2
    refine(hgr.block g (by omega) ?_).trans (hb1.block g hl)
    intro e
    exact h.ki g hg e.symm)
  have hOn:vk.ownBlock≠some nb:=own_arr h.ok h.nd (by decide)
  have hP6 : PMx w6 B pb F k A n c vn vs ncs x.st := h.pm.kept (by omega) (fun g hg hf => by
      refine(hgr.block g (by omega) ?_).trans (hb1.block g hg)
      intro e
      exact h.iF g e.symm hf) (fun ad e=>by
      obtain⟨_,_,C,fz,hb⟩:=h.pm.tokA ad e
      exact hne hb (by decide))
  have hA6:∀ad,A=some ad→ad.block≠nb:=h.tokNe h.nd (by decide)
  exact {
    pm:=hP6.far h.ndF hA6 _
    step:=((h.step.below' hb1).grown hgr (fun g hg=>(h.oi.lt g hg).1)).far (.inl h.bx.2.1) _
    sp:=Arr.far (show Arr w6 sb _ _ from hsp6) hnbsb _
    spF:=h.spF
    nd:=Arr.store (show Arr w6 nb _ _ from hnd6) 4 v6
    ndF:=h.ndF
    mp:=h.mp.same ((setCell_heap_ne _ _ _ hnbmb).trans hmb6)
    mpF:=h.mpF
    ok:=own_far hOk hOn _
    oi:=by
      have:=own_far (p:=⟨nb,4,none⟩) hown hvn v6
      rw [I64_app] at this
      simpa using this
    kF:=h.kF
    iF:=hF6
    ki:=fun g hg hv=>hat.elim (fun he=>h.ki g hg (he▸hv)) (fun he=>by rw [he] at hv;have:=Option.some.inj hv;have:=(h.ok.lt g hg).2;omega)
    tk:=h.tk
    iv:=h.iv
    li:=h.li.step ((((Below.mono hb1 (h.li.size)).grown hgr (by have:=h.li.size;simp;omega) (fun g hg=>Nat.le_trans h.lob (h.oi.lt g hg).1))).setCell (Nat.le_trans h.lob h.bx.2.1) _)
    l1:=by simp;omega
    l2:=h.l2
    l3:=h.l3
    bx:=h.bx
    lob:=h.lob }
theorem LoopS.pushKey (h : LoopS w B pb sb nb mb F0 k kd cs L x F A n c vn vs ncs vk vi wr) {w6 : World} {ob : Obj} {v6 : Value} {v' : Int} (hgr : (wr.alloc ob).grownBy w6 vk.ownBlock) (hown : w6.ownsRow w.heap.size 3 1 v6 (x.keys.length + 1) (I64 x.keys ++ [.int .i64 v']))
    (hat:v6.ownBlock=vk.ownBlock∨v6.ownBlock=some (wr.alloc ob).heap.size) (hl:x.keys.length+1+x.st.left.length≤L) :
    LoopS w B pb sb nb mb F0 k kd cs L { x with keys:=x.keys ++ [v'] } F A n c vn vs ncs v6 vi (w6.setCell ⟨nb,3,none⟩ v6):=by
  have hb1:Below wr.heap.size wr (wr.alloc ob):=(Below.refl _ _).alloc (Nat.le_refl _) _
  have hsa:(wr.alloc ob).heap.size=wr.heap.size+1:=by simp
  have hlt:wr.heap.size<w6.heap.size:=by have:=hgr.size;omega
  have hne:∀{g:Nat} {C:Array Value} {t:TypeId} {fz:Nat×Nat},wr.heap[g]? = some (.cells C t fz)→t≠3→w6.heap[g]? = wr.heap[g]?:=fun {g C t fz} hh ht=>by
    have hl:=(Array.getElem?_eq_some_iff.1 hh).1
    refine(hgr.block g (by omega) ?_).trans (hb1.block g hl)
    intro e
    obtain⟨C',fz',h'⟩:=own_kind h.ok e.symm
    exact ht (cells_kind hh h')
  have hnd6:=(hne h.nd (by decide)).trans h.nd
  have hsp6:=(hne h.sp (by decide)).trans h.sp
  have hnbsb:sb≠nb:=fun e=>by have h1:=h.sp;rw [e] at h1;exact absurd (cells_kind h1 h.nd) (by decide)
  have hvn:v6.ownBlock≠some nb:=own_arr hown hnd6 (by decide)
  have hmb6:w6.heap[mb]? = wr.heap[mb]?:=by
    refine(hgr.block mb (by have:=h.mp.lt;omega) ?_).trans (hb1.block mb h.mp.lt)
    intro e
    obtain⟨C',fz',h'⟩:=own_kind h.ok e.symm
    exact map_kind h.mp h' rfl
  have hnbmb:mb≠nb:=fun e=>map_kind h.mp h.nd e.symm
  have hF6:∀g,v6.ownBlock=some g→¬F g:=fun g hg hf=>by
    rcases hat with he | he
    · exact h.kF g (he▸hg) hf
    · rw [he] at hg
      have:=Option.some.inj hg
      have:=h.pm.hi g hf
      omega
  have hOk:w6.ownsRow w.heap.size 3 1 vi x.items.length (I64 x.items):=own_same h.oi (fun g hg=>by
    have hl:=(h.oi.lt g hg).2
    refine(hgr.block g (by omega) ?_).trans (hb1.block g hl)
    intro e
    exact h.ki g e.symm hg)
  have hOn:vi.ownBlock≠some nb:=own_arr h.oi h.nd (by decide)
  have hP6 : PMx w6 B pb F k A n c vn vs ncs x.st := h.pm.kept (by omega) (fun g hg hf => by
      refine(hgr.block g (by omega) ?_).trans (hb1.block g hg)
      intro e
      exact h.kF g e.symm hf) (fun ad e=>by
      obtain⟨_,_,C,fz,hb⟩:=h.pm.tokA ad e
      exact hne hb (by decide))
  have hA6:∀ad,A=some ad→ad.block≠nb:=h.tokNe h.nd (by decide)
  exact {
    pm:=hP6.far h.ndF hA6 _
    step:=((h.step.below' hb1).grown hgr (fun g hg=>(h.ok.lt g hg).1)).far (.inl h.bx.2.1) _
    sp:=Arr.far (show Arr w6 sb _ _ from hsp6) hnbsb _
    spF:=h.spF
    nd:=Arr.store (show Arr w6 nb _ _ from hnd6) 3 v6
    ndF:=h.ndF
    mp:=h.mp.same ((setCell_heap_ne _ _ _ hnbmb).trans hmb6)
    mpF:=h.mpF
    oi:=own_far hOk hOn _
    ok:=by
      have:=own_far (p:=⟨nb,3,none⟩) hown hvn v6
      rw [I64_app] at this
      simpa using this
    iF:=h.iF
    kF:=hF6
    ki:=fun g hg hv=>hat.elim (fun he=>h.ki g (he▸hg) hv) (fun he=>by rw [he] at hg;have:=Option.some.inj hg;have:=(h.oi.lt g hv).2;omega)
    tk:=h.tk
    iv:=h.iv
    li:=h.li.step ((((Below.mono hb1 (h.li.size)).grown hgr (by have:=h.li.size;simp;omega) (fun g hg=>Nat.le_trans h.lob (h.ok.lt g hg).1))).setCell (Nat.le_trans h.lob h.bx.2.1) _)
    l1:=h.l1
    l2:=by simp;omega
    l3:=h.l3
    bx:=h.bx
    lob:=h.lob }
end
theorem ValR.out {w:World} {B pb:Nat} {F:Nat→Prop} {k:PK} {o:Except PErr (Int×PSt)} {w':World}:¬ValR w B pb F k o .outgrown w':=by
  intro h
  unfold ValR at h
  cases o with
  | error e=>obtain⟨h1,_⟩:=h;unfold failE at h1;cases h1
  | ok p=>obtain⟨v',st'⟩:=p;obtain⟨F',h1,_⟩:=h;cases h1
theorem items_list {en f kx d : Nat} {x : PLoop} {o : Except PErr PLoop} (h : itemsV en (f + 1) false kx d x = o) :
    (isV x.st.left [93]=true∧o=.ok x) ∨
    (isV x.st.left [93]=false∧x.items.length≠0∧isV x.st.left [44]=false∧o=.error (offV en x.st.left,4)) ∨
    (isV x.st.left [93]=false∧∃y,(x.items.length=0∧y=x∨x.items.length≠0∧isV x.st.left [44]=true∧y=⟨⟨x.st.left.drop 1,x.st.nodes,x.st.spans⟩,x.ks,x.keys,x.items⟩) ∧
      ((∃er,valueV en f y.st ⟨0,kx,x.items.length,0,0,0,0,false,false⟩ (d+1)=.error er∧o=.error er) ∨
       (∃v st,valueV en f y.st ⟨0,kx,x.items.length,0,0,0,0,false,false⟩ (d+1)=.ok (v,st)∧itemsV en f false kx d ⟨st,y.ks,y.keys,y.items ++ [v]⟩=o))):=by
  rw [itemsV] at h
  by_cases hc:isV x.st.left [93]=true
  · exact .inl ⟨hc,by rw [←h];simp [hc]⟩
  · have hc':isV x.st.left [93]=false:=by simpa using hc
    right
    simp only [Bool.false_eq_true,if_false,hc'] at h
    have fin : ∀ y : PLoop, (match valueV en f y.st ⟨0, kx, x.items.length, 0, 0, 0, 0, false, false⟩ (d + 1) with | .error e => .error e | .ok (v, st) => itemsV en f false kx d ⟨st, y.ks, y.keys, y.items ++ [v]⟩) = o →
        ((∃er,valueV en f y.st ⟨0,kx,x.items.length,0,0,0,0,false,false⟩ (d+1)=.error er∧o=.error er) ∨
         (∃v st,valueV en f y.st ⟨0,kx,x.items.length,0,0,0,0,false,false⟩ (d+1)=.ok (v,st)∧itemsV en f false kx d ⟨st,y.ks,y.keys,y.items ++ [v]⟩=o)):=by
      intro y hy
      cases hv:valueV en f y.st ⟨0,kx,x.items.length,0,0,0,0,false,false⟩ (d+1) with
      | error er=>rw [hv] at hy;exact .inl ⟨er,rfl,hy.symm⟩
      | ok p=>obtain⟨v,st⟩:=p;rw [hv] at hy;exact .inr ⟨v,st,rfl,hy⟩
    unfold commaV at h
    by_cases h0:x.items.length=0
    · rw [if_pos h0] at h
      exact .inr ⟨hc',x,.inl ⟨h0,rfl⟩,fin x h⟩
    · rw [if_neg h0] at h
      cases h1:isV x.st.left [44] with
      | false=>rw [h1,if_neg (by simp)] at h;exact .inl ⟨hc',h0,rfl,h.symm⟩
      | true=>rw [h1,if_pos rfl] at h;exact .inr ⟨hc',_,.inr ⟨h0,rfl,rfl⟩,fin _ h⟩
theorem items_list2 {en f kx d : Nat} {x : PLoop} {o : Except PErr PLoop} (h : itemsV en (f + 1) false kx d x = o) :
    (isV x.st.left [93]=true∧o=.ok x) ∨
    (isV x.st.left [93]=false∧x.items.length≠0∧isV x.st.left [44]=false∧o=.error (offV en x.st.left,4)) ∨
    (isV x.st.left [93]=false∧∃y,(x.items.length=0∧y=x∨x.items.length≠0∧isV x.st.left [44]=true∧y=⟨⟨x.st.left.drop 1,x.st.nodes,x.st.spans⟩,x.ks,x.keys,x.items⟩) ∧
      (∀er,valueV en f y.st ⟨0,kx,x.items.length,0,0,0,0,false,false⟩ (d+1)=.error er→o=.error er) ∧
      (∀v st,valueV en f y.st ⟨0,kx,x.items.length,0,0,0,0,false,false⟩ (d+1)=.ok (v,st)→itemsV en f false kx d ⟨st,y.ks,y.keys,y.items ++ [v]⟩=o)):=by
  rcases items_list h with h1 | h1 | ⟨h1,y,h2,h3⟩
  · exact .inl h1
  · exact .inr (.inl h1)
  · refine .inr (.inr ⟨h1,y,h2,fun er he=>?_,fun v st he=>?_⟩)
    · rcases h3 with⟨er',h4,h5⟩ | ⟨v,st,h4,h5⟩
      · rw [he] at h4;injection h4 with h4;rw [h5,h4]
      · rw [he] at h4;cases h4
    · rcases h3 with⟨er',h4,h5⟩ | ⟨v',st',h4,h5⟩
      · rw [he] at h4;cases h4
      · rw [he] at h4;injection h4 with h4;injection h4 with h6 h7;rw [h6,h7];exact h5
def contRes (n:Nat) (kd:Int) (ks:Nat) (o:Except PErr PLoop):Except PErr (Int×PSt):=match o with
  | .error e=>.error e
  | .ok x=>.ok ((n:Int),⟨x.st.left.drop 1,x.st.nodes.set n ⟨kd,[],false,x.keys,x.items⟩,x.st.spans.modify ks (fun p=>{ p with to_:=(x.st.left.head?.map (·.to_)).getD 0 })⟩)
def leftN (pb:Nat) (w:World):Nat:=match w.cell? ⟨pb,0,none⟩ with | some (.slice _ n _)=>n | _=>0
theorem leftN_of {w:World} {B pb:Nat} {F:Nat→Prop} {k:PK} {A:Option Addr} {n c:Nat} {vn vs:Value} {ncs:List Value} {st:PSt} (h:PMx w B pb F k A n c vn vs ncs st):leftN pb w=st.left.length:=by
  unfold leftN
  rw [h.par.cell' (i:=0) rfl]
  exact h.len
def ValOK (B pb:Nat) (k:PK) (L f:Nat):Prop:=∀(w:World) (F:Nat→Prop) (st:PSt) (s:JSpan) (d:Nat),PM w B pb F k st→(∀t∈st.left,TokOK t)→PInv st→LibAt B w→d≤33→2*st.left.length<f→st.left.length≤L →
  Calls Tryz.prog 10 #[.pointer (some ⟨pb,0,none⟩),.agg (spanC s).toArray,.int .i64 (d:Int)] w (ValR w B pb F k (valueV k.en f st s d))
end Go.Proofs.YtijoollonkibfaaGreatDoor
namespace Go.Proofs.YtijoollonkibfaaGreatDoor
open Go.RowKit
theorem own_slice0 {w:World} {b:Nat} {e:TypeId} {k:Nat} {v:Value} {n:Nat} {xs:List Value} (h:w.ownsRow b e k v n xs) (hn:0<n):∃g c,v=.slice (some ⟨g,0,none⟩) n c∧n≤c∧c≤maxLen:=by
 rcases h.2 with⟨_,h0⟩ | ⟨g,cap,cur,rfl,_,_,h1,h2,_⟩
 ·omega
 ·exact⟨g,cap,rfl,h1,h2⟩
theorem IntsRd.of_own {w:World} {b:Nat} {A:Option Addr} {n c:Nat} {xs:List Int} (h:w.ownsRow b 3 1 (.slice A n c) n (I64 xs)) {F:Nat→Prop} (hF:∀g,(Value.slice A n c).ownBlock=some g→F g):IntsRd w F A n xs:=by
 have hl:n=xs.length:=by have:=h.1;simpa [I64] using this.symm
 refine⟨hl,fun j u hj=>?_,fun ad e=>?_⟩
 ·rcases h.2 with⟨_,h0⟩ | ⟨g,cap,cur,hv,_⟩
  ·have:xs = []:=List.eq_nil_of_length_eq_zero (by omega)
   subst this
   simp [I64] at hj
  ·injection hv with hv1 _ _
   subst hv1
   exact⟨_,rfl,h.cells (g:=g) rfl j u hj⟩
 ·subst e
  have hg:(Value.slice (some ad) n c).ownBlock=some ad.block:=rfl
  obtain⟨C,fz,hb⟩:=own_kind h hg
  exact⟨hF _ hg,C,fz,hb⟩
section
variable {w:World} {B pb sb nb mb:Nat} {F0:Nat→Prop} {k:PK} {kd:Int} {cs:List Value} {L:Nat} {x:PLoop} {F:Nat→Prop} {A:Option Addr} {n c:Nat} {vn vs:Value} {ncs:List Value} {vk vi:Value} {wr:World}
theorem LoopS.taken (h:LoopS w B pb sb nb mb F0 k kd cs L x F A n c vn vs ncs vk vi wr) {t:JTok} {r:List JTok} (hl:x.st.left=t :: r) {w1:World} {A':Option Addr} {n' c':Nat}
  (hp:PMx w1 B pb F k A' n' c' vn vs ncs { x.st with left:=r }) (hs:PStep wr w1 F F):LoopS w B pb sb nb mb F0 k kd cs L ⟨⟨r,x.st.nodes,x.st.spans⟩,x.ks,x.keys,x.items⟩ F A' n' c' vn vs ncs vk vi w1:=
 h.next hs hp rfl rfl rfl h.iv (fun t' ht=>h.tk t' (by rw [hl];exact List.mem_cons_of_mem _ ht)) (by rw [hl];simp)
theorem LoopS.spanTo (h:LoopS w B pb sb nb mb F0 k kd cs L x F A n c vn vs ncs vk vi wr) {g m cap i:Nat} (hv:vs=.slice (some ⟨g,0,none⟩) m cap) (hi:i<x.st.spans.length) (v:Int) :
  LoopS w B pb sb nb mb F0 k kd cs L ⟨⟨x.st.left,x.st.nodes,x.st.spans.modify i (fun p=>{ p with to_:=v })⟩,x.ks,x.keys,x.items⟩ F A n c vn vs ncs vk vi (wr.setCell ⟨g,i*9+4,none⟩ (.int .i64 v)):=
 h.next ((PStep.refl wr F).far (.inr (h.pm.spnF g (by rw [hv];rfl))) _) (h.pm.spanTo hv hi v) rfl rfl rfl ⟨h.iv.1,by rw [List.length_modify];exact h.iv.2⟩ h.tk (Nat.le_refl _)
theorem LoopS.closed (h:LoopS w B pb sb nb mb F0 k kd cs L x F A n c vn vs ncs vk vi wr) {g m cap i:Nat} (hv:vn=.slice (some ⟨g,0,none⟩) m cap) (hi:i<x.st.nodes.length) {A1 A2:Option Addr} {n1 n2 c1 c2:Nat} (hvk:vk=.slice A1 n1 c1) (hvi:vi=.slice A2 n2 c2) :
  ∃F',PM (wr.setCells g (i*5) [.int .i64 kd,.string ⟨#[]⟩,.bool false,.slice A1 n1 c1,.slice A2 n2 c2]) B pb F' k ⟨x.st.left,x.st.nodes.set i ⟨kd,[],false,x.keys,x.items⟩,x.st.spans⟩ ∧
   PStep w (wr.setCells g (i*5) [.int .i64 kd,.string ⟨#[]⟩,.bool false,.slice A1 n1 c1,.slice A2 n2 c2]) F0 F'∧Arr (wr.setCells g (i*5) [.int .i64 kd,.string ⟨#[]⟩,.bool false,.slice A1 n1 c1,.slice A2 n2 c2]) sb 34 cs:=by
 have hnk:n1=x.keys.length:=by have:=own_slice h.ok;rw [hvk] at this;obtain⟨_,_,e,_⟩:=this;injection e
 have hni:n2=x.items.length:=by have:=own_slice h.oi;rw [hvi] at this;obtain⟨_,_,e,_⟩:=this;injection e
 have hok:=h.ok
 have hoi:=h.oi
 have hkl:=fun g hg=>hok.lt g hg
 have hil:=fun g hg=>hoi.lt g hg
 rw [hvk,←hnk] at hok
 rw [hvi,←hni] at hoi
 have hgF:F g:=h.pm.nodF g (by rw [hv];rfl)
 have hsz:(wr.setCells g (i*5) [.int .i64 kd,.string ⟨#[]⟩,.bool false,.slice A1 n1 c1,.slice A2 n2 c2]).heap.size=wr.heap.size:=size_setCells _ _ _ _
 have hsame:=same_setCells g [.int .i64 kd,.string ⟨#[]⟩,.bool false,.slice A1 n1 c1,.slice A2 n2 c2] (i*5) wr
 have hww:=h.step.size
 refine⟨fun q=>F q∨vk.ownBlock=some q∨vi.ownBlock=some q,⟨A,n,c,vn,vs,_,h.pm.nodeSet hv hi (fun _ hf=>.inl hf) ?_ ?_ ?_ ?_⟩,?_,?_⟩
 ·rintro q (hf | hf | hf)
  ·exact h.pm.lo q hf
  ·exact Nat.le_trans h.lob (hkl q hf).1
  ·exact Nat.le_trans h.lob (hil q hf).1
 ·rintro q (hf | hf | hf)
  ·exact h.pm.hi q hf
  ·exact(hkl q hf).2
  ·exact(hil q hf).2
 ·rintro ad e (hf | hf | hf)
  ·exact(h.pm.tokA ad e).2.1 hf
  ·obtain⟨_,_,C,fz,hb⟩:=h.pm.tokA ad e
   obtain⟨C',fz',hb'⟩:=own_kind h.ok hf
   exact absurd (cells_kind hb hb') (by decide)
  ·obtain⟨_,_,C,fz,hb⟩:=h.pm.tokA ad e
   obtain⟨C',fz',hb'⟩:=own_kind h.oi hf
   exact absurd (cells_kind hb hb') (by decide)
 ·exact⟨A1,n1,c1,A2,n2,c2,rfl,IntsRd.of_own hok (fun q hq=>.inr (.inl (by rw [hvk];exact hq))),IntsRd.of_own hoi (fun q hq=>.inr (.inr (by rw [hvi];exact hq)))⟩
 ·refine⟨hsame.1.trans h.step.os,hsame.2.1.trans h.step.tape,hsame.2.2.trans h.step.output,by rw [hsz];exact hww,fun q hq hF=>?_,?_⟩
  ·rw [heap_setCells g _ _ wr (i:=q) (by
    rintro rfl
    rcases h.step.new q hgF with h1 | h1
    ·exact hF h1
    ·omega)]
   exact h.step.keep q hq hF
  ·rintro q (hf | hf | hf)
   ·exact h.step.new q hf
   ·exact .inr (hkl q hf).1
   ·exact .inr (hil q hf).1
 ·exact(heap_setCells g _ _ wr (by rintro rfl;exact h.spF hgF)).trans h.sp
end
theorem drop1 {t:JTok} {r l:List JTok} (h:l=t :: r):l.drop 1=r:=by rw [h];rfl
theorem contRes_ok {n:Nat} {kd:Int} {ks:Nat} {x:PLoop} {t:JTok} {r:List JTok} (hl:x.st.left=t :: r) :
  contRes n kd ks (.ok x)=.ok ((n:Int),⟨r,x.st.nodes.set n ⟨kd,[],false,x.keys,x.items⟩,x.st.spans.modify ks (fun p=>{ p with to_:=(t.to_:Int) })⟩):=by
 unfold contRes
 simp [hl]
theorem ValR.elim {w:World} {B pb:Nat} {F:Nat→Prop} {k:PK} {o:Except PErr (Int×PSt)} {e:Ending} {w':World} {M:Ending→World→Prop} (h:ValR w B pb F k o e w')
  (h1:∀v' st' F',o=.ok (v',st')→PM w' B pb F' k st'→PStep w w' F F'→M (.returned (.int .i64 v')) w') (h2:∀er,o=.error er→Below B w w'→M (failE er) w'):M e w':=by
 unfold ValR at h
 cases o with
 | error x=>obtain⟨rfl,hb⟩:=h;exact h2 x rfl hb
 | ok p=>obtain⟨v',st'⟩:=p;obtain⟨F',rfl,h3,h4⟩:=h;exact h1 v' st' F' rfl h3 h4
theorem valpan2 {w w1 w2:World} {B pb:Nat} {F:Nat→Prop} {k:PK} {n ks:Nat} {kd:Int} {o:Except PErr (Int×PSt)} {oc:Except PErr PLoop} {res:Except PErr (Int×PSt)} {er:PErr} {ch:List PanicEntry} (ho:o=.error er)
  (hr:contRes n kd ks oc=res) (he:∀er,o=.error er→oc=.error er) (hb:Below B w w1) (hb2:Below B w1 w2) (hch:failE er=.panicked ch) {a:Act} (ha:a.defers = []):bodyPost Tryz.prog Tryz.f10 (ValR w B pb F k res) (.panic ch) a w2:=by
 have:=he er ho
 subst this
 subst hr
 exact And.intro ha ⟨hch.symm,hb.trans hb2⟩
theorem valCalls {P:Program} {f:FuncId} {args:Array Value} {w:World} {B pb:Nat} {F:Nat→Prop} {k:PK} {o:Except PErr (Int×PSt)} {R:Ending→World→Prop} (D:Calls P f args w (ValR w B pb F k o))
  (h1:∀w' v' st' F',o=.ok (v',st')→PM w' B pb F' k st'→PStep w w' F F'→R (.returned (.int .i64 v')) w') (h2:∀w' er,o=.error er→Below B w w'→R (failE er) w'):Calls P f args w R:=
 D.mono fun _ _ h=>ValR.elim h (h1 _) (h2 _)
end Go.Proofs.YtijoollonkibfaaGreatDoor
namespace Go.Proofs.YtijoollonkibfaaGreatDoor
open Go.RowKit
structure Box (p:Prop):Prop where
  out:p
def Arg1 {G P:Prop} (_:Box G→P):Prop:=G
def Arg2 {G P:Prop} {G1:Prop} (_:Box G1→Box G→P):Prop:=G
def Arg3 {G P:Prop} {G1 G2:Prop} (_:Box G1→Box G2→Box G→P):Prop:=G
def Arg4 {G P:Prop} {G1 G2 G3:Prop} (_:Box G1→Box G2→Box G3→Box G→P):Prop:=G
def Arg5 {G P:Prop} {G1 G2 G3 G4:Prop} (_:Box G1→Box G2→Box G3→Box G4→Box G→P):Prop:=G
theorem items_map2 {en f kx d : Nat} {x : PLoop} {o : Except PErr PLoop} (h : itemsV en (f + 1) true kx d x = o) :
    (isV x.st.left [125]=true∧o=.ok x) ∨
    (isV x.st.left [125]=false∧x.items.length≠0∧isV x.st.left [44]=false∧o=.error (offV en x.st.left,4)) ∨
    (isV x.st.left [125]=false∧∃y,(x.items.length=0∧y=x∨x.items.length≠0∧isV x.st.left [44]=true∧y=⟨⟨x.st.left.drop 1,x.st.nodes,x.st.spans⟩,x.ks,x.keys,x.items⟩) ∧
      (∀er,keyV en d y ⟨0,kx,x.items.length,0,0,0,0,false,false⟩=.error er→o=.error er) ∧
      (∀z s,keyV en d y ⟨0,kx,x.items.length,0,0,0,0,false,false⟩=.ok (z,s) →
        (∀er,valueV en f z.st s (d+1)=.error er→o=.error er) ∧
        (∀v st,valueV en f z.st s (d+1)=.ok (v,st)→itemsV en f true kx d ⟨st,z.ks,z.keys,z.items ++ [v]⟩=o))):=by
  rw [itemsV] at h
  by_cases hc:isV x.st.left [125]=true
  · exact .inl ⟨hc,by rw [←h];simp [hc]⟩
  · have hc':isV x.st.left [125]=false:=by simpa using hc
    right
    simp only [if_true,hc',Bool.false_eq_true,if_false] at h
    have fin : ∀ y : PLoop, (match keyV en d y ⟨0, kx, x.items.length, 0, 0, 0, 0, false, false⟩ with
        | .error e=>.error e
        | .ok (z,s)=>match valueV en f z.st s (d+1) with | .error e=>.error e | .ok (v,st)=>itemsV en f true kx d ⟨st,z.ks,z.keys,z.items ++ [v]⟩)=o →
        (∀er,keyV en d y ⟨0,kx,x.items.length,0,0,0,0,false,false⟩=.error er→o=.error er) ∧
        (∀z s,keyV en d y ⟨0,kx,x.items.length,0,0,0,0,false,false⟩=.ok (z,s) →
          (∀er,valueV en f z.st s (d+1)=.error er→o=.error er) ∧
          (∀v st,valueV en f z.st s (d+1)=.ok (v,st)→itemsV en f true kx d ⟨st,z.ks,z.keys,z.items ++ [v]⟩=o)):=by
      intro y hy
      refine⟨fun er he=>?_,fun z s hz=>⟨fun er he=>?_,fun v st he=>?_⟩⟩
      · rw [he] at hy;exact hy.symm
      · rw [hz] at hy;simp only [he] at hy;exact hy.symm
      · rw [hz] at hy;simp only [he] at hy;exact hy
    unfold commaV at h
    by_cases h0:x.items.length=0
    · rw [if_pos h0] at h
      exact .inr ⟨hc',x,.inl ⟨h0,rfl⟩,fin x h⟩
    · rw [if_neg h0] at h
      cases h1:isV x.st.left [44] with
      | false=>rw [h1,if_neg (by simp)] at h;exact .inl ⟨hc',h0,rfl,h.symm⟩
      | true=>rw [h1,if_pos rfl] at h;exact .inr ⟨hc',_,.inr ⟨h0,rfl,rfl⟩,fin _ h⟩
theorem key_cases {en d : Nat} {y : PLoop} {s : JSpan} {o : Except PErr (PLoop × JSpan)} (h : keyV en d y s = o) :
    (y.st.left = []∧o=.error (en,4))∨∃t r,y.st.left=t :: r ∧
      ((t.kind≠2∧o=.error (t.from_,4)) ∨
       (t.kind=2∧roomV y.st (d+1)≠0∧o=.error (t.from_,roomV y.st (d+1))) ∨
       (t.kind=2∧roomV y.st (d+1)=0∧t.text∈y.ks∧o=.error (t.from_,8)) ∨
       (t.kind=2∧roomV y.st (d+1)=0∧t.text∉y.ks ∧
         ((isV r [58]=false∧o=.error (offV en r,4)) ∨
          (isV r [58]=true∧o=.ok (⟨⟨r.drop 1,y.st.nodes ++ [⟨5,t.text,false,[],[]⟩],y.st.spans⟩,y.ks ++ [t.text],y.keys ++ [(y.st.nodes.length:Int)],y.items⟩,{ s with kf:=t.from_,kt:=t.to_ }))))):=by
  unfold keyV at h
  unfold roomV
  cases hl:y.st.left with
  | nil=>rw [hl] at h;exact .inl ⟨rfl,h.symm⟩
  | cons t r=>
    rw [hl] at h
    simp only at h
    refine .inr ⟨t,r,rfl,?_⟩
    by_cases h1:t.kind=2
    · rw [if_neg (by simpa using h1)] at h
      by_cases h2:32<d+1
      · rw [if_pos h2] at h
        rw [if_pos h2]
        exact .inr (.inl ⟨h1,by simp,h.symm⟩)
      · rw [if_neg h2] at h
        rw [if_neg h2]
        by_cases h3:4096≤y.st.nodes.length
        · rw [if_pos h3] at h
          rw [if_pos h3]
          exact .inr (.inl ⟨h1,by simp,h.symm⟩)
        · rw [if_neg h3] at h
          rw [if_neg h3]
          by_cases h4:t.text∈y.ks
          · rw [if_pos h4] at h
            exact .inr (.inr (.inl ⟨h1,rfl,h4,h.symm⟩))
          · rw [if_neg h4] at h
            cases h5:isV r [58] with
            | false=>rw [h5,if_neg (by simp)] at h;exact .inr (.inr (.inr ⟨h1,rfl,h4,.inl ⟨rfl,h.symm⟩⟩))
            | true=>rw [h5,if_pos rfl] at h;exact .inr (.inr (.inr ⟨h1,rfl,h4,.inr ⟨rfl,h.symm⟩⟩))
    · rw [if_pos (by simpa using h1)] at h
      exact .inl ⟨h1,h.symm⟩
theorem room0 {st:PSt} {d:Nat} (h:roomV st d=0):d≤32∧st.nodes.length<4096:=by
  unfold roomV at h
  split at h
  · cases h
  · split at h
    · cases h
    · omega
def LoopY (w:World) (B pb sb nb mb:Nat) (F0:Nat→Prop) (k:PK) (kd:Int) (cs:List Value) (L:Nat) (x:PLoop) (cb:Nat) (s:JSpan) (wr:World):Prop:=
  ∃F A n c vn vs ncs vk vi,LoopS w B pb sb nb mb F0 k kd cs L x F A n c vn vs ncs vk vi wr∧¬F cb∧Arr wr cb 34 (spanC s)
section
variable {w:World} {B pb sb nb mb:Nat} {F0:Nat→Prop} {k:PK} {kd:Int} {cs:List Value} {L:Nat} {x:PLoop} {F:Nat→Prop} {A:Option Addr} {n c:Nat} {vn vs:Value} {ncs:List Value} {vk vi:Value} {wr:World}
theorem LoopS.putKey (h : LoopS w B pb sb nb mb F0 k kd cs L x F A n c vn vs ncs vk vi wr) {w' : World} {key : List Nat} (hk : KeyMap w' mb (x.ks.length + 1) (x.ks ++ [key])) (hg : wr.grownBy w' (some mb)) (hl : x.ks.length + 1 + x.st.left.length ≤ L) :
    LoopS w B pb sb nb mb F0 k kd cs L { x with ks:=x.ks ++ [key] } F A n c vn vs ncs vk vi w':=by
  have hbk:∀{g:Nat},g<wr.heap.size→g≠mb→w'.heap[g]? = wr.heap[g]?:=fun {g} hlt hne=>hg.block g hlt (by intro e;exact hne (Option.some.inj e))
  have hne:∀{g:Nat} {C:Array Value} {t:TypeId} {fz:Nat×Nat},wr.heap[g]? = some (.cells C t fz)→w'.heap[g]? = wr.heap[g]?:=fun {g C t fz} hh=>hbk (Array.getElem?_eq_some_iff.1 hh).1 (map_kind h.mp hh)
  have hb:Below B wr w':=⟨hg.os,hg.tape,hg.output,hg.size,fun g hlt=>hbk (Nat.lt_of_lt_of_le hlt h.li.size) (by have:=h.bx.2.2;have:=h.lob;omega)⟩
  exact {
    pm:=h.pm.kept hg.size (fun g hlt hF=>hbk hlt (fun e=>h.mpF (e▸hF))) (fun ad e=>by
      obtain⟨_,_,C,fz,hbl⟩:=h.pm.tokA ad e
      exact hne hbl)
    step:=h.step.grown hg (fun g e=>by have:=Option.some.inj e;have:=h.bx.2.2;omega)
    sp:=(hne h.sp).trans h.sp
    spF:=h.spF
    nd:=(hne h.nd).trans h.nd
    ndF:=h.ndF
    mp:=by simpa using hk
    mpF:=h.mpF
    ok:=own_same h.ok (fun g e=>by obtain⟨C,fz,hh⟩:=own_kind h.ok e;exact hne hh)
    oi:=own_same h.oi (fun g e=>by obtain⟨C,fz,hh⟩:=own_kind h.oi e;exact hne hh)
    kF:=h.kF
    iF:=h.iF
    ki:=h.ki
    tk:=h.tk
    iv:=h.iv
    li:=h.li.step hb
    l1:=h.l1
    l2:=h.l2
    l3:=by simpa using hl
    bx:=h.bx
    lob:=h.lob }
theorem LoopS.box (h : LoopS w B pb sb nb mb F0 k kd cs L x F A n c vn vs ncs vk vi wr) {cb : Nat} {us : List Value} (hc : Arr wr cb 34 us) (hF : ¬ F cb) (hb : w.heap.size ≤ cb) (hs : sb ≠ cb) (i : Nat) (u : Value) :
    LoopS w B pb sb nb mb F0 k kd cs L x F A n c vn vs ncs vk vi (wr.setCell ⟨cb,i,none⟩ u) where
  pm:=h.pm.far hF (h.tokNe hc (by decide)) _
  step:=h.step.far (.inl hb) _
  sp:=h.sp.far hs _
  spF:=h.spF
  nd:=h.nd.far (by intro e;have h1:=h.nd;rw [show nb=cb from e] at h1;exact absurd (cells_kind h1 hc) (by decide)) _
  ndF:=h.ndF
  mp:=h.mp.same (setCell_heap_ne _ _ _ (fun e=>map_kind h.mp hc e.symm))
  mpF:=h.mpF
  ok:=own_far h.ok (own_arr h.ok hc (by decide)) _
  oi:=own_far h.oi (own_arr h.oi hc (by decide)) _
  kF:=h.kF
  iF:=h.iF
  ki:=h.ki
  tk:=h.tk
  iv:=h.iv
  li:=h.li.step ((Below.refl _ _).setCell (Nat.le_trans h.lob hb) _)
  l1:=h.l1
  l2:=h.l2
  l3:=h.l3
  bx:=h.bx
  lob:=h.lob
end
end Go.Proofs.YtijoollonkibfaaGreatDoor
