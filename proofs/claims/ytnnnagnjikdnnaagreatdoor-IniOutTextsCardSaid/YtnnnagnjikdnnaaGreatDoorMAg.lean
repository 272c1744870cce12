/- graph's components where there are no cycles: each is one node, numbered behind all that it refers to. No program is mentioned here. -/
import Derived.Test.YtnnnagnjikdnnaaGreatDoorMAf
import Derived.Test.YtnnnagnjikdnnaaGreatDoorProg
import Derived.Laws.EntriesVeiled
set_option linter.unusedVariables false
set_option linter.unusedSimpArgs false
set_option linter.defProp false
set_option linter.constructorNameAsVariable false
namespace Go.Proofs.YtnnnagnjikdnnaaGreatDoor
theorem gI_sI {l:List Int} {x y v:Int} (hx:0≤x) (hy:0≤y) (hl:x<(l.length:Int)):gI (sI l x v) y=if x=y then v else gI l y:=by
  unfold gI sI
  rw [getD_set (by omega)]
  by_cases e:x=y
  · subst e;simp
  · rw [if_neg (by omega),if_neg e]
theorem gI_sI_same {l:List Int} {x v:Int} (h:gI l x=v) (hl:x.toNat<l.length):sI l x v=l:=by
  unfold gI at h
  unfold sI
  apply List.ext_getElem?
  intro i
  rw [List.getElem?_set]
  by_cases e:x.toNat=i
  · subst e
    rw [if_pos rfl,if_pos hl,←h,List.getD_eq_getElem?_getD,List.getElem?_eq_getElem hl];rfl
  · rw [if_neg e]
theorem len_sI (l:List Int) (x v:Int):(sI l x v).length=l.length:=by simp [sI]
theorem getD_set' {α:Type} {m:List α} {x y:Int} {b d:α} (hx:0≤x) (hy:0≤y) (hi:x<(m.length:Int)):(m.set x.toNat b).getD y.toNat d=if x=y then b else m.getD y.toNat d:=by
  rw [getD_set (by omega)]
  by_cases e:x=y
  · subst e;simp
  · rw [if_neg (by omega),if_neg e]
def InN (n:Nat) (x:Int):Prop:=0≤x∧x<(n:Int)
structure DI (nodes:List GNode) (anc:List Int) (s:TS):Prop where
  li:s.index.length=nodes.length
  ll:s.low.length=nodes.length
  ln:s.inn.length=nodes.length
  lo:s.on.length=nodes.length
  st:s.stack=anc
  ancIn:∀x∈anc,InN nodes.length x
  on:∀x,InN nodes.length x→(s.on.getD x.toNat false=true↔x∈anc)
  vis:∀x,InN nodes.length x→(gI s.index x≠0↔0≤gI s.inn x∨x∈anc)
  ix:∀x,InN nodes.length x→0≤gI s.index x∧gI s.index x≤(s.nx:Int)
  dn:∀x,InN nodes.length x→0≤gI s.inn x→gI s.inn x<(s.sizes.length:Int)∧x∉anc∧∀y∈refs (ndAt nodes x.toNat),InN nodes.length y∧0≤gI s.inn y∧gI s.inn y<gI s.inn x
  inj:∀x y,InN nodes.length x→InN nodes.length y→0≤gI s.inn x→gI s.inn x=gI s.inn y→x=y
  one:∀c,c<s.sizes.length→s.sizes.getD c 0=1
structure DF (nodes:List GNode) (s s':TS):Prop where
  nx:s.nx≤s'.nx
  inn:∀x,InN nodes.length x→0≤gI s.inn x→gI s'.inn x=gI s.inn x
  old:∀x,InN nodes.length x→gI s.index x≠0→gI s'.index x=gI s.index x∧gI s'.low x=gI s.low x
theorem DF.refl (nodes:List GNode) (s:TS):DF nodes s s:=⟨Nat.le_refl _,fun _ _ _=>rfl,fun _ _ _=>⟨rfl,rfl⟩⟩
theorem DF.trans {nodes:List GNode} {a b c:TS} (h:DF nodes a b) (k:DF nodes b c):DF nodes a c:=
  ⟨Nat.le_trans h.nx k.nx,fun x hx h0=>by have:=h.inn x hx h0;rw [k.inn x hx (by omega),this],fun x hx h0=>by
    obtain⟨h1,h2⟩:=h.old x hx h0
    obtain⟨k1,k2⟩:=k.old x hx (by rw [h1];exact h0)
    exact⟨k1.trans h1,k2.trans h2⟩⟩
section
variable {nodes:List GNode} {rk:Int→Nat}
def Ranks (nodes:List GNode) (rk:Int→Nat):Prop:=∀x,InN nodes.length x→∀y∈refs (ndAt nodes x.toNat),rk y<rk x
theorem di_push {anc:List Int} {s:TS} {at_:Int} (h:DI nodes anc s) (hat:InN nodes.length at_) (h0:gI s.index at_=0):DI nodes (anc ++ [at_]) (pushT at_ s)∧DF nodes s (pushT at_ s)∧gI (pushT at_ s).index at_=(s.nx+1:Nat)∧gI (pushT at_ s).low at_=(s.nx+1:Nat):=by
  obtain⟨ha1,ha2⟩:=hat
  have hnv:¬(0≤gI s.inn at_∨at_∈anc):=fun hv=>((h.vis at_ ⟨ha1,ha2⟩).2 hv) h0
  have hli:=h.li
  have hll:=h.ll
  have hlo:=h.lo
  have ei:∀y,0≤y→gI (pushT at_ s).index y=if at_=y then ((s.nx+1:Nat):Int) else gI s.index y:=fun y hy=>gI_sI ha1 hy (by rw [hli];exact ha2)
  have el:∀y,0≤y→gI (pushT at_ s).low y=if at_=y then ((s.nx+1:Nat):Int) else gI s.low y:=fun y hy=>gI_sI ha1 hy (by rw [hll];exact ha2)
  refine⟨⟨by show(sI _ _ _).length=_;rw [len_sI,hli],by show(sI _ _ _).length=_;rw [len_sI,hll],h.ln,by show(List.set _ _ _).length=_;rw [List.length_set,hlo],by show s.stack ++ [at_]=_;rw [h.st],?_,?_,?_,?_,?_,h.inj,h.one⟩,⟨by show s.nx≤s.nx+1;omega,fun _ _ _=>rfl,fun x hx hx0=>?_⟩,by rw [ei at_ ha1,if_pos rfl],by rw [el at_ ha1,if_pos rfl]⟩
  · intro x hx
    rcases List.mem_append.1 hx with hx | hx
    · exact h.ancIn x hx
    · rw [List.mem_singleton.1 hx];exact⟨ha1,ha2⟩
  · intro x hx
    show(s.on.set at_.toNat true).getD x.toNat false=true↔_
    rw [getD_set' ha1 hx.1 (by rw [hlo];exact ha2),List.mem_append,List.mem_singleton]
    by_cases e:at_=x
    · simp [e]
    · rw [if_neg e,h.on x hx];exact⟨.inl,fun h1=>h1.elim id (fun h2=>absurd h2.symm e)⟩
  · intro x hx
    rw [ei x hx.1,List.mem_append,List.mem_singleton]
    by_cases e:at_=x
    · subst e;simp;omega
    · rw [if_neg e,h.vis x hx]
      exact⟨fun h1=>h1.elim .inl (fun h2=>.inr (.inl h2)),fun h1=>h1.elim .inl (fun h2=>h2.elim .inr (fun h3=>absurd h3.symm e))⟩
  · intro x hx
    rw [ei x hx.1]
    have:=h.ix x hx
    show _∧_≤((s.nx+1:Nat):Int)
    split <;> omega
  · intro x hx hx0
    obtain⟨h1,h2,h3⟩:=h.dn x hx hx0
    refine⟨h1,fun hm=>?_,h3⟩
    rcases List.mem_append.1 hm with hm | hm
    · exact h2 hm
    · rw [List.mem_singleton.1 hm] at hx0;exact hnv (.inl hx0)
  · have e:at_≠x:=fun e=>by subst e;exact hx0 h0
    rw [ei x hx.1,el x hx.1,if_neg e,if_neg e]
    exact⟨rfl,rfl⟩
theorem di_done {anc : List Int} {s : TS} {at_ : Int} (h : DI nodes (anc ++ [at_]) s) (hna : at_ ∉ anc) (hlow : gI s.low at_ = gI s.index at_) (hdn : ∀ y ∈ refs (ndAt nodes at_.toNat), InN nodes.length y ∧ 0 ≤ gI s.inn y) :
    ∃s',doneT at_ s=some s'∧DI nodes anc s'∧DF nodes s s'∧0≤gI s'.inn at_∧s'.low=s.low∧s'.index=s.index:=by
  have hst:s.stack=anc ++ [at_]:=h.st
  have hat:InN nodes.length at_:=h.ancIn at_ (by simp)
  obtain⟨ha1,ha2⟩:=hat
  have hni:¬0≤gI s.inn at_:=fun h0=>(h.dn at_ ⟨ha1,ha2⟩ h0).2.1 (by simp)
  have hln:=h.ln
  refine⟨{ s with stack:=anc,on:=s.on.set at_.toNat false,inn:=sI s.inn at_ (s.sizes.length:Nat),sizes:=s.sizes ++ [1] },?_,?_,?_,?_,rfl,rfl⟩
  · unfold doneT
    rw [if_pos hlow,popT,hst,List.getLast?_concat]
    simp
  · have en:∀y,0≤y→gI (sI s.inn at_ (s.sizes.length:Nat)) y=if at_=y then ((s.sizes.length:Nat):Int) else gI s.inn y:=fun y hy=>gI_sI ha1 hy (by rw [hln];exact ha2)
    refine⟨h.li,h.ll,by show(sI _ _ _).length=_;rw [len_sI,hln],by show(List.set _ _ _).length=_;rw [List.length_set,h.lo],rfl,fun x hx=>h.ancIn x (by simp [hx]),?_,?_,h.ix,?_,?_,?_⟩
    · intro x hx
      show(s.on.set at_.toNat false).getD x.toNat false=true↔_
      rw [getD_set' ha1 hx.1 (by rw [h.lo];exact ha2)]
      by_cases e:at_=x
      · subst e;simp [hna]
      · rw [if_neg e,h.on x hx,List.mem_append,List.mem_singleton]
        exact⟨fun h1=>h1.elim id (fun h2=>absurd h2.symm e),.inl⟩
    · intro x hx
      show gI s.index x≠0↔0≤gI (sI s.inn at_ (s.sizes.length:Nat)) x∨_
      rw [h.vis x hx,en x hx.1,List.mem_append,List.mem_singleton]
      by_cases e:at_=x
      · subst e;simp
      · rw [if_neg e]
        exact⟨fun h1=>h1.elim .inl (fun h2=>h2.elim .inr (fun h3=>absurd h3.symm e)),fun h1=>h1.elim .inl (fun h2=>.inr (.inl h2))⟩
    · intro x hx hx0
      show gI (sI s.inn at_ (s.sizes.length:Nat)) x<((s.sizes ++ [(1:Int)]).length:Int)∧_∧∀y∈_,InN nodes.length y∧0≤gI (sI s.inn at_ (s.sizes.length:Nat)) y∧gI (sI s.inn at_ (s.sizes.length:Nat)) y<gI (sI s.inn at_ (s.sizes.length:Nat)) x
      have hx0':0≤gI (sI s.inn at_ (s.sizes.length:Nat)) x:=hx0
      rw [en x hx.1] at hx0' ⊢
      rw [List.length_append,List.length_singleton]
      by_cases e:at_=x
      · subst e
        rw [if_pos rfl]
        refine⟨by omega,hna,fun y hy=>?_⟩
        obtain⟨hy1,hy2⟩:=hdn y hy
        rw [en y hy1.1,if_neg (fun e=>hni (by rw [e];exact hy2))]
        exact⟨hy1,hy2,(h.dn y hy1 hy2).1⟩
      · rw [if_neg e] at hx0' ⊢
        obtain⟨h1,h2,h3⟩:=h.dn x hx hx0'
        refine⟨by omega,fun hm=>h2 (by simp [hm]),fun y hy=>?_⟩
        obtain⟨hyi,h4,h5⟩:=h3 y hy
        rw [en y hyi.1,if_neg (fun e=>hni (by rw [e];exact h4))]
        exact⟨hyi,h4,h5⟩
    · intro x y hx hy hx0 hxy
      have hx0':0≤gI (sI s.inn at_ (s.sizes.length:Nat)) x:=hx0
      have hxy':gI (sI s.inn at_ (s.sizes.length:Nat)) x=gI (sI s.inn at_ (s.sizes.length:Nat)) y:=hxy
      rw [en x hx.1,en y hy.1] at hxy'
      rw [en x hx.1] at hx0'
      by_cases e:at_=x
      · by_cases e':at_=y
        · rw [←e,←e']
        · rw [if_pos e,if_neg e'] at hxy'
          exfalso
          have:=(h.dn y hy (by omega)).1
          omega
      · rw [if_neg e] at hxy' hx0'
        by_cases e':at_=y
        · rw [if_pos e'] at hxy'
          exfalso
          have:=(h.dn x hx hx0').1
          omega
        · rw [if_neg e'] at hxy'
          exact h.inj x y hx hy hx0' hxy'
    · intro c hc
      show(s.sizes ++ [(1:Int)]).getD c 0=1
      have hc':c<(s.sizes ++ [(1:Int)]).length:=hc
      rw [List.length_append,List.length_singleton] at hc'
      rw [List.getD_eq_getElem?_getD]
      by_cases e:c<s.sizes.length
      · rw [List.getElem?_append_left e,←List.getD_eq_getElem?_getD];exact h.one c e
      · rw [List.getElem?_append_right (by omega),show c - s.sizes.length=0 by omega];rfl
  · refine⟨Nat.le_refl _,fun x hx hx0=>?_,fun _ _ _=>⟨rfl,rfl⟩⟩
    show gI (sI s.inn at_ (s.sizes.length:Nat)) x=_
    rw [gI_sI ha1 hx.1 (by rw [hln];exact ha2),if_neg (fun e=>hni (by rw [e];exact hx0))]
  · show 0≤gI (sI s.inn at_ (s.sizes.length:Nat)) at_
    rw [gI_sI ha1 ha1 (by rw [hln];exact ha2),if_pos rfl];omega
theorem edges_dag {anc : List Int} {at_ : Int} {f : Nat} (ih : ∀ x s, DI nodes (anc ++ [at_]) s → InN nodes.length x → gI s.index x = 0 → rk x < rk at_ →
      ∃s',visitT nodes f x s=some s'∧DI nodes (anc ++ [at_]) s'∧DF nodes s s'∧0≤gI s'.inn x∧gI s'.low x=gI s'.index x∧(s.nx:Int)<gI s'.index x)
    (hanc:∀a∈anc,rk at_<rk a) (hat:InN nodes.length at_) (xs:List Int) (hx:∀y∈xs,InN nodes.length y∧rk y<rk at_) (s:TS) (h:DI nodes (anc ++ [at_]) s) (hlow:gI s.low at_=gI s.index at_) :
    ∃s',runG (stepT (visitT nodes f) at_) xs s=some s'∧DI nodes (anc ++ [at_]) s'∧DF nodes s s'∧gI s'.low at_=gI s'.index at_∧∀y∈xs,0≤gI s'.inn y:=by
  induction xs generalizing s with
  | nil=>exact⟨s,rfl,h,DF.refl _ _,hlow,by simp⟩
  | cons y xs ihx=>
    obtain⟨hy,hrk⟩:=hx y (by simp)
    have hna:gI s.index at_≠0:=(h.vis at_ hat).2 (.inr (by simp))
    have key:∃s1,stepT (visitT nodes f) at_ y s=some s1∧DI nodes (anc ++ [at_]) s1∧DF nodes s s1∧gI s1.low at_=gI s1.index at_∧0≤gI s1.inn y:=by
      by_cases h0:gI s.index y=0
      · obtain⟨s1,e1,d1,f1,n1,l1,g1⟩:=ih y s h hy h0 hrk
        obtain⟨o1,o2⟩:=f1.old at_ hat hna
        refine⟨s1,?_,d1,f1,by rw [o1,o2,hlow],n1⟩
        unfold stepT
        rw [if_pos h0,e1]
        have hm:gI s1.low at_=min (gI s1.low at_) (gI s1.low y):=by
          have:=(h.ix at_ hat).2
          rw [o2,hlow,l1];omega
        have hl:=d1.ll
        obtain⟨ha1,ha2⟩:=hat
        show some { s1 with low:=sI s1.low at_ (min (gI s1.low at_) (gI s1.low y)) } = some s1
        rw [gI_sI_same hm (by omega)]
      · have hv:=(h.vis y hy).1 h0
        have hni:y∉anc ++ [at_]:=by
          intro hm
          rcases List.mem_append.1 hm with hm | hm
          · have:=hanc y hm;omega
          · rw [List.mem_singleton.1 hm] at hrk;omega
        have hin:=hv.resolve_right hni
        refine⟨s,?_,h,DF.refl _ _,hlow,hin⟩
        unfold stepT
        rw [if_neg h0,if_neg (fun ho=>hni ((h.on y hy).1 ho))]
    obtain⟨s1,e1,d1,f1,l1,n1⟩:=key
    obtain⟨s2,e2,d2,f2,l2,n2⟩:=ihx (fun z hz=>hx z (by simp [hz])) s1 d1 l1
    refine⟨s2,by rw [runG,e1];exact e2,d2,f1.trans f2,l2,fun z hz=>?_⟩
    rcases List.mem_cons.1 hz with rfl | hz
    · rw [f2.inn _ hy n1];exact n1
    · exact n2 z hz
theorem visitT_dag (hI : Idx nodes) (hR : Ranks nodes rk) (f : Nat) : ∀ (x : Int) (s : TS) (anc : List Int), DI nodes anc s → InN nodes.length x → gI s.index x = 0 → (∀ a ∈ anc, rk x < rk a) → rk x < f →
    ∃s',visitT nodes f x s=some s'∧DI nodes anc s'∧DF nodes s s'∧0≤gI s'.inn x∧gI s'.low x=gI s'.index x∧(s.nx:Int)<gI s'.index x:=by
  induction f with
  | zero=>intro x s anc _ _ _ _ h;omega
  | succ f ih=>
    intro x s anc h hx h0 hanc hf
    obtain⟨d1,f1,i1,l1⟩:=di_push h hx h0
    have hrefs:∀y∈refs (ndAt nodes x.toNat),InN nodes.length y∧rk y<rk x:=fun y hy=>⟨hI x.toNat (by have:=hx.1;have:=hx.2;omega) y hy,hR x hx y hy⟩
    have hih : ∀ y s, DI nodes (anc ++ [x]) s → InN nodes.length y → gI s.index y = 0 → rk y < rk x →
        ∃s',visitT nodes f y s=some s'∧DI nodes (anc ++ [x]) s'∧DF nodes s s'∧0≤gI s'.inn y∧gI s'.low y=gI s'.index y∧(s.nx:Int)<gI s'.index y:=fun y s hd hy hy0 hrk=>
      ih y s (anc ++ [x]) hd hy hy0 (fun a ha=>by
        rcases List.mem_append.1 ha with ha | ha
        · have:=hanc a ha;omega
        · rw [List.mem_singleton.1 ha];exact hrk) (by omega)
    obtain⟨s2,e2,d2,f2,l2,n2⟩:=edges_dag hih hanc hx _ hrefs (pushT x s) d1 (by rw [i1,l1])
    have hna:x∉anc:=fun hm=>by have:=hanc x hm;omega
    have hn1:gI (pushT x s).index x≠0:=by rw [i1];omega
    obtain⟨s3,e3,d3,f3,n3,g1,g2⟩:=di_done d2 hna l2 (fun y hy=>⟨(hrefs y hy).1,n2 y hy⟩)
    refine⟨s3,?_,d3,(f1.trans f2).trans f3,n3,by rw [g1,g2,l2],?_⟩
    · rw [visitT]
      unfold refs at e2
      rw [runG_append] at e2
      revert e2
      cases runG (stepT (visitT nodes f) x) (ndAt nodes x.toNat).keys (pushT x s) with
      | none=>intro e2;cases e2
      | some s1=>
        intro e2
        have e2':runG (stepT (visitT nodes f) x) (ndAt nodes x.toNat).items s1=some s2:=e2
        simp only [e2']
        exact e3
    · rw [g2,(f2.old x hx hn1).1,i1];omega
theorem di_start (nodes:List GNode):DI nodes [] (startT nodes.length):=by
  have hrep:∀(n:Nat) (v x:Int),(List.replicate n v).getD x.toNat 0=if x.toNat<n then v else 0:=fun n v x=>by
    rw [List.getD_eq_getElem?_getD,List.getElem?_replicate];split <;> rfl
  refine⟨by simp [startT],by simp [startT],by simp [startT],by simp [startT],rfl,by simp,fun x hx=>?_,fun x hx=>?_,fun x hx=>?_,fun x hx h0=>?_,fun x y hx _ h0=>?_,fun c hc=>by simp [startT] at hc⟩
  · show(List.replicate nodes.length false).getD _ _=true↔_
    rw [List.getD_eq_getElem?_getD,List.getElem?_replicate];split <;> simp
  all_goals obtain⟨hx1,hx2⟩:=hx
  · show gI (List.replicate nodes.length 0) x≠0↔0≤gI (List.replicate nodes.length (-1)) x∨_
    unfold gI;rw [hrep,hrep,if_pos (by omega),if_pos (by omega)];simp
  · show 0≤gI (List.replicate nodes.length 0) x∧gI (List.replicate nodes.length 0) x≤_
    unfold gI;rw [hrep,if_pos (by omega)];simp [startT]
  all_goals
    have h0':0≤gI (List.replicate nodes.length (-1)) x:=h0
    unfold gI at h0';rw [hrep,if_pos (by omega)] at h0';omega
theorem compV_dag (hI : Idx nodes) (hR : Ranks nodes rk) {root : Int} (hr : InN nodes.length root) (hrk : rk root ≤ nodes.length) (hall : ∀ i, i < nodes.length → Reach nodes root.toNat i) :
    ∃s,compV nodes root=some s∧DI nodes [] s∧∀x,InN nodes.length x→0≤gI s.inn x:=by
  have hd:=di_start nodes
  have h0:gI (startT nodes.length).index root=0:=by
    show(List.replicate nodes.length (0:Int)).getD _ _=0
    rw [List.getD_eq_getElem?_getD,List.getElem?_replicate];split <;> rfl
  obtain⟨s,e,d,_,n,_⟩:=visitT_dag hI hR (nodes.length+1) root (startT nodes.length) [] hd hr h0 (by simp) (by omega)
  refine⟨s,e,d,fun x hx=>?_⟩
  have hre:∀i,Reach nodes root.toNat i→i<nodes.length∧0≤gI s.inn (i:Int):=by
    intro i h
    induction h with
    | refl=>exact⟨by have:=hr.1;have:=hr.2;omega,by rw [show((root.toNat:Nat):Int)=root by have:=hr.1;omega];exact n⟩
    | step _ hl hx ih=>
      obtain⟨hb,hn⟩:=ih
      have:=(d.dn _ ⟨by omega,by omega⟩ hn).2.2 _ (by rw [Int.toNat_natCast];exact hx)
      obtain⟨⟨h1,h2⟩,h3,_⟩:=this
      rename_i y _ _
      exact⟨by omega,by rw [show((y.toNat:Nat):Int)=y by omega];exact h3⟩
  have h1:=hx.1
  have h2:=hx.2
  have:=(hre x.toNat (hall x.toNat (by omega))).2
  rw [show((x.toNat:Nat):Int)=x by omega] at this
  exact this
end
end Go.Proofs.YtnnnagnjikdnnaaGreatDoor
namespace Go.Proofs.YtnnnagnjikdnnaaGreatDoor
section
variable {nodes:List GNode}
end
end Go.Proofs.YtnnnagnjikdnnaaGreatDoor
namespace Go.Proofs.YtnnnagnjikdnnaaGreatDoor
open Go.RowKit
def Bs (m:List Bool):List Value:=m.map Value.bool
theorem Bs_get {m:List Bool} {k:Nat} (h:k<m.length):(Bs m)[k]? = some (.bool (m.getD k false)):=by
 unfold Bs
 rw [List.getElem?_map,List.getD_eq_getElem?_getD,List.getElem?_eq_getElem h];rfl
theorem Bs_set (m:List Bool) (k:Nat) (b:Bool):(Bs m).set k (.bool b)=Bs (m.set k b):=by simp [Bs,List.map_set]
theorem Bs_rep (n:Nat):List.replicate n (Value.bool false)=Bs (noMarks n):=by simp [Bs,noMarks]
theorem I64_getD {l:List Int} {k:Nat} (h:k<l.length):(I64 l)[k]? = some (.int .i64 (l.getD k 0)):=by
 unfold I64
 rw [List.getElem?_map,List.getD_eq_getElem?_getD,List.getElem?_eq_getElem h];rfl
theorem I64_rep (n:Nat) (v:Int):List.replicate n (Value.int .i64 v)=I64 (List.replicate n v):=by simp [I64]
theorem box2 (w:World) (t t':TypeId) (xs ys:List Value) :
  Hid (Arr ((w.alloc (.cells xs.toArray t)).alloc (.cells ys.toArray t')) w.heap.size t xs)∧Hid (Arr ((w.alloc (.cells xs.toArray t)).alloc (.cells ys.toArray t')) (w.heap.size+1) t' ys) ∧
   Below w.heap.size w ((w.alloc (.cells xs.toArray t)).alloc (.cells ys.toArray t'))∧Hid (((w.alloc (.cells xs.toArray t)).alloc (.cells ys.toArray t')).heap.size=w.heap.size+2):=by
 refine⟨(Arr.new w t xs).alloc _,?_,((Below.refl _ _).alloc (Nat.le_refl _) _).alloc (by simp) _,?_⟩
 ·have h:=Arr.new (w.alloc (.cells xs.toArray t)) t' ys
  have e:(w.alloc (.cells xs.toArray t)).heap.size=w.heap.size+1:=by simp
  rw [e] at h
  exact h
 ·show _=_
  simp
theorem box3 (w:World) (t t' t'':TypeId) (xs ys zs:List Value) :
  Hid (Arr (((w.alloc (.cells xs.toArray t)).alloc (.cells ys.toArray t')).alloc (.cells zs.toArray t'')) w.heap.size t xs)∧Hid (Arr (((w.alloc (.cells xs.toArray t)).alloc (.cells ys.toArray t')).alloc (.cells zs.toArray t'')) (w.heap.size+1) t' ys) ∧
   Hid (Arr (((w.alloc (.cells xs.toArray t)).alloc (.cells ys.toArray t')).alloc (.cells zs.toArray t'')) (w.heap.size+2) t'' zs) ∧
   Below w.heap.size w (((w.alloc (.cells xs.toArray t)).alloc (.cells ys.toArray t')).alloc (.cells zs.toArray t''))∧Hid ((((w.alloc (.cells xs.toArray t)).alloc (.cells ys.toArray t')).alloc (.cells zs.toArray t'')).heap.size=w.heap.size+3):=by
 obtain⟨h1,h2,h3,h4⟩:=box2 w t t' xs ys
 refine⟨Arr.alloc h1 _,Arr.alloc h2 _,?_,h3.alloc (by have:=h4.out;omega) _,?_⟩
 ·have h:=Arr.new ((w.alloc (.cells xs.toArray t)).alloc (.cells ys.toArray t')) t'' zs
  rw [h4.out] at h
  exact h
 ·show _=_
  simp
def NodeC (w:World) (B g p:Nat) (nd:GNode):Prop:=∃K ck I ci,
 w.cell? ⟨g,p,none⟩=some (.int .i64 nd.kind)∧w.cell? ⟨g,p+1,none⟩=some (.string (mks nd.text))∧w.cell? ⟨g,p+2,none⟩=some (.bool nd.ord) ∧
 w.cell? ⟨g,p+3,none⟩=some (.slice K nd.keys.length ck)∧w.cell? ⟨g,p+4,none⟩=some (.slice I nd.items.length ci) ∧
 (Rd w K (I64 nd.keys)∧∀ad,K=some ad→ad.block<B)∧(Rd w I (I64 nd.items)∧∀ad,I=some ad→ad.block<B)
def GRd (w:World) (B g o:Nat) (nodes:List GNode):Prop:=g<B∧B≤w.heap.size∧∀i nd,nodes[i]? = some nd→NodeC w B g (o+i*5) nd
theorem NodeC.up {w:World} {B B' g p:Nat} {nd:GNode} (h:NodeC w B g p nd) (hB:B≤B'):NodeC w B' g p nd:=by
 obtain⟨K,ck,I,ci,h0,h1,h2,h3,h4,⟨h5,h6⟩,h7,h8⟩:=h
 exact⟨K,ck,I,ci,h0,h1,h2,h3,h4,⟨h5,fun ad e=>Nat.lt_of_lt_of_le (h6 ad e) hB⟩,h7,fun ad e=>Nat.lt_of_lt_of_le (h8 ad e) hB⟩
theorem GRd.up {w:World} {B B' g o:Nat} {nodes:List GNode} (h:GRd w B g o nodes) (hB:B≤B') (hw:B'≤w.heap.size):GRd w B' g o nodes:=
 ⟨Nat.lt_of_lt_of_le h.1 hB,hw,fun i nd hi=>(h.2.2 i nd hi).up hB⟩
theorem NodeC.same {w w':World} {B g p:Nat} {nd:GNode} (h:NodeC w B g p nd) (hg:g<B) (hk:∀a:Addr,a.block<B→∀u,w.cell? a=some u→w'.cell? a=some u):NodeC w' B g p nd:=by
 obtain⟨K,ck,I,ci,h0,h1,h2,h3,h4,⟨h5,h6⟩,h7,h8⟩:=h
 refine⟨K,ck,I,ci,hk _ hg _ h0,hk _ hg _ h1,hk _ hg _ h2,hk _ hg _ h3,hk _ hg _ h4,⟨fun j u hj=>?_,h6⟩,fun j u hj=>?_,h8⟩
 ·obtain⟨ad,e,hc⟩:=h5 j u hj
  exact⟨ad,e,hk _ (by rw [blk_add];exact h6 ad e) _ hc⟩
 ·obtain⟨ad,e,hc⟩:=h7 j u hj
  exact⟨ad,e,hk _ (by rw [blk_add];exact h8 ad e) _ hc⟩
theorem GRd.below {w w':World} {B B' g o:Nat} {nodes:List GNode} (h:GRd w B g o nodes) (hb:Below B' w w') (hB:B≤B'):GRd w' B g o nodes:=
 ⟨h.1,Nat.le_trans h.2.1 hb.size,fun i nd hi=>(h.2.2 i nd hi).same h.1 fun a ha u hu=>by rw [hb.cell (by omega)];exact hu⟩
theorem GRd.grown {w w':World} {B g o b:Nat} {nodes:List GNode} (h:GRd w B g o nodes) (hb:w.grownBy w' (some b)) (hB:B≤b):GRd w' B g o nodes:=
 ⟨h.1,Nat.le_trans h.2.1 hb.size,fun i nd hi=>(h.2.2 i nd hi).same h.1 fun a ha u hu=>hb.cell hu (by intro e;have:=Option.some.inj e;omega)⟩
theorem GRd.of_at {w:World} {g o:Nat} {B:Nat} {nodes:List GNode} (h:GRd w B g o nodes) {i:Nat} (hi:i<nodes.length):NodeC w B g (o+i*5) (ndAt nodes i):=h.2.2 i _ (ndAt_get hi)
def NL (L:Nat) (nodes:List GNode):Prop:=∀i,i<nodes.length→(ndAt nodes i).keys.length≤L∧(ndAt nodes i).items.length≤L
theorem grown_set (w:World) (p:Addr) (u:Value):w.grownBy (w.setCell p u) (some p.block):=
 ⟨rfl,rfl,rfl,by simp [World.setCell],fun k _ hk=>Below.heap_setCell w p u k (by rintro rfl;exact hk rfl)⟩
theorem grown_trans {a b c:World} {row:Option Nat} (h:a.grownBy b row) (k:b.grownBy c row):a.grownBy c row:=
 ⟨k.os.trans h.os,k.tape.trans h.tape,k.output.trans h.output,Nat.le_trans h.size k.size,fun j hj hr=>(k.block j (Nat.lt_of_lt_of_le hj h.size) hr).trans (h.block j hj hr)⟩
theorem below_row {a b c:World} {B r:Nat} (h:Below B a b) (k:b.grownBy c (some r)) (hB:B≤b.heap.size) (hr:B≤r):Below B a c:=
 h.trans ⟨k.os,k.tape,k.output,k.size,fun j hj=>k.block j (by omega) (by intro e;have:=Option.some.inj e;omega)⟩
theorem drop_cons_at {l:List Int} {k:Nat} {x:Int} (h:l[k]? = some x):l.drop k=x :: l.drop (k+1):=by
 have hk:=(List.getElem?_eq_some_iff.1 h).1
 have hx:=(List.getElem?_eq_some_iff.1 h).2
 rw [List.drop_eq_getElem_cons hk,hx]
end Go.Proofs.YtnnnagnjikdnnaaGreatDoor
