/- share's order in memory: the variables that the closure has captured, and what a step does to them. -/
import Derived.Test.YtgbkbgiogdhnaaaGreatDoorMBd
import Derived.Test.YtgbkbgiogdhnaaaGreatDoorMCf
import Derived.Test.YtgbkbgiogdhnaaaGreatDoorMBg
import Derived.Test.YtgbkbgiogdhnaaaGreatDoorMBa
import Derived.Test.YtgbkbgiogdhnaaaGreatDoorNDh
set_option linter.unusedVariables false
set_option linter.unusedSimpArgs false
set_option linter.defProp false
set_option linter.constructorNameAsVariable false
namespace Go.Proofs.YtgbkbgiogdhnaaaGreatDoor
open Go.RowKit
structure OB where
  mt:Nat
  ou:Nat
  en:Nat
  gr:Nat
  vi:Nat
  mm:Nat
  em:Nat
def orderFn (e:OB):Value:=.func (.func 140) #[] #[.pointer (some ⟨e.mt,0,none⟩),.pointer (some ⟨e.ou,0,none⟩),.pointer (some ⟨e.gr,0,none⟩),.pointer (some ⟨e.en,0,none⟩),.pointer (some ⟨e.vi,0,none⟩)]
structure OE (w0 w:World) (B g o c:Nat) (nodes:List GNode) (root:Int) (F:Nat→Prop) (e:OB) (vs:Value) (M:List Bool) (L:List Int) (es:List Value):Prop where
  be:Below B w0 w
  gd:GRd w B g o nodes
  mt:Arr w e.mt 128 [.slice (some ⟨e.mm,0,none⟩) nodes.length nodes.length]
  en:Arr w e.en 153 [.slice (some ⟨e.em,0,none⟩) nodes.length nodes.length]
  gr:Arr w e.gr 29 [.slice (some ⟨g,o,none⟩) nodes.length c,.int .i64 root]
  vi:Arr w e.vi 53 [orderFn e]
  mm:Arr w e.mm 4 (Bs M)
  em:Arr w e.em 41 es
  ou:Arr w e.ou 41 [vs]
  ro:w.ownsRow B 3 1 vs L.length (I64 L)
  lo:∀b,F b→B≤b
  hi:∀b,F b→b<w.heap.size
  fr:¬F e.mt∧¬F e.en∧¬F e.gr∧¬F e.vi
  fw:F e.mm∧F e.em∧F e.ou
  fo:∀b,vs.ownBlock=some b→F b
  d1:e.ou≠e.em
section
variable {w0 w w' w1 w3:World} {B g o c:Nat} {nodes:List GNode} {root:Int} {F:Nat→Prop} {e:OB} {vs v':Value} {M:List Bool} {L:List Int} {es:List Value}
theorem OE.kept (h:OE w0 w B g o c nodes root F e vs M L es) (hb:Below w.heap.size w w'):OE w0 w' B g o c nodes root F e vs M L es:=
  { be:=h.be.trans (hb.mono h.gd.2.1)
    gd:=h.gd.below hb h.gd.2.1
    mt:=h.mt.keep hb
    en:=h.en.keep hb
    gr:=h.gr.keep hb
    vi:=h.vi.keep hb
    mm:=h.mm.keep hb
    em:=h.em.keep hb
    ou:=h.ou.keep hb
    ro:=own_below h.ro hb
    lo:=h.lo
    hi:=fun b hF=>Nat.lt_of_lt_of_le (h.hi b hF) hb.size
    fr:=h.fr
    fw:=h.fw
    fo:=h.fo
    d1:=h.d1 }
theorem OE.neF (h:OE w0 w B g o c nodes root F e vs M L es) {r:Nat} (hF:F r):e.mt≠r∧e.en≠r∧e.gr≠r∧e.vi≠r:=by
  obtain⟨h1,h2,h3,h4⟩:=h.fr
  exact⟨fun e=>h1 (e▸hF),fun e=>h2 (e▸hF),fun e=>h3 (e▸hF),fun e=>h4 (e▸hF)⟩
theorem OE.set_mm (h:OE w0 w B g o c nodes root F e vs M L es) (M':List Bool) (hg:w.grownBy w' (some e.mm)) (hA:Arr w' e.mm 4 (Bs M')):OE w0 w' B g o c nodes root F e vs M' L es:=by
  obtain⟨n1,n2,n3,n4⟩:=h.neF h.fw.1
  exact { be := below_row h.be hg h.gd.2.1 (h.lo _ h.fw.1)
          gd:=h.gd.grown hg (h.lo _ h.fw.1)
          mt:=h.mt.grown hg (some_ne n1)
          en:=h.en.grown hg (some_ne n2)
          gr:=h.gr.grown hg (some_ne n3)
          vi:=h.vi.grown hg (some_ne n4)
          mm:=hA
          em:=h.em.grown hg (some_ne (kind_ne h.em h.mm (by decide)))
          ou:=h.ou.grown hg (some_ne (kind_ne h.ou h.mm (by decide)))
          ro:=row_grown h.ro hg (row_ne h.ro h.mm (by decide))
          lo:=h.lo
          hi:=fun b hF=>Nat.lt_of_lt_of_le (h.hi b hF) hg.size
          fr:=h.fr
          fw:=h.fw
          fo:=h.fo
          d1:=h.d1 }
theorem OE.set_em (h:OE w0 w B g o c nodes root F e vs M L es) (es':List Value) (hg:w.grownBy w' (some e.em)) (hA:Arr w' e.em 41 es'):OE w0 w' B g o c nodes root F e vs M L es':=by
  obtain⟨n1,n2,n3,n4⟩:=h.neF h.fw.2.1
  exact { be := below_row h.be hg h.gd.2.1 (h.lo _ h.fw.2.1)
          gd:=h.gd.grown hg (h.lo _ h.fw.2.1)
          mt:=h.mt.grown hg (some_ne n1)
          en:=h.en.grown hg (some_ne n2)
          gr:=h.gr.grown hg (some_ne n3)
          vi:=h.vi.grown hg (some_ne n4)
          mm:=h.mm.grown hg (some_ne (kind_ne h.mm h.em (by decide)))
          em:=hA
          ou:=h.ou.grown hg (some_ne h.d1)
          ro:=row_grown h.ro hg (row_ne h.ro h.em (by decide))
          lo:=h.lo
          hi:=fun b hF=>Nat.lt_of_lt_of_le (h.hi b hF) hg.size
          fr:=h.fr
          fw:=h.fw
          fo:=h.fo
          d1:=h.d1 }
theorem OE.push (h : OE w0 w B g o c nodes root F e vs M L es) (x : Int) (hb : Below w.heap.size w w1) (hg : w1.grownBy w3 vs.ownBlock) (hown : w3.ownsRow B 3 1 v' (L.length + 1) (I64 L ++ [.int .i64 x])) (hat : v'.ownBlock = vs.ownBlock ∨ v'.ownBlock = some w1.heap.size) :
    ∃F',OE w0 (w3.setCell ⟨e.ou,0,none⟩ v') B g o c nodes root F' e v' M (L ++ [x]) es∧PStep w (w3.setCell ⟨e.ou,0,none⟩ v') F F'∧(∀b,F b→F' b):=by
  have hq:∀b,vs.ownBlock=some b→F b:=h.fo
  have hBw:B≤w1.heap.size:=Nat.le_trans h.gd.2.1 hb.size
  have hst:=arr_row h.ou hb hg (row_ne h.ro h.ou (by decide))
  have far:∀{b:Nat} {t:TypeId} {xs:List Value},Arr w b t xs→vs.ownBlock≠some b→b≠e.ou→Arr (w3.setCell ⟨e.ou,0,none⟩ v') b t xs:=fun ha hn hne=>(arr_row ha hb hg hn).far hne v'
  have hown4:(w3.setCell ⟨e.ou,0,none⟩ v').ownsRow B 3 1 v' (L ++ [x]).length (I64 (L ++ [x])):=by
    rw [I64_append,List.length_append,List.length_singleton]
    exact own_far (p:=⟨e.ou,0,none⟩) hown (own_arr hown hst (by decide)) v'
  have hss:(w3.setCell ⟨e.ou,0,none⟩ v').heap.size=w3.heap.size:=by simp [World.setCell]
  have hsz:w.heap.size≤w3.heap.size:=Nat.le_trans hb.size hg.size
  have hvF:∀b,v'.ownBlock=some b→F b∨w.heap.size≤b:=fun b hb'=>by
    rcases hat with h1 | h1
    · exact .inl (hq b (h1▸hb'))
    · rw [h1] at hb'
      have:=Option.some.inj hb'
      have:=hb.size
      exact .inr (by omega)
  have hvold:∀b,b<w.heap.size→vs.ownBlock≠some b→v'.ownBlock≠some b:=fun b hl hn hb'=>by
    rcases hat with h1 | h1
    · exact hn (h1▸hb')
    · rw [h1] at hb'
      have:=Option.some.inj hb'
      have:=hb.size
      omega
  obtain⟨f1,f2,f3,f4⟩:=h.fr
  obtain⟨n1,n2,n3⟩:=h.fw
  have hb3:Below B w0 w3:=(h.be.trans (hb.mono h.gd.2.1)).trans (below_of_grown hg hBw (fun k e'=>h.lo k (hq k e')))
  refine⟨fun b=>F b∨v'.ownBlock=some b,?_,?_,fun b hF=>.inl hF⟩
  · exact { be := hb3.setCell (p := ⟨e.ou, 0, none⟩) (h.lo _ n3) v'
            gd:=by
              have h1:=h.gd.below hb h.gd.2.1
              have h2:GRd w3 B g o nodes:=⟨h1.1,Nat.le_trans h1.2.1 hg.size,fun i nd hi=>(h1.2.2 i nd hi).same h1.1 fun a ha u hu=>hg.cell hu (fun e'=>by have:=h.lo a.block (hq a.block e'.symm);omega)⟩
              exact h2.grown (grown_set w3 ⟨e.ou,0,none⟩ v') (h.lo _ n3)
            mt:=far h.mt (fun k=>f1 (hq _ k)) (fun k=>f1 (k▸n3))
            en:=far h.en (fun k=>f2 (hq _ k)) (fun k=>f2 (k▸n3))
            gr:=far h.gr (fun k=>f3 (hq _ k)) (fun k=>f3 (k▸n3))
            vi:=far h.vi (fun k=>f4 (hq _ k)) (fun k=>f4 (k▸n3))
            mm:=far h.mm (row_ne h.ro h.mm (by decide)) (kind_ne h.mm h.ou (by decide))
            em:=far h.em (row_ne h.ro h.em (by decide)) (Ne.symm h.d1)
            ou:=hst.store 0 v'
            ro:=hown4
            lo:=fun b hF=>hF.elim (h.lo b) (fun k=>(hown.lt b k).1)
            hi:=fun b hF=>by rw [hss];exact hF.elim (fun k=>Nat.lt_of_lt_of_le (h.hi b k) hsz) (fun k=>(hown.lt b k).2)
            fr:=⟨fun k=>k.elim f1 (hvold _ h.mt.lt (fun k=>f1 (hq _ k))),fun k=>k.elim f2 (hvold _ h.en.lt (fun k=>f2 (hq _ k))),fun k=>k.elim f3 (hvold _ h.gr.lt (fun k=>f3 (hq _ k))),fun k=>k.elim f4 (hvold _ h.vi.lt (fun k=>f4 (hq _ k)))⟩
            fw:=⟨.inl n1,.inl n2,.inl n3⟩
            fo:=fun b k=>.inr k
            d1:=h.d1 }
  · refine⟨hg.os.trans hb.os,hg.tape.trans hb.tape,hg.output.trans hb.output,by rw [hss];exact hsz,fun b hlt hF=>?_,fun b hF=>?_⟩
    · exact(setCell_heap_ne _ _ _ (by rintro rfl;exact hF n3)).trans ((hg.block b (Nat.lt_of_lt_of_le hlt hb.size) (fun e'=>hF (hq b e'.symm))).trans (hb.block b hlt))
    · exact hF.elim .inl (fun k=>hvF b k)
end
def cfB (m:List Bool):Nat:=m.count false
theorem cfB_set {m:List Bool} {k:Nat} (h:m.getD k false=false) (hk:k<m.length):cfB (m.set k true)+1=cfB m:=by
  unfold cfB
  induction m generalizing k with
  | nil=>simp at hk
  | cons a l ih=>
    cases k with
    | zero=>
      have:a=false:=by simpa using h
      subst this
      simp
    | succ k=>
      have:=ih (k:=k) (by simpa using h) (by simpa using hk)
      simp only [List.set_cons_succ,List.count_cons]
      omega
def InL (n:Nat) (xs:List Int):Prop:=∀x∈xs,InN n x
end Go.Proofs.YtgbkbgiogdhnaaaGreatDoor
namespace Go.Proofs.YtgbkbgiogdhnaaaGreatDoor
open Go.RowKit
structure VS (n:Nat) (M:List Bool) (L:List Int) (es:List Value):Prop where
 ml:M.length=n
 el:es.length=n
 ct:L.length+cfB M≤n
 li:InL n L
def VOC (w0 w:World) (B g o c:Nat) (nodes:List GNode) (root:Int) (F:Nat→Prop) (e:OB) (q:Nat) (en:Ending) (w':World):Prop:=
 en=.returned (.tuple #[])∧∃F' vs' M' L' es',Hid (OE w0 w' B g o c nodes root F' e vs' M' L' es')∧Hid (VS nodes.length M' L' es')∧cfB M'≤q∧PStep w w' F F'
def VisO (w0:World) (B g o c:Nat) (nodes:List GNode) (root:Int) (e:OB) (f:Nat):Prop:=∀(k:Nat) (w:World) (F:Nat→Prop) (vs:Value) (M:List Bool) (L:List Int) (es:List Value),cfB M≤f→k<nodes.length→M.getD k false=false→VS nodes.length M L es→OE w0 w B g o c nodes root F e vs M L es →
 Calls Tryz.prog 140 #[.int .i64 (k:Int),.pointer (some ⟨e.mt,0,none⟩),.pointer (some ⟨e.ou,0,none⟩),.pointer (some ⟨e.gr,0,none⟩),.pointer (some ⟨e.en,0,none⟩),.pointer (some ⟨e.vi,0,none⟩)] w (VOC w0 w B g o c nodes root F e (cfB M - 1))
set_option maxRecDepth 20000 in
set_option maxHeartbeats 16000000 in
theorem visitO_any {w0:World} {B g o c:Nat} {nodes:List GNode} {root:Int} {e:OB} (hw0:LibE w0) (hB0:B=w0.heap.size) (hI:Idx nodes) (hL:NL 65536 nodes) (hN:nodes.length≤65536) (hT:∀k,k<nodes.length→(ndAt nodes k).kind=10→SortN nodes (ndAt nodes k)) (f:Nat):VisO w0 B g o c nodes root e f:=by
 have HB0:=Lib.hid hB0
 clear hB0
 induction f with
 | zero=>
  intro k w F vs M L es hf hk hm hV hE
  have:=cfB_set hm (by rw [hV.ml];exact hk)
  omega
 | succ f ih=>
  intro k w F vs M L es hf hk hm hV hE
  have hcf:=cfB_set hm (by rw [hV.ml];exact hk)
  have hk0:(0:Int)≤k:=by omega
  have hk1:(k:Int)<nodes.length:=by omega
  have x0:=hE.mt.cell' (i:=0) rfl
  have m0:=hE.mm.cell' (Bs_get (m:=M) (k:=k) (by rw [hV.ml];exact hk))
  rw [hm] at m0
  have f0:=hE.mm.frozen k
  have hg1:=grown_set w ⟨e.mm,k,none⟩ (.bool true)
  have hE1:Hid (OE w0 (w.setCell ⟨e.mm,k,none⟩ (.bool true)) B g o c nodes root F e vs (M.set k true) L es):=hE.set_mm _ hg1 (by have:=hE.mm.store k (.bool true);rw [Bs_set] at this;exact this)
  have hP1:=Lib.hid (pstep_grown hg1 hE.fw.1)
  have HV:=Lib.hid hV
  have hLl:L.length≤65536:=by have:=hV.ct;omega
  have HCF:=Lib.hid hcf
  clear hg1 hE hV hm hcf
  go_enter Tryz.func140,Tryz.ntmps140
  go_upto_region 1 with(fail)
  clear x0 m0 f0
  generalize w.setCell ⟨e.mm,k,none⟩ (.bool true)=w1 at *
  obtain⟨Ao,co,hvs,_,_⟩:=own_slice hE1.out.ro
  subst hvs
  have a0:=hE1.out.ou.cell' (i:=0) rfl
  have hBw:B≤w1.heap.size:=hE1.out.gd.2.1
  have hr1:Hid ((w1.alloc (.cells #[.int .i64 (k:Int)] 3)).ownsRow B 3 1 (.slice Ao L.length co) L.length (I64 L)):=hE1.out.ro.alloc _
  have hb1:Hid (Below w1.heap.size w1 (w1.alloc (.cells #[.int .i64 (k:Int)] 3))):=(Below.refl _ _).alloc (Nat.le_refl _) _
  go_upto_region 2 with(at_builtin;go_loud (refine wpList_apS rfl (.tmp 12) (.tmp 14) 41 rfl B 3 _ 1 _ Tryz.underlying41 infoInt rfl (by decide) _ L.length (I64 L) rfl hr1.out ⟨w1.heap.size,0,none⟩ _ [.int .i64 (k:Int)] rfl rfl (cells_new _ _ _) rfl (by unfold maxLen;omega) (by omega) (by simp;omega) ?_;intro v3 w3 hown3 hgr3 hat3;obtain⟨A3,c3,hv3,hc3,hm3⟩:=own_slice hown3;subst hv3;have hS3:=arr_row hE1.out.ou hb1.out hgr3 (row_ne hE1.out.ro hE1.out.ou (by decide));have p3:=hS3.cell' (i:=0) rfl;have q3:=hS3.frozen 0))
  obtain⟨F2,hE2',hP2',hFF⟩:=hE1.out.push (k:Int) hb1.out hgr3 hown3 hat3
  have hE2:Hid (OE w0 (w3.setCell ⟨e.ou,0,none⟩ (.slice A3 (L.length+1) c3)) B g o c nodes root F2 e (.slice A3 (L.length+1) c3) (M.set k true) (L ++ [(k:Int)]) es):=hE2'
  have hP2:=Lib.hid (hP1.out.trans hP2')
  have hV2:Hid (VS nodes.length (M.set k true) (L ++ [(k:Int)]) es):=⟨by rw [List.length_set];exact HV.out.ml,HV.out.el,by rw [List.length_append,List.length_singleton];have:=HV.out.ct;have:=HCF.out;omega,fun x hx=>by
   rcases List.mem_append.1 hx with h | h
   ·exact HV.out.li x h
   ·rw [List.mem_singleton.1 h];exact⟨hk0,hk1⟩⟩
  clear hE2' hP2' hFF hown3 hgr3 hat3 hS3 p3 q3 hr1 hb1 hBw a0 hE1 hP1 HV
  generalize w3.setCell ⟨e.ou,0,none⟩ (.slice A3 (L.length+1) c3)=w2 at *
  generalize (Value.slice A3 (L.length+1) c3)=vs2 at *
  generalize L ++ [(k:Int)]=L2 at *
  obtain⟨u0,hu0⟩:∃u,es[k]? = some u:=⟨_,List.getElem?_eq_getElem (by rw [hV2.out.el];exact hk)⟩
  have b0:w2.drew.cell? ⟨e.en,0,none⟩=some (.slice (some ⟨e.em,0,none⟩) nodes.length nodes.length):=hE2.out.en.cell' (i:=0) rfl
  have b1:w2.drew.cell? ⟨e.gr,0,none⟩=some (.slice (some ⟨g,o,none⟩) nodes.length c):=hE2.out.gr.cell' (i:=0) rfl
  have b2:w2.drew.cell? ⟨e.gr,1,none⟩=some (.int .i64 root):=hE2.out.gr.cell' (i:=1) rfl
  have hw2:LibE w2.drew:=by
   have h:=hE2.out.be.drew
   rw [HB0.out] at h
   exact hw0.keep h
  have D:=Lib.hid (sorted_any (c:=c) (root:=root) hL k hk (hT k hk) w2.drew hw2 (hE2.out.gd.below (Below.refl _ _).drew hE2.out.gd.2.1))
  have n1:e.em≠e.en:=(hE2.out.neF hE2.out.fw.2.1).2.1.symm
  have n2:e.em≠e.gr:=(hE2.out.neF hE2.out.fw.2.1).2.2.1.symm
  clear hw2
  go_region_held3 (fun w'=>w'.cell? ⟨e.en,0,none⟩=some (.slice (some ⟨e.em,0,none⟩) nodes.length nodes.length)∧w'.cell? ⟨e.gr,0,none⟩=some (.slice (some ⟨g,o,none⟩) nodes.length c)∧w'.cell? ⟨e.gr,1,none⟩=some (.int .i64 root)) (first | exact⟨by assumption,by assumption,by assumption⟩ | exact⟨(World.cell?_setCell_far _ _ _ _ n1).trans (by assumption),(World.cell?_setCell_far _ _ _ _ n2).trans (by assumption),(World.cell?_setCell_far _ _ _ _ n2).trans (by assumption)⟩ | go_keep)
   ((go_at_call 70;((with_reducible refine D.out.mono ?_));rintro en w4 ⟨lb,xs,rfl,hlb,hlb2,hb4,hxl,hxi,hrd⟩;have d0:=(hb4.cell (block_lt_of_cell b0)).trans b0;have d1:=(hb4.cell (block_lt_of_cell b1)).trans b1;have d2:=(hb4.cell (block_lt_of_cell b2)).trans b2;have hE4:Hid (OE w0 w4 B g o c nodes root F2 e vs2 (M.set k true) L2 es):=OE.kept (w:=w2) hE2.out ((Below.refl w2.heap.size w2).drew.trans hb4);have e0:=hE4.out.em.cell' hu0;have f0:=hE4.out.em.frozen k))
  obtain⟨m,hm⟩:∃m,(ndAt nodes k).items.length=m:=⟨_,rfl⟩
  rw [hm] at hxl hxi ⊢
  have HMM:=Lib.hid hm
  have hml:m≤65536:=by have:=(hL k hk).2;omega
  have hge:=grown_set w4 ⟨e.em,k,none⟩ (.slice (some ⟨lb,0,none⟩) m m)
  have hE5:Hid (OE w0 (w4.setCell ⟨e.em,k,none⟩ (.slice (some ⟨lb,0,none⟩) m m)) B g o c nodes root F2 e vs2 (M.set k true) L2 (es.set k (.slice (some ⟨lb,0,none⟩) m m))):=hE4.out.set_em _ hge (hE4.out.em.store k _)
  have hlF:¬F2 lb:=fun hF=>by have h1:=hE2.out.hi lb hF;have h2:w2.heap.size≤lb:=hlb;omega
  have hP5:=Lib.hid ((hP2.out.trans (PStep.of_below ((Below.refl w2.heap.size w2).drew.trans hb4))).trans (pstep_grown hge hE4.out.fw.2.1))
  have hne:e.em≠lb:=fun h=>hlF (h▸hE4.out.fw.2.1)
  have hR5:Hid (Rd (w4.setCell ⟨e.em,k,none⟩ (.slice (some ⟨lb,0,none⟩) m m)) (some ⟨lb,0,none⟩) (I64 xs)):=hrd.out.setCell (p:=⟨e.em,k,none⟩) _ (fun ad e2=>by have:=Option.some.inj e2;subst this;exact fun h=>hne h.symm)
  have hV5:Hid (VS nodes.length (M.set k true) L2 (es.set k (.slice (some ⟨lb,0,none⟩) m m))):=⟨hV2.out.ml,by rw [List.length_set];exact hV2.out.el,hV2.out.ct,hV2.out.li⟩
  have hg5:Hid ((es.set k (.slice (some ⟨lb,0,none⟩) m m))[k]? = some (.slice (some ⟨lb,0,none⟩) m m)):=by
   show _=_
   rw [List.getElem?_set_self (by rw [hV2.out.el];exact hk)]
  have hl5:lb<(w4.setCell ⟨e.em,k,none⟩ (.slice (some ⟨lb,0,none⟩) m m)).heap.size:=by simp [World.setCell];exact hlb2
  clear d0 d1 d2 e0 f0 b0 b1 b2 D n1 n2 hE4 hE2 hV2 hP2 hge hrd hb4 hu0 hm hlb hlb2 hne
  generalize (w4.setCell ⟨e.em,k,none⟩ (.slice (some ⟨lb,0,none⟩) m m))=w5 at *
  generalize es.set k (.slice (some ⟨lb,0,none⟩) m m)=es5 at *
  have a0:=hE5.out.en.cell' (i:=0) rfl
  have a1:=hE5.out.em.cell' hg5.out
  go_upto_region 4 with(fail)
  clear a0 a1 hg5
  have hc0:cfB (M.set k true)≤f:=by have:=HCF.out;omega
  have hc1:cfB (M.set k true)≤cfB M - 1:=by have:=HCF.out;omega
  obtain⟨q,hq⟩:∃q,cfB M - 1=q:=⟨_,rfl⟩
  rw [hq] at hc1 ⊢
  generalize M.set k true=M0 at *
  clear hq HCF hf
  go_loopw [27] (fun v wr=>∃(i:Nat) (F1:Nat→Prop) (vs1:Value) (M1:List Bool) (L1:List Int) (es1:List Value),i≤m∧v=.int .i64 (i:Int)∧Hid (OE w0 wr B g o c nodes root F1 e vs1 M1 L1 es1)∧Hid (VS nodes.length M1 L1 es1)∧cfB M1≤f∧cfB M1≤q∧PStep w5 wr F2 F1) (fun v _=>m - (intOf v).toNat)
  case atStart=>exact⟨0,F2,vs2,M0,L2,es5,Nat.zero_le _,rfl,hE5,hV5,hc0,hc1,PStep.of_below (Below.refl _ _)⟩
  case round=>
   obtain⟨i,F1,vs1,M1,L1,es1,hi,rfl,hE1,hV1,hf1,hq1,hPr⟩:=hrel
   by_cases him:i=m
   ·have hi':¬(i:Int)<m:=by omega
    go_wp2_with (fail)
    go_end0
    exact⟨rfl,F1,vs1,M1,L1,es1,hE1,hV1,hq1,hP5.out.trans hPr⟩
   ·have hi':(i:Int)<m:=by omega
    obtain⟨a,hxa,ham⟩:=InR_get hxi (k:=i) (by omega)
    obtain⟨ad,had,hca⟩:=(hPr.rd hR5.out (fun ad e2=>by have:=Option.some.inj e2;subst this;exact hlF)).at_ (I64_get hxa)
    obtain rfl:=Option.some.inj had
    rw [Addr.add_mid,Nat.zero_add] at hca
    obtain⟨K,ck,I,ci,_,_,_,_,c4,_,hIt,hIb⟩:=hE1.out.gd.of_at hk
    obtain⟨y,hy⟩:∃y,(ndAt nodes k).items[a]? = some y:=⟨_,List.getElem?_eq_getElem (by have:=HMM.out;omega)⟩
    obtain⟨ai,rfl,hcy⟩:=hIt.at_ (I64_get hy)
    have hyr:=hI k hk y (by unfold refs;exact List.mem_append.2 (.inr (List.mem_of_getElem? hy)))
    obtain⟨ky,rfl⟩:∃ky:Nat,y=(ky:Int):=⟨y.toNat,by omega⟩
    have hky:ky<nodes.length:=by omega
    rw [HMM.out] at c4
    have a0:(0:Int)≤a:=by omega
    have a1:(a:Int)<m:=by omega
    have y0:(0:Int)≤ky:=by omega
    have y1:(ky:Int)<nodes.length:=by omega
    have g0:=hE1.out.gr.cell' (i:=0) rfl
    have t0:=hE1.out.mt.cell' (i:=0) rfl
    have v0:=hE1.out.vi.cell' (i:=0) rfl
    unfold orderFn at v0
    have hb:=hE1.out.mm.cell' (Bs_get (m:=M1) (k:=ky) (by rw [hV1.out.ml];exact hky))
    have DV:=Lib.hid (fun(hmf:M1.getD ky false=false) (w':World) (h':Below wr.heap.size wr w')=>ih ky w' F1 vs1 M1 L1 es1 hf1 hky hmf hV1.out (hE1.out.kept h'))
    have hcl:cfB M1 - 1≤cfB M1:=Nat.sub_le _ _
    have nFg:¬F1 g:=fun hF=>by have h1:=hE1.out.gd.1;have h2:=hE1.out.lo _ hF;omega
    have nFi:¬F1 ai.block:=fun hF=>by have h1:=hIb _ rfl;have h2:=hE1.out.lo _ hF;omega
    obtain⟨_,_,nFr,nFv⟩:=hE1.out.fr
    clear hy hyr hIt hIb
    generalize hmb:M1.getD ky false=mb at *
    cases mb with
    | true=>
     clear DV hmb v0
     go_upto_region 6 with(fail)
     go_quiet (fail)
     have hbq:Below wr.heap.size wr (wr.drewN nq):=Below.drewN' (Below.refl _ _) nq
     have hE6:=Lib.hid (hE1.out.kept hbq)
     have hP6:=hPr.trans (PStep.of_below hbq)
     clear hbq hca c4 hcy g0 t0 hb
     generalize wr.drewN nq=w6 at *
     go_wp2_with (fail)
     go_roundw
     case rel=>exact⟨i+1,F1,vs1,M1,L1,es1,by omega,i64e (by omega),hE6,hV1,hf1,hq1,hP6⟩
     case measure=>simp [intOf];omega
    | false=>
     replace DV:=Lib.hid (DV.out rfl)
     clear hmb
     go_upto_region 6 with(fail)
     go_quiet (fail)
     have hbq:Below wr.heap.size wr (wr.drewN nq):=Below.drewN' (Below.refl _ _) nq
     have D:=Lib.hid (DV.out _ (hbq.trans (Below.refl wr.heap.size (wr.drewN nq)).drew))
     have c4':=(hbq.cell (block_lt_of_cell c4)).trans c4
     have cy':=(hbq.cell (block_lt_of_cell hcy)).trans hcy
     have g0':=(hbq.cell (block_lt_of_cell g0)).trans g0
     have v0':=(hbq.cell (block_lt_of_cell v0)).trans v0
     have hP6:=hPr.trans (PStep.of_below hbq)
     clear hca c4 hcy g0 t0 hb v0 DV hbq hE1
     generalize wr.drewN nq=w6 at *
     have q1:w6.drew.cell? ⟨g,o+k*5+4,none⟩=_:=c4'
     have q2:w6.drew.cell? (ai.add a)=_:=cy'
     have q3:w6.drew.cell? ⟨e.gr,0,none⟩=_:=g0'
     have q4:w6.drew.cell? ⟨e.vi,0,none⟩=_:=v0'
     clear c4' cy' g0' v0'
     go_upto_region 7 with(fail)
     go_region_held3 (fun w'=>w'.cell? ⟨g,o+k*5+4,none⟩=some (.slice (some ai) m ci)∧w'.cell? (ai.add a)=some (.int .i64 (ky:Int))∧w'.cell? ⟨e.gr,0,none⟩=some (.slice (some ⟨g,o,none⟩) nodes.length c)∧w'.cell? ⟨e.vi,0,none⟩=some (.func (.func 140) #[] #[.pointer (some ⟨e.mt,0,none⟩),.pointer (some ⟨e.ou,0,none⟩),.pointer (some ⟨e.gr,0,none⟩),.pointer (some ⟨e.en,0,none⟩),.pointer (some ⟨e.vi,0,none⟩)])) (first | exact⟨by assumption,by assumption,by assumption,by assumption⟩ | go_keep)
      ((go_at_call 140;((with_reducible refine D.out.mono ?_));rintro en w7 ⟨rfl,F7,vs7,M7,L7,es7,hE7,hV7,hq7,hP7⟩;have d1:=hP7.cell q1 nFg;have d2:=hP7.cell q2 (by rw [blk_add];exact nFi);have d3:=hP7.cell q3 nFr;have d4:=hP7.cell q4 nFv))
     have hP8:=hP6.trans ((PStep.of_below (Below.refl w6.heap.size w6).drew).trans hP7)
     clear q1 q2 q3 q4 d1 d2 d3 d4 D hP7
     go_wp2_with (fail)
     go_roundw
     case rel=>exact⟨i+1,F7,vs7,M7,L7,es7,by omega,i64e (by omega),hE7,hV7,by omega,by omega,hP8⟩
     case measure=>simp [intOf];omega
end Go.Proofs.YtgbkbgiogdhnaaaGreatDoor
namespace Go.Proofs.YtgbkbgiogdhnaaaGreatDoor
open Go.RowKit
theorem items_drop {nodes:List GNode} {i:Nat} (h:i<nodes.length):(nodes.drop i).flatMap GNode.items=(ndAt nodes i).items ++ (nodes.drop (i+1)).flatMap GNode.items:=by
 rw [List.drop_eq_getElem_cons h,List.flatMap_cons]
 have e:nodes[i]=ndAt nodes i:=by have:=ndAt_get h;rw [List.getElem?_eq_getElem h] at this;exact Option.some.inj this
 rw [e]
def countsI (nodes:List GNode) (root:Int):List Int:=(nodes.flatMap GNode.items).foldl bump (bump (List.replicate nodes.length 0) root)
set_option maxRecDepth 20000 in
set_option maxHeartbeats 4000000 in
theorem scounts_any {B g o c:Nat} {nodes:List GNode} {root:Int} (hV:indicesV nodes root=true) (hL:NL 65536 nodes) (hN:nodes.length≤65536) (w:World) (hG:GRd w B g o nodes) :
  Calls Tryz.prog 102 #[.agg #[.slice (some ⟨g,o,none⟩) nodes.length c,.int .i64 root]] w fun e w'=>∃cb,e=.returned (.slice (some ⟨cb,0,none⟩) nodes.length nodes.length)∧w.heap.size≤cb∧Below w.heap.size w w'∧Hid (Arr w' cb 3 (I64 (countsI nodes root))):=by
 obtain⟨⟨hr1,hr2⟩,hI⟩:=idx_of hV
 obtain⟨r,rfl⟩:∃r:Nat,root=(r:Int):=⟨root.toNat,by omega⟩
 have h1:Hid (Arr (w.alloc (.cells #[.slice (some ⟨g,o,none⟩) nodes.length c,.int .i64 (r:Int)] 29)) w.heap.size 29 [.slice (some ⟨g,o,none⟩) nodes.length c,.int .i64 (r:Int)]):=Arr.new w 29 [.slice (some ⟨g,o,none⟩) nodes.length c,.int .i64 (r:Int)]
 have hB1:Hid (Below w.heap.size w (w.alloc (.cells #[.slice (some ⟨g,o,none⟩) nodes.length c,.int .i64 (r:Int)] 29))):=(Below.refl _ _).alloc (Nat.le_refl _) _
 have HV:=Lib.hid hV
 have HG:=Lib.hid hG
 have hI':=Lib.hid hI
 clear hV hG hI
 go_enter Tryz.func102,Tryz.ntmps102
 go_upto_region 1 with(fail)
 generalize w.alloc (.cells #[.slice (some ⟨g,o,none⟩) nodes.length c,.int .i64 (r:Int)] 29)=W at *
 have hGW:Hid (GRd W B g o nodes):=HG.out.below hB1.out (by exact HG.out.2.1)
 obtain⟨n,hn⟩:∃n,nodes.length=n:=⟨_,rfl⟩
 obtain⟨gb,hgb⟩:∃b,w.heap.size=b:=⟨_,rfl⟩
 have hgbl:=h1.out.lt
 rw [hgb] at h1 hgbl hB1 ⊢
 rw [hn] at h1 hr2 hN ⊢
 have x0:=h1.out.cell' (i:=0) rfl
 have x1:=h1.out.cell' (i:=1) rfl
 have HN:=Lib.hid hn
 have HGB:=Lib.hid hgb
 clear hn hgb
 go_upto_region 2 with(at_make;go_loud (refine wpList_mk rfl _ _ 41 rfl 3 _ _ Tryz.underlying41 infoInt rfl _ _ _ _ rfl rfl n n (by omega) (by omega) (by omega) (by omega) (by unfold maxLen;omega) ?_;intro cb w2 hcb hC hb2 hz2))
 have hB2:Hid (Below gb w w2):=hB1.out.trans (hb2.mono (Nat.le_of_lt hgbl))
 have l1:gb<cb:=by have:=hcb.out;omega
 have hX:=h1.out.keep hb2
 have y0:=hX.cell' (i:=0) rfl
 have y1:=hX.cell' (i:=1) rfl
 have hCz:Hid (Arr w2 cb 3 (I64 (List.replicate n 0))):=by rw [←I64_rep];exact hC
 have z0:w2.cell? ⟨cb,r,none⟩=some (.int .i64 0):=by
  have:=hCz.out.cell' (I64_getD (l:=List.replicate n 0) (k:=r) (by simp;omega))
  rw [this,List.getD_eq_getElem?_getD,List.getElem?_replicate];split <;> rfl
 have zf:=hCz.out.frozen r
 have hC3:Hid (Arr (w2.setCell ⟨cb,r,none⟩ (.int .i64 1)) cb 3 (I64 (bump (List.replicate n 0) (r:Int)))):=by
  have h:=hCz.out.store r (.int .i64 1)
  rw [I64_set] at h
  have e:(List.replicate n (0:Int)).set r 1=bump (List.replicate n 0) (r:Int):=by
   unfold bump
   rw [Int.toNat_natCast]
   have:(List.replicate n (0:Int)).getD r 0=0:=by rw [List.getD_eq_getElem?_getD,List.getElem?_replicate];split <;> rfl
   rw [this];rfl
  rw [e] at h
  exact h
 have hB3:=Lib.hid (hB2.out.setCell (p:=⟨cb,r,none⟩) (show gb≤cb by omega) (.int .i64 1))
 have hX3:=Lib.hid (hX.far (p:=⟨cb,r,none⟩) (show gb≠cb by omega) (.int .i64 1))
 clear hC hCz hB2 hb2 hz2 x0 x1 h1 hX
 go_upto_region 3 with(fail)
 clear y0 y1 z0 zf
 generalize w2.setCell ⟨cb,r,none⟩ (.int .i64 1)=w3 at *
 have y0:=hX3.out.cell' (i:=0) rfl
 have HCB:Hid (CB (bump (List.replicate n 0) (r:Int)) 1):=(CB.zero n).bump _
 have HFI:Hid (((nodes.drop 0).flatMap GNode.items).foldl bump (bump (List.replicate n 0) (r:Int))=countsI nodes (r:Int)):=by
  rw [List.drop_zero,←HN.out];exact rfl
 have hlen0:Hid ((bump (List.replicate n 0) (r:Int)).length=n):=by rw [bump_len];exact List.length_replicate
 go_wp2_with (fail)
 go_loopw [22] (fun v wr=>∃(i:Nat) (cur:List Int) (q:Nat),i≤n∧v=.int .i64 (i:Int)∧q≤1+i*65536∧Hid (CB cur q)∧Hid (cur.length=n)∧Hid (((nodes.drop i).flatMap GNode.items).foldl bump cur=countsI nodes (r:Int))∧Hid (Arr wr cb 3 (I64 cur))∧Hid (Below gb w wr)∧w3.grownBy wr (some cb)) (fun v _=>n - (intOf v).toNat)
 case atStart=>exact⟨0,_,1,Nat.zero_le _,rfl,by omega,HCB,hlen0,HFI,hC3,hB3,World.grownBy.refl _ _⟩
 case round=>
  obtain⟨i,cur,q,hi,rfl,hq,hcb1,hcl,hfi,hCr,hBr,hgr⟩:=hrel
  by_cases hin:i=n
  ·have hin':¬(i:Int)<n:=by omega
   have he:cur=countsI nodes (r:Int):=by
    have:=hfi.out
    rw [List.drop_of_length_le (by have:=HN.out;omega)] at this
    exact this
   subst he
   go_wp2_with (fail)
   go_ret
   exact⟨cb,by rw [HN.out];rfl,by have:=HGB.out;omega,by rw [HGB.out];exact hBr,hCr⟩
  ·have hin':(i:Int)<n:=by omega
   have hi2:i<nodes.length:=by have:=HN.out;omega
   have hGr:=(HG.out.below hBr.out (by have:=HG.out.2.1;have:=HGB.out;omega)).of_at hi2
   obtain⟨K,ck,I,ci,c0,c1,c2,c3,c4,⟨hK,hKb⟩,hIt,hIb⟩:=hGr
   have k0:(0:Int)≤i:=by omega
   have hcbl:=hCr.out.lt
   have hND:Hid (Arr (wr.alloc (.cells #[.int .i64 (ndAt nodes i).kind,.string (mks (ndAt nodes i).text),.bool (ndAt nodes i).ord,.slice K (ndAt nodes i).keys.length ck,.slice I (ndAt nodes i).items.length ci] 43)) wr.heap.size 43 [.int .i64 (ndAt nodes i).kind,.string (mks (ndAt nodes i).text),.bool (ndAt nodes i).ord,.slice K (ndAt nodes i).keys.length ck,.slice I (ndAt nodes i).items.length ci]):=Arr.new wr _ _
   have hbn:Hid (Below wr.heap.size wr (wr.alloc (.cells #[.int .i64 (ndAt nodes i).kind,.string (mks (ndAt nodes i).text),.bool (ndAt nodes i).ord,.slice K (ndAt nodes i).keys.length ck,.slice I (ndAt nodes i).items.length ci] 43))):=(Below.refl _ _).alloc (Nat.le_refl _) _
   have HK:=Lib.hid hK
   have HI:=Lib.hid hIt
   have HKB:=Lib.hid hKb
   have HIB:=Lib.hid hIb
   clear hK hIt hKb hIb
   go_upto_region 6 with(fail)
   clear c0 c1 c2 c3 c4
   generalize (wr.alloc (.cells #[.int .i64 (ndAt nodes i).kind,.string (mks (ndAt nodes i).text),.bool (ndAt nodes i).ord,.slice K (ndAt nodes i).keys.length ck,.slice I (ndAt nodes i).items.length ci] 43))=w5 at *
   have hB5:Hid (Below gb w w5):=hBr.out.trans (hbn.out.mono (by have:=hBr.out.size;have:=HGB.out;omega))
   have hC5:=Lib.hid (hCr.out.keep hbn.out)
   have hK5:=Lib.hid (HK.out.keep hbn.out)
   have hI5:=Lib.hid (HI.out.keep hbn.out)
   have hg5:Hid (w3.grownBy w5 (some cb)):=grown_trans hgr ⟨hbn.out.os,hbn.out.tape,hbn.out.output,hbn.out.size,fun j hj _=>hbn.out.block j hj⟩
   have hnbl:=hND.out.lt
   obtain⟨nb,hnb⟩:∃b,wr.heap.size=b:=⟨_,rfl⟩
   rw [hnb] at hND hnbl hcbl ⊢
   have hgbn:gb<nb:=by have:=hBr.out.size;have:=HGB.out;omega
   obtain⟨hLk,hLi⟩:=hL i hi2
   have hrf:=Lib.hid (hI'.out i hi2)
   rw [items_drop hi2,List.foldl_append] at hfi
   clear hnb hBr hCr HK HI hbn hgr
   generalize ndAt nodes i=nd at *
   have n4:=hND.out.cell' (i:=4) rfl
   go_wp2_with (fail)
   go_loopw [29] (fun v ws=>∃(j:Nat) (cu:List Int) (q':Nat),j≤nd.items.length∧v=.int .i64 (j:Int)∧q'≤q+j∧Hid (CB cu q')∧Hid (cu.length=n)∧Hid (((nd.items.drop j)).foldl bump cu=nd.items.foldl bump cur)∧Hid (Arr ws cb 3 (I64 cu))∧Hid (Below gb w ws)∧w5.grownBy ws (some cb)) (fun v _=>nd.items.length - (intOf v).toNat)
   case atStart=>exact⟨0,cur,q,Nat.zero_le _,rfl,by omega,hcb1,hcl,rfl,hC5,hB5,World.grownBy.refl _ _⟩
   case round=>
    obtain⟨j,cu,q',hj,rfl,hq',hcb2,hcl2,hfk,hCs,hBs,hgs⟩:=hrel
    by_cases hjl:j=nd.items.length
    ·have hjl':¬(j:Int)<nd.items.length:=by omega
     have he:cu=nd.items.foldl bump cur:=by
      have:=hfk.out
      rw [List.drop_of_length_le (by omega)] at this
      exact this
     subst he
     have hgo:=Lib.hid (grown_trans hg5.out hgs)
     go_wp2_with (fail)
     go_roundw
     case rel=>exact⟨i+1,_,q',by omega,i64e (by omega),by omega,hcb2,hcl2,hfi,hCs,hBs,hgo.out⟩
     case measure=>simp [intOf];omega
    ·have hjl':(j:Int)<nd.items.length:=by omega
     obtain⟨x,hx⟩:∃x,nd.items[j]? = some x:=⟨_,List.getElem?_eq_getElem (by omega)⟩
     obtain⟨ad,rfl,hc⟩:=(hI5.out.grown hgs (fun ad e h=>by have:=HIB.out ad e;have:=Option.some.inj h;have:=HG.out.2.1;have:=HGB.out;omega)).at_ (I64_get hx)
     have hxr:=hrf.out x (by unfold refs;exact List.mem_append.2 (.inr (List.mem_of_getElem? hx)))
     obtain⟨kx,rfl⟩:∃kx:Nat,x=(kx:Int):=⟨x.toNat,by omega⟩
     have hkn:(kx:Int)<n:=by have:=HN.out;omega
     have p0:=hCs.out.cell' (I64_getD (l:=cu) (k:=kx) (by have:=hcl2.out;omega))
     have pf:=hCs.out.frozen kx
     obtain⟨hv1,hv2⟩:=hcb2.out kx
     have hCt:Hid (Arr (wr.setCell ⟨cb,kx,none⟩ (.int .i64 (cu.getD kx 0+1))) cb 3 (I64 (bump cu (kx:Int)))):=by
      have h:=hCs.out.store kx (.int .i64 (cu.getD kx 0+1))
      rw [I64_set] at h
      exact h
     have hgt:=Lib.hid (grown_trans hgs (grown_set wr ⟨cb,kx,none⟩ (.int .i64 (cu.getD kx 0+1))))
     have hBt:=Lib.hid (hBs.out.setCell (p:=⟨cb,kx,none⟩) (show gb≤cb by omega) (.int .i64 (cu.getD kx 0+1)))
     have hfk2:Hid ((nd.items.drop (j+1)).foldl bump (bump cu (kx:Int))=nd.items.foldl bump cur):=by
      have:=hfk.out
      rw [drop_cons_at hx,List.foldl_cons] at this
      exact this
     have hcl3:Hid ((bump cu (kx:Int)).length=n):=by rw [bump_len];exact hcl2.out
     have hcb3:=Lib.hid (hcb2.out.bump (kx:Int))
     clear hfk hx hxr hCs
     generalize cu.getD kx 0=vx at *
     go_wp2_with (fail)
     go_roundw
     case rel=>exact⟨j+1,bump cu (kx:Int),q'+1,by omega,i64e (by omega),by omega,hcb3,hcl3,hfk2,hCt,hBt,hgt.out⟩
     case measure=>simp [intOf];omega
end Go.Proofs.YtgbkbgiogdhnaaaGreatDoor
namespace Go.Proofs.YtgbkbgiogdhnaaaGreatDoor
open Go.RowKit
def OrdR (w:World) (n:Nat) (e:Ending) (w':World):Prop:=∃(A:Option Addr) (c':Nat) (xs:List Int) (ev:Value),e=.returned (.tuple #[.slice A xs.length c',ev])∧Rd w' A (I64 xs)∧(∀ad,A=some ad→ad.block<w'.heap.size)∧InL n xs∧xs.length≤n∧Below w.heap.size w w'
set_option maxRecDepth 20000 in
set_option maxHeartbeats 16000000 in
theorem order_any {B g o c:Nat} {nodes:List GNode} (r:Nat) (hr:r<nodes.length) (hI:Idx nodes) (hL:NL 65536 nodes) (hN:nodes.length≤65536) (hT:∀k,k<nodes.length→(ndAt nodes k).kind=10→SortN nodes (ndAt nodes k)) (w:World) (hw:LibE w) (hG:GRd w B g o nodes) :
  Calls Tryz.prog 101 #[.agg #[.slice (some ⟨g,o,none⟩) nodes.length c,.int .i64 (r:Int)]] w (OrdR w nodes.length):=by
 have h1:Hid (Arr (w.alloc (.cells #[.slice (some ⟨g,o,none⟩) nodes.length c,.int .i64 (r:Int)] 29)) w.heap.size 29 [.slice (some ⟨g,o,none⟩) nodes.length c,.int .i64 (r:Int)]):=Arr.new w _ _
 have hB1:Hid (Below w.heap.size w (w.alloc (.cells #[.slice (some ⟨g,o,none⟩) nodes.length c,.int .i64 (r:Int)] 29))):=(Below.refl _ _).alloc (Nat.le_refl _) _
 have HG:=Lib.hid hG
 have HW:=Lib.hid hw
 have hmf:∀(fn:Fn) (first cap:Array Value) (w:World),(Instr.makeFunc fn first cap).run Tryz.prog w=.ok (.func fn first cap) w:=fun _ _ _ _=>rfl
 have DV:Hid (∀(e:OB),VisO w w.heap.size g o c nodes (r:Int) e (nodes.length)):=fun e=>visitO_any (c:=c) (e:=e) hw rfl hI hL hN hT nodes.length
 clear hG hw
 go_enter Tryz.func101,Tryz.ntmps101
 go_upto_region 1 with(fail)
 generalize w.alloc (.cells #[.slice (some ⟨g,o,none⟩) nodes.length c,.int .i64 (r:Int)] 29)=W at *
 obtain⟨n,hn⟩:∃n,nodes.length=n:=⟨_,rfl⟩
 obtain⟨gb,hgb⟩:∃b,w.heap.size=b:=⟨_,rfl⟩
 have hgbl:=h1.out.lt
 rw [hgb] at h1 hgbl hB1 ⊢
 rw [hn] at h1 hr hN ⊢
 have HN:=Lib.hid hn
 have HGB:=Lib.hid hgb
 clear hn hgb
 have x0:=h1.out.cell' (i:=0) rfl
 go_upto_region 2 with(at_make;go_loud (refine wpList_mk rfl _ _ 153 rfl 41 _ _ Tryz.underlying153 infoSl rfl _ _ _ _ rfl rfl n n (by omega) (by omega) (by omega) (by omega) (by unfold maxLen;omega) ?_;intro em w2 hem hE hb2 hz2))
 clear x0
 have hX3:Hid (Arr (w2.alloc (.cells #[.slice (some ⟨em,0,none⟩) n n] 153)) w2.heap.size 153 [.slice (some ⟨em,0,none⟩) n n]):=Arr.new w2 _ _
 have hb3:Below w2.heap.size w2 (w2.alloc (.cells #[.slice (some ⟨em,0,none⟩) n n] 153)):=(Below.refl _ _).alloc (Nat.le_refl _) _
 have l1:gb<em:=by have:=hem.out;omega
 have l2:em<w2.heap.size:=hE.out.lt
 have hB3:=Lib.hid ((hB1.out.trans (hb2.mono (by omega))).trans (hb3.mono (by omega)))
 have h3:=Lib.hid ((h1.out.keep hb2).keep hb3)
 have hE3:=Lib.hid (hE.out.keep hb3)
 clear hE hb2 hz2 hem h1 hB1 hb3
 generalize (w2.alloc (.cells #[.slice (some ⟨em,0,none⟩) n n] 153))=w3 at *
 obtain⟨en,hen⟩:∃b,w2.heap.size=b:=⟨_,rfl⟩
 rw [hen] at hX3 l2 ⊢
 clear hen
 have x0:=h3.out.cell' (i:=0) rfl
 have l3:en<w3.heap.size:=hX3.out.lt
 go_upto_region 3 with(at_make;go_loud (refine wpList_mk rfl _ _ 128 rfl 4 _ _ Tryz.underlying128 infoBool rfl _ _ _ _ rfl rfl n n (by omega) (by omega) (by omega) (by omega) (by unfold maxLen;omega) ?_;intro mm w4 hmm hM hb4 hz4))
 clear x0
 have hX5:Hid (Arr (w4.alloc (.cells #[.slice (some ⟨mm,0,none⟩) n n] 128)) w4.heap.size 128 [.slice (some ⟨mm,0,none⟩) n n]):=Arr.new w4 _ _
 have hb5:Below w4.heap.size w4 (w4.alloc (.cells #[.slice (some ⟨mm,0,none⟩) n n] 128)):=(Below.refl _ _).alloc (Nat.le_refl _) _
 have l4:en<mm:=by have:=hmm.out;omega
 have l5:mm<w4.heap.size:=hM.out.lt
 have hB5:=Lib.hid ((hB3.out.trans (hb4.mono (by omega))).trans (hb5.mono (by omega)))
 have h5:=Lib.hid ((h3.out.keep hb4).keep hb5)
 have hE5:=Lib.hid ((hE3.out.keep hb4).keep hb5)
 have hX35:=Lib.hid ((hX3.out.keep hb4).keep hb5)
 have hM5:Hid (Arr (w4.alloc (.cells #[.slice (some ⟨mm,0,none⟩) n n] 128)) mm 4 (Bs (noMarks n))):=by rw [←Bs_rep];exact hM.out.keep hb5
 clear hM hb4 hz4 hmm h3 hB3 hb5 hE3 hX3
 generalize (w4.alloc (.cells #[.slice (some ⟨mm,0,none⟩) n n] 128))=w5 at *
 obtain⟨mt,hmt⟩:∃b,w4.heap.size=b:=⟨_,rfl⟩
 rw [hmt] at hX5 l5 ⊢
 clear hmt
 have l6:mt<w5.heap.size:=hX5.out.lt
 have hO6:Hid (Arr (w5.alloc (.cells #[.slice none 0 0] 41)) w5.heap.size 41 [.slice none 0 0]):=Arr.new w5 _ _
 have hb6:Below w5.heap.size w5 (w5.alloc (.cells #[.slice none 0 0] 41)):=(Below.refl _ _).alloc (Nat.le_refl _) _
 have hB6:=Lib.hid (hB5.out.trans (hb6.mono (by omega)))
 have h6:=Lib.hid (h5.out.keep hb6)
 have hE6:=Lib.hid (hE5.out.keep hb6)
 have hX36:=Lib.hid (hX35.out.keep hb6)
 have hX6:=Lib.hid (hX5.out.keep hb6)
 have hM6:=Lib.hid (hM5.out.keep hb6)
 go_upto_region 4 with(fail)
 clear hB5 h5 hE5 hX35 hX5 hM5 hb6
 generalize (w5.alloc (.cells #[.slice none 0 0] 41))=w6 at *
 obtain⟨ou,hou⟩:∃b,w5.heap.size=b:=⟨_,rfl⟩
 rw [hou] at hO6 l6 ⊢
 clear hou
 have l7:ou<w6.heap.size:=hO6.out.lt
 have hV7:Hid (Arr (w6.alloc (.cells #[.nilFunc] 53)) w6.heap.size 53 [.nilFunc]):=Arr.new w6 _ _
 have hb7:Below w6.heap.size w6 (w6.alloc (.cells #[.nilFunc] 53)):=(Below.refl _ _).alloc (Nat.le_refl _) _
 have hB7:=Lib.hid (hB6.out.trans (hb7.mono (by omega)))
 have h7:=Lib.hid (h6.out.keep hb7)
 have hE7:=Lib.hid (hE6.out.keep hb7)
 have hX37:=Lib.hid (hX36.out.keep hb7)
 have hX7:=Lib.hid (hX6.out.keep hb7)
 have hM7:=Lib.hid (hM6.out.keep hb7)
 have hO7:=Lib.hid (hO6.out.keep hb7)
 go_upto_region 5 with(fail)
 clear hB6 h6 hE6 hX36 hX6 hM6 hO6 hb7
 generalize (w6.alloc (.cells #[.nilFunc] 53))=w7 at *
 obtain⟨vi,hvi⟩:∃b,w6.heap.size=b:=⟨_,rfl⟩
 rw [hvi] at hV7 l7 ⊢
 clear hvi
 have z0:=hV7.out.cell' (i:=0) rfl
 have zf:=hV7.out.frozen 0
 have HFN:Hid (orderFn ⟨mt,ou,en,gb,vi,mm,em⟩=.func (.func 140) #[] #[.pointer (some ⟨mt,0,none⟩),.pointer (some ⟨ou,0,none⟩),.pointer (some ⟨gb,0,none⟩),.pointer (some ⟨en,0,none⟩),.pointer (some ⟨vi,0,none⟩)]):=rfl
 obtain⟨fv,hfv⟩:∃fv,fv=Value.func (.func 140) #[] #[.pointer (some ⟨mt,0,none⟩),.pointer (some ⟨ou,0,none⟩),.pointer (some ⟨gb,0,none⟩),.pointer (some ⟨en,0,none⟩),.pointer (some ⟨vi,0,none⟩)]:=⟨_,rfl⟩
 have hB8:Hid (Below gb w (w7.setCell ⟨vi,0,none⟩ fv)):=hB7.out.setCell (p:=⟨vi,0,none⟩) (show gb≤vi by omega) fv
 have hOE:Hid (OE w (w7.setCell ⟨vi,0,none⟩ fv) gb g o c nodes (r:Int) (fun b=>b=mm∨b=em∨b=ou) ⟨mt,ou,en,gb,vi,mm,em⟩ (.slice none 0 0) (noMarks n) [] (List.replicate n (.slice none 0 0))):={
  be:=hB8.out
  gd:=(HG.out.below hB8.out (by have:=HG.out.2.1;have:=HGB.out;omega)).up (by have:=HG.out.2.1;have:=HGB.out;omega) (by have:=hB8.out.size;have:=HGB.out;omega)
  mt:=by rw [HN.out];exact hX7.out.far (p:=⟨vi,0,none⟩) (show mt≠vi by omega) fv
  en:=by rw [HN.out];exact hX37.out.far (p:=⟨vi,0,none⟩) (show en≠vi by omega) fv
  gr:=by rw [HN.out];exact h7.out.far (p:=⟨vi,0,none⟩) (show gb≠vi by omega) fv
  vi:=by rw [HFN.out,←hfv];exact hV7.out.store 0 fv
  mm:=hM7.out.far (p:=⟨vi,0,none⟩) (show mm≠vi by omega) fv
  em:=hE7.out.far (p:=⟨vi,0,none⟩) (show em≠vi by omega) fv
  ou:=hO7.out.far (p:=⟨vi,0,none⟩) (show ou≠vi by omega) fv
  ro:=World.ownsRow_nil _ _ _ _
  lo:=fun b hb=>by rcases hb with h | h | h <;> omega
  hi:=fun b hb=>by have:=hV7.out.lt;simp only [World.setCell,Array.size_modify];rcases hb with h | h | h <;> omega
  fr:=⟨fun h=>by rcases h with h | h | h <;> (simp only at h;omega),fun h=>by rcases h with h | h | h <;> (simp only at h;omega),fun h=>by rcases h with h | h | h <;> (simp only at h;omega),fun h=>by rcases h with h | h | h <;> (simp only at h;omega)⟩
  fw:=⟨.inl rfl,.inr (.inl rfl),.inr (.inr rfl)⟩
  fo:=fun b h=>by cases h
  d1:=by show ou≠em;omega }
 have hVS:Hid (VS nodes.length (noMarks n) [] (List.replicate n (.slice none 0 0))):=⟨by rw [HN.out];simp [noMarks],by rw [HN.out];simp,by rw [HN.out];simp [cfB,noMarks],fun x hx=>by cases hx⟩
 subst hfv
 go_upto_region 6 with(fail)
 clear z0 zf hV7 hB7 h7 hE7 hX37 hX7 hM7 hO7 hmf HFN
 generalize (w7.setCell ⟨vi,0,none⟩ (.func (.func 140) #[] #[.pointer (some ⟨mt,0,none⟩),.pointer (some ⟨ou,0,none⟩),.pointer (some ⟨gb,0,none⟩),.pointer (some ⟨en,0,none⟩),.pointer (some ⟨vi,0,none⟩)]))=w8 at *
 have v0:=hOE.out.vi.cell' (i:=0) rfl
 unfold orderFn at v0
 have g1:=hOE.out.gr.cell' (i:=1) rfl
 have D0:=DV.out ⟨mt,ou,en,gb,vi,mm,em⟩ r w8 (fun b=>b=mm∨b=em∨b=ou) (.slice none 0 0) (noMarks n) [] (List.replicate n (.slice none 0 0)) (by rw [HN.out];simp [cfB,noMarks]) (by have:=HN.out;omega) (by rw [noMarks_get]) hVS.out (by rw [HGB.out];exact hOE.out)
 rw [HGB.out] at D0
 have D:=Lib.hid D0
 clear D0 DV
 go_upto_region 7 with(go_at_call 140;((with_reducible refine D.out.mono ?_));rintro e w9 ⟨rfl,F9,vs9,M9,L9,es9,hE9,hV9,hq9,hP9⟩)
 clear v0 g1 D hOE hVS
 obtain⟨A9,c9,hvs9,_,_⟩:=own_slice hE9.out.ro
 subst hvs9
 have o0:=hE9.out.ou.cell' (i:=0) rfl
 have n0:=hE9.out.en.cell' (i:=0) rfl
 go_quiet (fail)
 have hbq:Below w9.heap.size w9 (w9.drewN nq):=Below.drewN' (Below.refl _ _) nq
 have hrd:Hid (Rd (w9.drewN nq) A9 (I64 L9)):=(own_rd2 hE9.out.ro).elim fun A h=>h.elim fun c h=>by
  obtain⟨he,_,_,_,hrd,_,_⟩:=h
  injection he with e1 _ _
  subst e1
  exact hrd.drewN nq
 have hbl:Hid (∀ad,A9=some ad→ad.block<(w9.drewN nq).heap.size):=fun ad e=>(hE9.out.ro.lt ad.block (by rw [e];rfl)).2
 have hli:Hid (InL n L9):=by rw [←HN.out];exact hV9.out.li
 have hll:L9.length≤n:=by have:=hV9.out.ct;have:=HN.out;omega
 have hBf:Hid (Below gb w (w9.drewN nq)):=hE9.out.be.trans (hbq.mono hE9.out.gd.2.1)
 go_wp2_with (fail)
 go_ret2
 exact⟨A9,c9,L9,_,rfl,hrd.out,hbl.out,by rw [HN.out];exact hli.out,by rw [HN.out];exact hll,by rw [HGB.out];exact hBf.out⟩
set_option maxRecDepth 20000 in
set_option maxHeartbeats 16000000 in
theorem labels_none {B g o c:Nat} {nodes:List GNode} (r:Nat) (hr:r<nodes.length) (hO:ChkOK nodes (r:Int)) (hchk:chkV nodes (r:Int)=0) (hT:∀k,k<nodes.length→(ndAt nodes k).kind=10→SortN nodes (ndAt nodes k)) (hC:∀k,(countsI nodes (r:Int)).getD k 0≤1) (w:World) (hw:LibE w) (hG:GRd w B g o nodes) :
  Calls Tryz.prog 71 #[.agg #[.slice (some ⟨g,o,none⟩) nodes.length c,.int .i64 (r:Int)]] w fun e w'=>e=.returned (.slice none 0 0)∧Below w.heap.size w w':=by
 have h1:Hid (Arr (w.alloc (.cells #[.slice (some ⟨g,o,none⟩) nodes.length c,.int .i64 (r:Int)] 29)) w.heap.size 29 [.slice (some ⟨g,o,none⟩) nodes.length c,.int .i64 (r:Int)]):=Arr.new w _ _
 have hB1:Hid (Below w.heap.size w (w.alloc (.cells #[.slice (some ⟨g,o,none⟩) nodes.length c,.int .i64 (r:Int)] 29))):=(Below.refl _ _).alloc (Nat.le_refl _) _
 have HG:=Lib.hid hG
 have HW:=Lib.hid hw
 obtain⟨hi1,_⟩:=chkV_zero hchk
 obtain⟨_,hI⟩:=idx_of hi1
 have D1:=Lib.hid (fun(w':World) (h:LibE w') (h':GRd w' B g o nodes)=>gcheck_any (c:=c) hO w' h h')
 rw [hchk] at D1
 have hN1:=hO.n1
 have D2:=Lib.hid (fun(w':World) (h:LibE w') (h':GRd w' B g o nodes)=>order_any (c:=c) r hr hI hO.nl (by omega) hT w' h h')
 have D3:=Lib.hid (fun(w':World) (h':GRd w' B g o nodes)=>scounts_any (c:=c) hi1 hO.nl (by omega) w' h')
 have HC:=Lib.hid hC
 have hcl:Hid ((countsI nodes (r:Int)).length=nodes.length):=by
  show _=_
  unfold countsI
  rw [bumps_len,bump_len,List.length_replicate]
 clear hG hw hi1 hI hchk hO hT hC
 go_enter Tryz.func71,Tryz.ntmps71
 go_upto_region 1 with(fail)
 generalize w.alloc (.cells #[.slice (some ⟨g,o,none⟩) nodes.length c,.int .i64 (r:Int)] 29)=W at *
 obtain⟨n,hn⟩:∃n,nodes.length=n:=⟨_,rfl⟩
 obtain⟨gb,hgb⟩:∃b,w.heap.size=b:=⟨_,rfl⟩
 have hgbl:=h1.out.lt
 rw [hgb] at h1 hgbl hB1 ⊢
 rw [hn] at h1 hr hN1 D1 D2 D3 hcl
 have HGB:=Lib.hid hgb
 clear hgb hn
 have x0:=h1.out.cell' (i:=0) rfl
 have x1:=h1.out.cell' (i:=1) rfl
 have hw1:=Lib.hid (HW.out.keep (by rw [HGB.out];exact hB1.out))
 have hG1:=Lib.hid (HG.out.below hB1.out (by have:=HG.out.2.1;have:=HGB.out;omega))
 go_upto_region 3 with(go_at_call 40;((with_reducible refine(D1.out _ hw1.out hG1.out).mono ?_));rintro e w2 ⟨rfl,hb2⟩)
 clear x0 x1
 have hB2:=Lib.hid (hB1.out.trans (hb2.mono (by have:=hB1.out.size;have:=HGB.out;omega)))
 have h2:=Lib.hid (h1.out.keep hb2)
 have hw2:=Lib.hid (HW.out.keep (by rw [HGB.out];exact hB2.out))
 have hG2:=Lib.hid (HG.out.below hB2.out (by have:=HG.out.2.1;have:=HGB.out;omega))
 have x0:=h2.out.cell' (i:=0) rfl
 have x1:=h2.out.cell' (i:=1) rfl
 go_upto_region 4 with(go_at_call 101;((with_reducible refine(D2.out _ hw2.out hG2.out).mono ?_));rintro e w3 ⟨A,c',xs,ev,rfl,hrd,hab,hxi,hxl,hb3⟩)
 clear x0 x1 h1 hB1 hb2 hw1 hG1
 have hB3:=Lib.hid (hB2.out.trans (hb3.mono (by have:=hB2.out.size;have:=HGB.out;omega)))
 have h3:=Lib.hid (h2.out.keep hb3)
 have hG3:=Lib.hid (HG.out.below hB3.out (by have:=HG.out.2.1;have:=HGB.out;omega))
 have x0:=h3.out.cell' (i:=0) rfl
 have x1:=h3.out.cell' (i:=1) rfl
 go_upto_region 5 with(go_at_call 102;((with_reducible refine(D3.out _ hG3.out).mono ?_));rintro e w4 ⟨cb,rfl,hcb,hb4,hC4⟩)
 clear x0 x1 h2 hB2 hb3 hw2 hG2 hG3
 have hB4:=Lib.hid (hB3.out.trans (hb4.mono (by have:=hB3.out.size;have:=HGB.out;omega)))
 have hR4:=Lib.hid (hrd.keep hb4)
 have HXI:=Lib.hid hxi
 clear hrd hb4 hB3 h3 hxi
 go_upto_region 7 with(fail)
 go_loop [6,21] (fun a v=>a=.slice none 0 0∧∃i:Nat,i≤xs.length∧v=.int .i64 (i:Int)) (fun _ v=>xs.length - (intOf v).toNat)
 case atStart=>exact⟨rfl,0,Nat.zero_le _,rfl⟩
 case round=>
  obtain⟨rfl,i,hi,rfl⟩:=hrel
  by_cases hin:i=xs.length
  ·have hi':¬(i:Int)<xs.length:=by omega
   go_wp2_with (fail)
   go_ret
   exact⟨rfl,by rw [HGB.out];exact hB4.out⟩
  ·have hi':(i:Int)<xs.length:=by omega
   obtain⟨x,hx⟩:∃x,xs[i]? = some x:=⟨_,List.getElem?_eq_getElem (by omega)⟩
   obtain⟨ad,rfl,hc⟩:=hR4.out.at_ (I64_get hx)
   obtain⟨x1,x2⟩:=HXI.out x (List.mem_of_getElem? hx)
   obtain⟨kx,rfl⟩:∃kx:Nat,x=(kx:Int):=⟨x.toNat,by omega⟩
   have c0:=hC4.out.cell' (I64_getD (l:=countsI nodes (r:Int)) (k:=kx) (by have:=hcl.out;omega))
   have hv:=HC.out kx
   have hv2:¬(1:Int)<(countsI nodes (r:Int)).getD kx 0:=by omega
   generalize (countsI nodes (r:Int)).getD kx 0=cv at *
   clear hx
   go_wp2_with (fail)
   go_round
   case rel=>exact⟨rfl,i+1,by omega,i64e (by omega)⟩
   case measure=>simp [intOf];omega
set_option maxRecDepth 20000 in
set_option maxHeartbeats 16000000 in
theorem tree_true {B g o c:Nat} {nodes:List GNode} (r:Nat) (hr:r<nodes.length) (hO:ChkOK nodes (r:Int)) (hchk:chkV nodes (r:Int)=0) (hT:∀k,k<nodes.length→(ndAt nodes k).kind=10→SortN nodes (ndAt nodes k)) (hC:∀k,(countsI nodes (r:Int)).getD k 0≤1) (w:World) (hw:LibE w) (hG:GRd w B g o nodes) :
  Calls Tryz.prog 42 #[.agg #[.slice (some ⟨g,o,none⟩) nodes.length c,.int .i64 (r:Int)]] w fun e w'=>e=.returned (.bool true)∧Below w.heap.size w w':=by
 have h1:Hid (Arr (w.alloc (.cells #[.slice (some ⟨g,o,none⟩) nodes.length c,.int .i64 (r:Int)] 29)) w.heap.size 29 [.slice (some ⟨g,o,none⟩) nodes.length c,.int .i64 (r:Int)]):=Arr.new w _ _
 have hB1:Hid (Below w.heap.size w (w.alloc (.cells #[.slice (some ⟨g,o,none⟩) nodes.length c,.int .i64 (r:Int)] 29))):=(Below.refl _ _).alloc (Nat.le_refl _) _
 have HG:=Lib.hid hG
 have HW:=Lib.hid hw
 have D1:=Lib.hid (fun(w':World) (h:LibE w') (h':GRd w' B g o nodes)=>gcheck_any (c:=c) hO w' h h')
 rw [hchk] at D1
 have D2:=Lib.hid (fun(w':World) (h:LibE w') (h':GRd w' B g o nodes)=>labels_none (c:=c) r hr hO hchk hT hC w' h h')
 clear hG hw hchk hO hT hC
 go_enter Tryz.func42,Tryz.ntmps42
 go_upto_region 1 with(fail)
 generalize w.alloc (.cells #[.slice (some ⟨g,o,none⟩) nodes.length c,.int .i64 (r:Int)] 29)=W at *
 generalize nodes.length=n at *
 obtain⟨gb,hgb⟩:∃b,w.heap.size=b:=⟨_,rfl⟩
 have hgbl:=h1.out.lt
 rw [hgb] at h1 hgbl hB1 ⊢
 have HGB:=Lib.hid hgb
 clear hgb
 have x0:=h1.out.cell' (i:=0) rfl
 have x1:=h1.out.cell' (i:=1) rfl
 have hw1:=Lib.hid (HW.out.keep (by rw [HGB.out];exact hB1.out))
 have hG1:=Lib.hid (HG.out.below hB1.out (by have:=HG.out.2.1;have:=HGB.out;omega))
 go_wp2_with (first
  | (go_at_call 40;((with_reducible refine(D1.out _ hw1.out hG1.out).mono ?_));rintro e w2 ⟨rfl,hb2⟩;have hB2:=Lib.hid (hB1.out.trans (hb2.mono (by have:=hB1.out.size;have:=HGB.out;omega)));have y0:=(h1.out.keep hb2).cell' (i:=0) rfl;have y1:=(h1.out.keep hb2).cell' (i:=1) rfl;have hw2:=Lib.hid (HW.out.keep (by rw [HGB.out];exact hB2.out));have hG2:=Lib.hid (HG.out.below hB2.out (by have:=HG.out.2.1;have:=HGB.out;omega)))
  | (go_at_call 71;((with_reducible refine(D2.out _ hw2.out hG2.out).mono ?_));rintro e w3 ⟨rfl,hb3⟩))
 go_ret
 exact⟨rfl,by rw [HGB.out];exact hB2.out.trans (hb3.mono (by have:=hB2.out.size;have:=HGB.out;omega))⟩
end Go.Proofs.YtgbkbgiogdhnaaaGreatDoor
namespace Go.Proofs.YtgbkbgiogdhnaaaGreatDoor
open Go.RowKit
set_option maxRecDepth 20000 in
set_option maxHeartbeats 16000000 in
theorem cyclic_no {B g o c:Nat} {nodes:List GNode} (r:Nat) (hr:r<nodes.length) (hO:ChkOK nodes (r:Int)) (hchk:chkV nodes (r:Int)=0) (hU:UpI nodes) (hT:∀k,k<nodes.length→(ndAt nodes k).kind=10→SortN nodes (ndAt nodes k)) (w:World) (hw:LibE w) (hG:GRd w B g o nodes) :
  Calls Tryz.prog 41 #[.agg #[.slice (some ⟨g,o,none⟩) nodes.length c,.int .i64 (r:Int)]] w fun e w'=>e=.returned (.tuple #[.slice none 0 0,.bool false])∧Below w.heap.size w w':=by
 have h1:Hid (Arr (w.alloc (.cells #[.slice (some ⟨g,o,none⟩) nodes.length c,.int .i64 (r:Int)] 29)) w.heap.size 29 [.slice (some ⟨g,o,none⟩) nodes.length c,.int .i64 (r:Int)]):=Arr.new w _ _
 have hB1:Hid (Below w.heap.size w (w.alloc (.cells #[.slice (some ⟨g,o,none⟩) nodes.length c,.int .i64 (r:Int)] 29))):=(Below.refl _ _).alloc (Nat.le_refl _) _
 have HG:=Lib.hid hG
 have HW:=Lib.hid hw
 have hmf:∀(fn:Fn) (first cap:Array Value) (w:World),(Instr.makeFunc fn first cap).run Tryz.prog w=.ok (.func fn first cap) w:=fun _ _ _ _=>rfl
 have hN1:=hO.n1
 have DC:=Lib.hid (fun(w':World) (h:LibE w') (h':GRd w' B g o nodes)=>gcheck_any (c:=c) hO w' h h')
 rw [hchk] at DC
 have DV:Hid (∀(e:YB),VisY w w.heap.size g o c nodes (r:Int) e nodes.length):=fun e=>visitY_any (c:=c) (e:=e) hw rfl hU hO.nl (by omega) hT nodes.length
 clear hG hw hO hchk hU hT
 go_enter Tryz.func41,Tryz.ntmps41
 go_upto_region 1 with(fail)
 generalize w.alloc (.cells #[.slice (some ⟨g,o,none⟩) nodes.length c,.int .i64 (r:Int)] 29)=W at *
 obtain⟨n,hn⟩:∃n,nodes.length=n:=⟨_,rfl⟩
 obtain⟨gb,hgb⟩:∃b,w.heap.size=b:=⟨_,rfl⟩
 have hgbl:=h1.out.lt
 rw [hgb] at h1 hgbl hB1 ⊢
 rw [hn] at h1 hr hN1 DC
 have HN:=Lib.hid hn
 have HGB:=Lib.hid hgb
 clear hn hgb
 have x0:=h1.out.cell' (i:=0) rfl
 have x1:=h1.out.cell' (i:=1) rfl
 have hwW:=Lib.hid (HW.out.keep (by rw [HGB.out];exact hB1.out))
 have hGW:=Lib.hid (HG.out.below hB1.out (by have:=HG.out.2.1;have:=HGB.out;omega))
 go_upto_region 3 with(go_at_call 40;((with_reducible refine(DC.out _ hwW.out hGW.out).mono ?_));rintro e w1 ⟨rfl,hb1⟩)
 clear x0 x1 DC hwW hGW
 have hB1':=Lib.hid (hB1.out.trans (hb1.mono (by omega)))
 have h1':=Lib.hid (h1.out.keep hb1)
 have hs1:=hb1.size
 clear hB1 h1
 have x0:=h1'.out.cell' (i:=0) rfl
 go_upto_region 4 with(at_make;go_loud (refine wpList_mk rfl _ _ 41 rfl 3 _ _ Tryz.underlying41 infoInt rfl _ _ _ _ rfl rfl n n (by omega) (by omega) (by omega) (by omega) (by unfold maxLen;omega) ?_;intro sm w2 hsm hS hb2 hz2))
 clear x0
 have hX3:Hid (Arr (w2.alloc (.cells #[.slice (some ⟨sm,0,none⟩) n n] 41)) w2.heap.size 41 [.slice (some ⟨sm,0,none⟩) n n]):=Arr.new w2 _ _
 have hb3:Below w2.heap.size w2 (w2.alloc (.cells #[.slice (some ⟨sm,0,none⟩) n n] 41)):=(Below.refl _ _).alloc (Nat.le_refl _) _
 have l1:gb<sm:=by have:=hsm.out;omega
 have l2:sm<w2.heap.size:=hS.out.lt
 have hB3:=Lib.hid ((hB1'.out.trans (hb2.mono (by omega))).trans (hb3.mono (by omega)))
 have h3:=Lib.hid ((h1'.out.keep hb2).keep hb3)
 have hS3:Hid (Arr (w2.alloc (.cells #[.slice (some ⟨sm,0,none⟩) n n] 41)) sm 3 (I64 (List.replicate n 0))):=by rw [←I64_rep];exact hS.out.keep hb3
 clear hS hb2 hz2 hsm h1' hB1' hb1 hb3
 generalize (w2.alloc (.cells #[.slice (some ⟨sm,0,none⟩) n n] 41))=w3 at *
 obtain⟨st,hst⟩:∃b,w2.heap.size=b:=⟨_,rfl⟩
 rw [hst] at hX3 l2 ⊢
 clear hst
 have l3:st<w3.heap.size:=hX3.out.lt
 have hO4:Hid (Arr (w3.alloc (.cells #[.slice none 0 0] 41)) w3.heap.size 41 [.slice none 0 0]):=Arr.new w3 _ _
 have hb4:Below w3.heap.size w3 (w3.alloc (.cells #[.slice none 0 0] 41)):=(Below.refl _ _).alloc (Nat.le_refl _) _
 have hsz4:(w3.alloc (.cells #[.slice none 0 0] 41)).heap.size=w3.heap.size+1:=by simp
 have hO5:Hid (Arr ((w3.alloc (.cells #[.slice none 0 0] 41)).alloc (.cells #[.slice none 0 0] 41)) (w3.heap.size+1) 41 [.slice none 0 0]):=by rw [←hsz4];exact Arr.new _ _ _
 have hb5:Below w3.heap.size w3 ((w3.alloc (.cells #[.slice none 0 0] 41)).alloc (.cells #[.slice none 0 0] 41)):=hb4.alloc (by rw [hsz4];omega) _
 have hO45:Hid (Arr ((w3.alloc (.cells #[.slice none 0 0] 41)).alloc (.cells #[.slice none 0 0] 41)) w3.heap.size 41 [.slice none 0 0]):=hO4.out.alloc _
 have hB5:=Lib.hid (hB3.out.trans (hb5.mono (by omega)))
 have h5:=Lib.hid (h3.out.keep hb5)
 have hS5:=Lib.hid (hS3.out.keep hb5)
 have hX5:=Lib.hid (hX3.out.keep hb5)
 go_upto_region 5 with(fail)
 clear hB3 h3 hS3 hX3 hb4 hb5 hO4
 generalize ((w3.alloc (.cells #[.slice none 0 0] 41)).alloc (.cells #[.slice none 0 0] 41))=w5 at *
 clear hsz4
 obtain⟨pa,hpa⟩:∃b,w3.heap.size=b:=⟨_,rfl⟩
 rw [hpa] at hO5 hO45 l3 ⊢
 clear hpa
 have l5:pa+1<w5.heap.size:=hO5.out.lt
 have hV6:Hid (Arr (w5.alloc (.cells #[.nilFunc] 135)) w5.heap.size 135 [.nilFunc]):=Arr.new w5 _ _
 have hb6:Below w5.heap.size w5 (w5.alloc (.cells #[.nilFunc] 135)):=(Below.refl _ _).alloc (Nat.le_refl _) _
 have hB6:=Lib.hid (hB5.out.trans (hb6.mono (by omega)))
 have h6:=Lib.hid (h5.out.keep hb6)
 have hS6:=Lib.hid (hS5.out.keep hb6)
 have hX6:=Lib.hid (hX5.out.keep hb6)
 have hP6:=Lib.hid (hO45.out.keep hb6)
 have hF6:=Lib.hid (hO5.out.keep hb6)
 go_upto_region 6 with(fail)
 clear hB5 h5 hS5 hX5 hO45 hO5 hb6
 generalize (w5.alloc (.cells #[.nilFunc] 135))=w6 at *
 obtain⟨vi,hvi⟩:∃b,w5.heap.size=b:=⟨_,rfl⟩
 rw [hvi] at hV6 l5 ⊢
 clear hvi
 have l6:vi<w6.heap.size:=hV6.out.lt
 have z0:=hV6.out.cell' (i:=0) rfl
 have zf:=hV6.out.frozen 0
 have HFN:Hid (cycFn ⟨st,pa,gb,pa+1,vi,sm⟩=.func (.func 69) #[] #[.pointer (some ⟨st,0,none⟩),.pointer (some ⟨pa,0,none⟩),.pointer (some ⟨gb,0,none⟩),.pointer (some ⟨pa+1,0,none⟩),.pointer (some ⟨vi,0,none⟩)]):=rfl
 obtain⟨fv,hfv⟩:∃fv,fv=Value.func (.func 69) #[] #[.pointer (some ⟨st,0,none⟩),.pointer (some ⟨pa,0,none⟩),.pointer (some ⟨gb,0,none⟩),.pointer (some ⟨pa+1,0,none⟩),.pointer (some ⟨vi,0,none⟩)]:=⟨_,rfl⟩
 have hB8:Hid (Below gb w (w6.setCell ⟨vi,0,none⟩ fv)):=hB6.out.setCell (p:=⟨vi,0,none⟩) (show gb≤vi by omega) fv
 have hYE:Hid (YE w (w6.setCell ⟨vi,0,none⟩ fv) gb g o c nodes (r:Int) (fun b=>b=sm∨b=pa) ⟨st,pa,gb,pa+1,vi,sm⟩ (.slice none 0 0) (List.replicate n 0) []):={
  be:=hB8.out
  gd:=(HG.out.below hB8.out (by have:=HG.out.2.1;have:=HGB.out;omega)).up (by have:=HG.out.2.1;have:=HGB.out;omega) (by have:=hB8.out.size;have:=HGB.out;omega)
  st:=by rw [HN.out];exact hX6.out.far (p:=⟨vi,0,none⟩) (show st≠vi by omega) fv
  gr:=by rw [HN.out];exact h6.out.far (p:=⟨vi,0,none⟩) (show gb≠vi by omega) fv
  vi:=by rw [HFN.out,←hfv];exact hV6.out.store 0 fv
  sm:=hS6.out.far (p:=⟨vi,0,none⟩) (show sm≠vi by omega) fv
  pa:=hP6.out.far (p:=⟨vi,0,none⟩) (show pa≠vi by omega) fv
  fd:=hF6.out.far (p:=⟨vi,0,none⟩) (show pa+1≠vi by omega) fv
  ro:=World.ownsRow_nil _ _ _ _
  lo:=fun b hb=>by rcases hb with h | h <;> omega
  hi:=fun b hb=>by have:=hV6.out.lt;simp only [World.setCell,Array.size_modify];rcases hb with h | h <;> omega
  fr:=⟨fun h=>by rcases h with h | h <;> (simp only at h;omega),fun h=>by rcases h with h | h <;> (simp only at h;omega),fun h=>by rcases h with h | h <;> (simp only at h;omega),fun h=>by rcases h with h | h <;> (simp only at h;omega)⟩
  fw:=⟨.inl rfl,.inr rfl⟩
  fo:=fun b h=>by cases h
  d1:=fun h=>by cases h }
 subst hfv
 go_upto_region 7 with(fail)
 clear z0 zf hV6 h6 hS6 hX6 hP6 hF6 hmf HFN hB6
 generalize (w6.setCell ⟨vi,0,none⟩ (.func (.func 69) #[] #[.pointer (some ⟨st,0,none⟩),.pointer (some ⟨pa,0,none⟩),.pointer (some ⟨gb,0,none⟩),.pointer (some ⟨pa+1,0,none⟩),.pointer (some ⟨vi,0,none⟩)]))=w8 at *
 have v0:=hYE.out.vi.cell' (i:=0) rfl
 unfold cycFn at v0
 have g1:=hYE.out.gr.cell' (i:=1) rfl
 have D0:=DV.out ⟨st,pa,gb,pa+1,vi,sm⟩ r w8 (fun b=>b=sm∨b=pa) (.slice none 0 0) (List.replicate n 0) [] (by have:=HN.out;omega) (by have:=HN.out;omega) (by rw [List.length_replicate];exact HN.out.symm) (fun j _=>by rw [List.getD_eq_getElem?_getD,List.getElem?_replicate];split <;> simp) (by simp) (by rw [HGB.out];exact hYE.out)
 rw [HGB.out] at D0
 have D:=Lib.hid D0
 clear D0 DV
 go_upto_region 8 with(go_at_call 69;((with_reducible refine D.out.mono ?_));rintro e w9 ⟨rfl,F9,vp9,S9,hE9,hSl9,hS9,hSk9,hP9⟩)
 clear v0 g1 D hYE
 have o0:=hE9.out.fd.cell' (i:=0) rfl
 go_wp2_with (fail)
 go_ret2
 exact⟨rfl,by rw [HGB.out];exact hE9.out.be⟩
end Go.Proofs.YtgbkbgiogdhnaaaGreatDoor
