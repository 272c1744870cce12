/- graph's components in memory: the stack and the sizes grow; the stack shrinks. -/
import Derived.Test.YtnnnagnjikdnnaaGreatDoorMAn
import Derived.StillTailTactics
set_option linter.unusedVariables false
set_option linter.unusedSimpArgs false
set_option linter.defProp false
set_option linter.constructorNameAsVariable false
namespace Go.Proofs.YtnnnagnjikdnnaaGreatDoor
open Go.RowKit
section
variable {w w1 w3:World} {B g o c:Nat} {nodes:List GNode} {root:Int} {F:Nat→Prop} {e:TB} {vs vz v':Value} {s:TS}
theorem own_pop {w:World} {b:Nat} {t:TypeId} {A:Option Addr} {n cap:Nat} {xs:List Value} (h:w.ownsRow b t 1 (.slice A (n+1) cap) (n+1) xs):w.ownsRow b t 1 (.slice A n cap) n xs.dropLast:=by
  have hl:=h.1
  refine⟨by rw [List.length_dropLast];omega,.inr ?_⟩
  rcases h.2 with⟨_,h0⟩ | ⟨g,cp,cur,h1,h2,h3,h4,h5,h6,h7⟩
  · omega
  · injection h1 with e1 _ e3
    subst e1 e3
    refine⟨g,cap,cur,rfl,h2,h3,by omega,h5,h6,?_⟩
    rw [←h7,List.dropLast_eq_take,List.take_take]
    congr 1
    rw [List.length_take,Array.length_toList,h6]
    omega
theorem I64_append (a b:List Int):I64 (a ++ b)=I64 a ++ I64 b:=by simp [I64]
theorem I64_dropLast (a:List Int):I64 a.dropLast=(I64 a).dropLast:=by simp [I64]
theorem arr_row {b:Nat} {t:TypeId} {xs:List Value} {v:Value} (h:Arr w b t xs) (hb:Below w.heap.size w w1) (hg:w1.grownBy w3 v.ownBlock) (hn:v.ownBlock≠some b):Arr w3 b t xs:=(h.keep hb).grown hg (fun e=>hn e.symm)
theorem TE.push_st (h : TE w B g o c nodes root F e vs vz s) (x : Int) (hb : Below w.heap.size w w1) (hg : w1.grownBy w3 vs.ownBlock) (hown : w3.ownsRow B 3 1 v' (s.stack.length + 1) (I64 s.stack ++ [.int .i64 x])) (hat : v'.ownBlock = vs.ownBlock ∨ v'.ownBlock = some w1.heap.size) :
    ∃F',TE (w3.setCell ⟨e.st,0,none⟩ v') B g o c nodes root F' e v' vz { s with stack:=s.stack ++ [x] }∧PStep w (w3.setCell ⟨e.st,0,none⟩ v') F F'∧(∀b,F b→F' b):=by
  have hq:∀b,vs.ownBlock=some b→F b:=fun b hb'=>(h.fs b hb').1
  have hBw:B≤w1.heap.size:=Nat.le_trans h.gd.2.1 hb.size
  have hst:=arr_row h.st hb hg (row_ne h.rs h.st (by decide))
  have far:∀{b:Nat} {t:TypeId} {xs:List Value},Arr w b t xs→vs.ownBlock≠some b→b≠e.st→Arr (w3.setCell ⟨e.st,0,none⟩ v') b t xs:=fun ha hn hne=>(arr_row ha hb hg hn).far hne v'
  have hown4:(w3.setCell ⟨e.st,0,none⟩ v').ownsRow B 3 1 v' (s.stack ++ [x]).length (I64 (s.stack ++ [x])):=by
    rw [I64_append,List.length_append,List.length_singleton]
    exact own_far (p:=⟨e.st,0,none⟩) hown (own_arr hown hst (by decide)) v'
  have hss:(w3.setCell ⟨e.st,0,none⟩ v').heap.size=w3.heap.size:=by simp [World.setCell]
  have hsz:w.heap.size≤w3.heap.size:=Nat.le_trans hb.size hg.size
  have hvF:∀b,v'.ownBlock=some b→F b∨w.heap.size≤b:=fun b hb'=>by
    rcases hat with h1 | h1
    · exact .inl (hq b (h1▸hb'))
    · rw [h1] at hb'
      have:=Option.some.inj hb'
      have:=hb.size
      exact .inr (by omega)
  have hvold:∀b,b<w.heap.size→vs.ownBlock≠some b→v'.ownBlock≠some b:=fun b hl hn hb'=>by
    rcases hat with h1 | h1
    · exact hn (h1▸hb')
    · rw [h1] at hb'
      have:=Option.some.inj hb'
      have:=hb.size
      omega
  have hvne:∀b,vz.ownBlock=some b→v'.ownBlock≠some b:=fun b hb'=>hvold b (h.rz.lt b hb').2 ((fun k e'=>(h.fz k e').2.2.2.2.2) b hb')
  have hother:(w3.setCell ⟨e.st,0,none⟩ v').ownsRow B 3 1 vz s.sizes.length (I64 s.sizes):=own_same h.rz (fun b hb'=>by
    have hl:=(h.rz.lt b hb').2
    obtain⟨C,fz,hk⟩:=own_kind h.rz hb'
    refine(setCell_heap_ne _ _ _ ?_).trans ((hg.block b (Nat.lt_of_lt_of_le hl hb.size) (fun e'=>(fun k e'=>(h.fz k e').2.2.2.2.2) b hb' e'.symm)).trans (hb.block b hl))
    rintro rfl
    exact absurd (cells_kind hk h.st) (by decide))
  have hnew:∀b,v'.ownBlock=some b→(F b∨v'.ownBlock=some b)∧b≠e.nx∧b≠e.im∧b≠e.lm∧b≠e.nm:=fun b hb'=>by
    refine⟨.inr hb',?_,?_,?_,?_⟩
    · rintro rfl;exact hvold _ h.nx.lt (fun k=>((h.fs _ k).2.1 rfl)) hb'
    · rintro rfl;exact hvold _ h.im.lt (fun k=>((h.fs _ k).2.2.1 rfl)) hb'
    · rintro rfl;exact hvold _ h.lm.lt (fun k=>((h.fs _ k).2.2.2.1 rfl)) hb'
    · rintro rfl;exact hvold _ h.nm.lt (fun k=>((h.fs _ k).2.2.2.2 rfl)) hb'
  obtain⟨f1,f2,f3,f4,f5,f6⟩:=h.fr
  obtain⟨n1,n2,n3,n4,n5,n6,n7⟩:=h.fw
  refine⟨fun b=>F b∨v'.ownBlock=some b,?_,?_,fun b hF=>.inl hF⟩
  · exact { gd := by
              have h1:=h.gd.below hb h.gd.2.1
              have h2:GRd w3 B g o nodes:=⟨h1.1,Nat.le_trans h1.2.1 hg.size,fun i nd hi=>(h1.2.2 i nd hi).same h1.1 fun a ha u hu=>hg.cell hu (fun e'=>by have:=h.lo a.block (hq a.block e'.symm);omega)⟩
              exact h2.grown (grown_set w3 ⟨e.st,0,none⟩ v') (h.lo _ n6)
            ix:=far h.ix (fun k=>f1 (hq _ k)) (fun k=>f1 (k▸n6))
            lw:=far h.lw (fun k=>f2 (hq _ k)) (fun k=>f2 (k▸n6))
            in_:=far h.in_ (fun k=>f3 (hq _ k)) (fun k=>f3 (k▸n6))
            on_:=far h.on_ (fun k=>f4 (hq _ k)) (fun k=>f4 (k▸n6))
            vi:=far h.vi (fun k=>f5 (hq _ k)) (fun k=>f5 (k▸n6))
            gr:=far h.gr (fun k=>f6 (hq _ k)) (fun k=>f6 (k▸n6))
            nx:=far h.nx (fun k=>((h.fs _ k).2.1 rfl)) (kind_ne h.nx h.st (by decide))
            im:=far h.im (fun k=>((h.fs _ k).2.2.1 rfl)) (kind_ne h.im h.st (by decide))
            lm:=far h.lm (fun k=>((h.fs _ k).2.2.2.1 rfl)) (kind_ne h.lm h.st (by decide))
            nm:=far h.nm (fun k=>((h.fs _ k).2.2.2.2 rfl)) (kind_ne h.nm h.st (by decide))
            om:=far h.om (row_ne h.rs h.om (by decide)) (kind_ne h.om h.st (by decide))
            st:=hst.store 0 v'
            sz:=(arr_row h.sz hb hg (row_ne h.rs h.sz (by decide))).far (Ne.symm h.d2) v'
            rs:=hown4
            rz:=hother
            lo:=fun b hF=>hF.elim (h.lo b) (fun k=>(hown.lt b k).1)
            hi:=fun b hF=>by rw [hss];exact hF.elim (fun k=>Nat.lt_of_lt_of_le (h.hi b k) hsz) (fun k=>(hown.lt b k).2)
            fr:=⟨fun k=>k.elim f1 (hvold _ h.ix.lt (fun k=>f1 (hq _ k))),fun k=>k.elim f2 (hvold _ h.lw.lt (fun k=>f2 (hq _ k))),fun k=>k.elim f3 (hvold _ h.in_.lt (fun k=>f3 (hq _ k))),fun k=>k.elim f4 (hvold _ h.on_.lt (fun k=>f4 (hq _ k))),fun k=>k.elim f5 (hvold _ h.vi.lt (fun k=>f5 (hq _ k))),fun k=>k.elim f6 (hvold _ h.gr.lt (fun k=>f6 (hq _ k)))⟩
            fw:=⟨.inl n1,.inl n2,.inl n3,.inl n4,.inl n5,.inl n6,.inl n7⟩
            fs:=hnew
            fz:=fun b hb'=>by obtain⟨f1,f2,f3,f4,f5,f6⟩:=h.fz b hb';exact⟨.inl f1,f2,f3,f4,f5,fun hv=>hvne b hb' hv⟩
            d1:=h.d1
            d2:=h.d2 }
  · refine⟨hg.os.trans hb.os,hg.tape.trans hb.tape,hg.output.trans hb.output,by rw [hss];exact hsz,fun b hlt hF=>?_,fun b hF=>?_⟩
    · exact(setCell_heap_ne _ _ _ (by rintro rfl;exact hF n6)).trans ((hg.block b (Nat.lt_of_lt_of_le hlt hb.size) (fun e'=>hF (hq b e'.symm))).trans (hb.block b hlt))
    · exact hF.elim .inl (fun k=>hvF b k)
theorem TE.push_sz (h : TE w B g o c nodes root F e vs vz s) (x : Int) (hb : Below w.heap.size w w1) (hg : w1.grownBy w3 vz.ownBlock) (hown : w3.ownsRow B 3 1 v' (s.sizes.length + 1) (I64 s.sizes ++ [.int .i64 x])) (hat : v'.ownBlock = vz.ownBlock ∨ v'.ownBlock = some w1.heap.size) :
    ∃F',TE (w3.setCell ⟨e.sz,0,none⟩ v') B g o c nodes root F' e vs v' { s with sizes:=s.sizes ++ [x] }∧PStep w (w3.setCell ⟨e.sz,0,none⟩ v') F F'∧(∀b,F b→F' b):=by
  have hq:∀b,vz.ownBlock=some b→F b:=fun b hb'=>(h.fz b hb').1
  have hBw:B≤w1.heap.size:=Nat.le_trans h.gd.2.1 hb.size
  have hst:=arr_row h.sz hb hg (row_ne h.rz h.sz (by decide))
  have far:∀{b:Nat} {t:TypeId} {xs:List Value},Arr w b t xs→vz.ownBlock≠some b→b≠e.sz→Arr (w3.setCell ⟨e.sz,0,none⟩ v') b t xs:=fun ha hn hne=>(arr_row ha hb hg hn).far hne v'
  have hown4:(w3.setCell ⟨e.sz,0,none⟩ v').ownsRow B 3 1 v' (s.sizes ++ [x]).length (I64 (s.sizes ++ [x])):=by
    rw [I64_append,List.length_append,List.length_singleton]
    exact own_far (p:=⟨e.sz,0,none⟩) hown (own_arr hown hst (by decide)) v'
  have hss:(w3.setCell ⟨e.sz,0,none⟩ v').heap.size=w3.heap.size:=by simp [World.setCell]
  have hsz:w.heap.size≤w3.heap.size:=Nat.le_trans hb.size hg.size
  have hvF:∀b,v'.ownBlock=some b→F b∨w.heap.size≤b:=fun b hb'=>by
    rcases hat with h1 | h1
    · exact .inl (hq b (h1▸hb'))
    · rw [h1] at hb'
      have:=Option.some.inj hb'
      have:=hb.size
      exact .inr (by omega)
  have hvold:∀b,b<w.heap.size→vz.ownBlock≠some b→v'.ownBlock≠some b:=fun b hl hn hb'=>by
    rcases hat with h1 | h1
    · exact hn (h1▸hb')
    · rw [h1] at hb'
      have:=Option.some.inj hb'
      have:=hb.size
      omega
  have hvne:∀b,vs.ownBlock=some b→v'.ownBlock≠some b:=fun b hb'=>hvold b (h.rs.lt b hb').2 ((fun k e' h'=>(h.fz k h').2.2.2.2.2 e') b hb')
  have hother:(w3.setCell ⟨e.sz,0,none⟩ v').ownsRow B 3 1 vs s.stack.length (I64 s.stack):=own_same h.rs (fun b hb'=>by
    have hl:=(h.rs.lt b hb').2
    obtain⟨C,fz,hk⟩:=own_kind h.rs hb'
    refine(setCell_heap_ne _ _ _ ?_).trans ((hg.block b (Nat.lt_of_lt_of_le hl hb.size) (fun e'=>(fun k e' h'=>(h.fz k h').2.2.2.2.2 e') b hb' e'.symm)).trans (hb.block b hl))
    rintro rfl
    exact absurd (cells_kind hk h.sz) (by decide))
  have hnew:∀b,v'.ownBlock=some b→(F b∨v'.ownBlock=some b)∧b≠e.nx∧b≠e.im∧b≠e.lm∧b≠e.nm:=fun b hb'=>by
    refine⟨.inr hb',?_,?_,?_,?_⟩
    · rintro rfl;exact hvold _ h.nx.lt (fun k=>((h.fz _ k).2.1 rfl)) hb'
    · rintro rfl;exact hvold _ h.im.lt (fun k=>((h.fz _ k).2.2.1 rfl)) hb'
    · rintro rfl;exact hvold _ h.lm.lt (fun k=>((h.fz _ k).2.2.2.1 rfl)) hb'
    · rintro rfl;exact hvold _ h.nm.lt (fun k=>((h.fz _ k).2.2.2.2.1 rfl)) hb'
  obtain⟨f1,f2,f3,f4,f5,f6⟩:=h.fr
  obtain⟨n1,n2,n3,n4,n5,n6,n7⟩:=h.fw
  refine⟨fun b=>F b∨v'.ownBlock=some b,?_,?_,fun b hF=>.inl hF⟩
  · exact { gd := by
              have h1:=h.gd.below hb h.gd.2.1
              have h2:GRd w3 B g o nodes:=⟨h1.1,Nat.le_trans h1.2.1 hg.size,fun i nd hi=>(h1.2.2 i nd hi).same h1.1 fun a ha u hu=>hg.cell hu (fun e'=>by have:=h.lo a.block (hq a.block e'.symm);omega)⟩
              exact h2.grown (grown_set w3 ⟨e.sz,0,none⟩ v') (h.lo _ n7)
            ix:=far h.ix (fun k=>f1 (hq _ k)) (fun k=>f1 (k▸n7))
            lw:=far h.lw (fun k=>f2 (hq _ k)) (fun k=>f2 (k▸n7))
            in_:=far h.in_ (fun k=>f3 (hq _ k)) (fun k=>f3 (k▸n7))
            on_:=far h.on_ (fun k=>f4 (hq _ k)) (fun k=>f4 (k▸n7))
            vi:=far h.vi (fun k=>f5 (hq _ k)) (fun k=>f5 (k▸n7))
            gr:=far h.gr (fun k=>f6 (hq _ k)) (fun k=>f6 (k▸n7))
            nx:=far h.nx (fun k=>((h.fz _ k).2.1 rfl)) (kind_ne h.nx h.sz (by decide))
            im:=far h.im (fun k=>((h.fz _ k).2.2.1 rfl)) (kind_ne h.im h.sz (by decide))
            lm:=far h.lm (fun k=>((h.fz _ k).2.2.2.1 rfl)) (kind_ne h.lm h.sz (by decide))
            nm:=far h.nm (fun k=>((h.fz _ k).2.2.2.2.1 rfl)) (kind_ne h.nm h.sz (by decide))
            om:=far h.om (row_ne h.rz h.om (by decide)) (kind_ne h.om h.sz (by decide))
            st:=(arr_row h.st hb hg (row_ne h.rz h.st (by decide))).far h.d2 v'
            sz:=hst.store 0 v'
            rs:=hother
            rz:=hown4
            lo:=fun b hF=>hF.elim (h.lo b) (fun k=>(hown.lt b k).1)
            hi:=fun b hF=>by rw [hss];exact hF.elim (fun k=>Nat.lt_of_lt_of_le (h.hi b k) hsz) (fun k=>(hown.lt b k).2)
            fr:=⟨fun k=>k.elim f1 (hvold _ h.ix.lt (fun k=>f1 (hq _ k))),fun k=>k.elim f2 (hvold _ h.lw.lt (fun k=>f2 (hq _ k))),fun k=>k.elim f3 (hvold _ h.in_.lt (fun k=>f3 (hq _ k))),fun k=>k.elim f4 (hvold _ h.on_.lt (fun k=>f4 (hq _ k))),fun k=>k.elim f5 (hvold _ h.vi.lt (fun k=>f5 (hq _ k))),fun k=>k.elim f6 (hvold _ h.gr.lt (fun k=>f6 (hq _ k)))⟩
            fw:=⟨.inl n1,.inl n2,.inl n3,.inl n4,.inl n5,.inl n6,.inl n7⟩
            fs:=fun b hb'=>by obtain⟨f1,f2⟩:=h.fs b hb';exact⟨.inl f1,f2⟩
            fz:=fun b hb'=>by obtain⟨f1,f2,f3,f4,f5⟩:=hnew b hb';exact⟨f1,f2,f3,f4,f5,fun hv=>hvne b hv hb'⟩
            d1:=h.d1
            d2:=h.d2 }
  · refine⟨hg.os.trans hb.os,hg.tape.trans hb.tape,hg.output.trans hb.output,by rw [hss];exact hsz,fun b hlt hF=>?_,fun b hF=>?_⟩
    · exact(setCell_heap_ne _ _ _ (by rintro rfl;exact hF n7)).trans ((hg.block b (Nat.lt_of_lt_of_le hlt hb.size) (fun e'=>hF (hq b e'.symm))).trans (hb.block b hlt))
    · exact hF.elim .inl (fun k=>hvF b k)
theorem TE.pop_st {A : Option Addr} {n cap : Nat} (h : TE w B g o c nodes root F e (.slice A (n + 1) cap) vz s) (hn : s.stack.length = n + 1) :
    TE (w.setCell ⟨e.st,0,none⟩ (.slice A n cap)) B g o c nodes root F e (.slice A n cap) vz { s with stack:=s.stack.dropLast }:=by
  have hg:=grown_set w ⟨e.st,0,none⟩ (.slice A n cap)
  obtain⟨n1,n2,n3,n4,n5,n6⟩:=h.neF h.fw.2.2.2.2.2.1
  have hob:(Value.slice A n cap).ownBlock=(Value.slice A (n+1) cap).ownBlock:=by cases A <;> rfl
  have hown:(w.setCell ⟨e.st,0,none⟩ (.slice A n cap)).ownsRow B 3 1 (.slice A n cap) s.stack.dropLast.length (I64 s.stack.dropLast):=by
    have h1:=h.rs
    rw [hn] at h1
    rw [I64_dropLast,List.length_dropLast,hn]
    exact own_far (p:=⟨e.st,0,none⟩) (own_pop h1) (by rw [hob];exact row_ne h.rs h.st (by decide)) _
  exact { gd := h.gd.grown hg (h.lo _ h.fw.2.2.2.2.2.1)
          ix:=h.ix.grown hg (some_ne n1)
          lw:=h.lw.grown hg (some_ne n2)
          in_:=h.in_.grown hg (some_ne n3)
          on_:=h.on_.grown hg (some_ne n4)
          vi:=h.vi.grown hg (some_ne n5)
          gr:=h.gr.grown hg (some_ne n6)
          nx:=h.nx.grown hg (some_ne (kind_ne h.nx h.st (by decide)))
          im:=h.im.grown hg (some_ne (kind_ne h.im h.st (by decide)))
          lm:=h.lm.grown hg (some_ne (kind_ne h.lm h.st (by decide)))
          nm:=h.nm.grown hg (some_ne (kind_ne h.nm h.st (by decide)))
          om:=h.om.grown hg (some_ne (kind_ne h.om h.st (by decide)))
          st:=h.st.store 0 _
          sz:=h.sz.grown hg (some_ne (Ne.symm h.d2))
          rs:=hown
          rz:=row_grown h.rz hg (row_ne h.rz h.st (by decide))
          lo:=h.lo
          hi:=fun b hF=>Nat.lt_of_lt_of_le (h.hi b hF) hg.size
          fr:=h.fr
          fw:=h.fw
          fs:=by rw [hob];exact h.fs
          fz:=by rw [hob];exact h.fz
          d1:=h.d1
          d2:=h.d2 }
end
end Go.Proofs.YtnnnagnjikdnnaaGreatDoor
namespace Go.Proofs.YtnnnagnjikdnnaaGreatDoor
open Go.RowKit
def VisT (B g o c:Nat) (nodes:List GNode) (root:Int) (e:TB) (f:Nat):Prop:=∀(k:Nat) (w:World) (F:Nat→Prop) (vs vz:Value) (s s':TS),visitT nodes f (k:Int) s=some s'→k<nodes.length→gI s.index (k:Int)=0→TOK nodes.length s→TE w B g o c nodes root F e vs vz s →
 Calls Tryz.prog 116 #[.int .i64 (k:Int),.pointer (some ⟨e.nx,0,none⟩),.pointer (some ⟨e.ix,0,none⟩),.pointer (some ⟨e.lw,0,none⟩),.pointer (some ⟨e.st,0,none⟩),.pointer (some ⟨e.on_,0,none⟩),.pointer (some ⟨e.vi,0,none⟩),.pointer (some ⟨e.gr,0,none⟩),.pointer (some ⟨e.sz,0,none⟩),.pointer (some ⟨e.in_,0,none⟩)] w (TC w B g o c nodes root F e s')
theorem gI_nat (l:List Int) (k:Nat):gI l (k:Int)=l.getD k 0:=by unfold gI;rw [Int.toNat_natCast]
theorem sI_nat (l:List Int) (k:Nat) (v:Int):sI l (k:Int) v=l.set k v:=by unfold sI;rw [Int.toNat_natCast]
section
variable {w:World} {B g o c:Nat} {nodes:List GNode} {root:Int} {F:Nat→Prop} {e:TB} {vs vz:Value} {s:TS}
theorem TE.cell_im (h:TE w B g o c nodes root F e vs vz s) {k:Nat} (hk:k<s.index.length):w.cell? ⟨e.im,k,none⟩=some (.int .i64 (s.index.getD k 0)):=h.im.cell' (I64_getD hk)
theorem TE.cell_lm (h:TE w B g o c nodes root F e vs vz s) {k:Nat} (hk:k<s.low.length):w.cell? ⟨e.lm,k,none⟩=some (.int .i64 (s.low.getD k 0)):=h.lm.cell' (I64_getD hk)
theorem TE.cell_nm (h:TE w B g o c nodes root F e vs vz s) {k:Nat} (hk:k<s.inn.length):w.cell? ⟨e.nm,k,none⟩=some (.int .i64 (s.inn.getD k 0)):=h.nm.cell' (I64_getD hk)
theorem TE.cell_om (h:TE w B g o c nodes root F e vs vz s) {k:Nat} (hk:k<s.on.length):w.cell? ⟨e.om,k,none⟩=some (.bool (s.on.getD k false)):=h.om.cell' (Bs_get hk)
theorem TE.low_at (h:TE w B g o c nodes root F e vs vz s) (a:Nat) (v:Int):TE (w.setCell ⟨e.lm,a,none⟩ (.int .i64 v)).drew B g o c nodes root F e vs vz { s with low:=sI s.low (a:Int) v }∧PStep w (w.setCell ⟨e.lm,a,none⟩ (.int .i64 v)).drew F F:=by
 have hg:=grown_set w ⟨e.lm,a,none⟩ (.int .i64 v)
 have hb:Below (w.setCell ⟨e.lm,a,none⟩ (.int .i64 v)).heap.size (w.setCell ⟨e.lm,a,none⟩ (.int .i64 v)) (w.setCell ⟨e.lm,a,none⟩ (.int .i64 v)).drew:=(Below.refl _ _).drew
 refine⟨(h.set_lm (sI s.low (a:Int) v) hg ?_).kept hb,(pstep_grown hg h.fw.2.2.1).trans (PStep.of_below hb)⟩
 have h2:=h.lm.store a (.int .i64 v)
 rw [I64_set] at h2
 rw [sI_nat]
 exact h2
end
set_option maxRecDepth 20000 in
set_option maxHeartbeats 4000000 in
theorem step_any {B g o c:Nat} {nodes:List GNode} {root:Int} {e:TB} {f:Nat} (hv:VisT B g o c nodes root e f) (hI:Idx nodes) (a k ab:Nat) (ha:a<nodes.length) (hk:k<nodes.length) (w:World) (F:Nat→Prop) (vs vz:Value) (s s':TS) (h:stepT (visitT nodes f) (a:Int) (k:Int) s=some s') (hT:TOK nodes.length s)
  (hE:TE w B g o c nodes root F e vs vz s) (hA:Arr w ab 3 [.int .i64 (a:Int)]) (hab:¬F ab) :
  Calls Tryz.prog 117 #[.int .i64 (k:Int),.pointer (some ⟨e.ix,0,none⟩),.pointer (some ⟨e.vi,0,none⟩),.pointer (some ⟨e.lw,0,none⟩),.pointer (some ⟨ab,0,none⟩),.pointer (some ⟨e.on_,0,none⟩)] w (TC w B g o c nodes root F e s'):=by
 have hk0:(0:Int)≤k:=by omega
 have hk1:(k:Int)<nodes.length:=by omega
 have ha0:(0:Int)≤a:=by omega
 have ha1:(a:Int)<nodes.length:=by omega
 have x0:=hE.ix.cell' (i:=0) rfl
 have x1:=hE.cell_im (k:=k) (by rw [hT.li];exact hk)
 unfold stepT at h
 rw [gI_nat] at h
 by_cases h0:s.index.getD k 0=0
 ·rw [if_pos h0] at h
  rw [h0] at x1
  cases hs1:visitT nodes f (k:Int) s with
  | none=>rw [hs1] at h;cases h
  | some s1=>
   rw [hs1] at h
   have h':{ s1 with low:=sI s1.low (a:Int) (min (gI s1.low (a:Int)) (gI s1.low (k:Int))) } = s':=Option.some.inj h
   have hT1:=TOK.visit hI f (k:Int) s s1 ⟨by omega,by omega⟩ (by rw [gI_nat];exact h0) hT hs1
   have D:=Lib.hid (hv k w F vs vz s s1 hs1 hk (by rw [gI_nat];exact h0) hT hE)
   have v0:=hE.vi.cell' (i:=0) rfl
   unfold visitFn at v0
   have HS:=Lib.hid h'
   have hAl:=hA.lt
   clear h h' hs1 h0
   go_enter Tryz.func117,Tryz.ntmps117
   go_upto_region 2 with(go_at_call 116;((with_reducible refine D.out.mono ?_));rintro en w1 ⟨rfl,F1,vs1,vz1,hE1,hP1⟩)
   have hA1:=hP1.arr hA hab
   have hab1:=hP1.out hAl hab
   have y0:=hE1.out.lw.cell' (i:=0) rfl
   have y1:=hA1.cell' (i:=0) rfl
   have y2:=hE1.out.cell_lm (k:=a) (by rw [hT1.ll];exact ha)
   have y3:=hE1.out.cell_lm (k:=k) (by rw [hT1.ll];exact hk)
   have yf:=hE1.out.lm.frozen a
   have hfin:=Lib.hid (hE1.out.low_at a (min (gI s1.low (a:Int)) (gI s1.low (k:Int))))
   rw [gI_nat,gI_nat] at hfin HS
   clear x0 x1 v0 hA1
   generalize s1.low.getD a 0=la at *
   generalize s1.low.getD k 0=lk at *
   go_still_tail 12,(by kernel_rfl)
   go_wp2_with (fail)
   go_end0
   exact⟨rfl,F1,vs1,vz1,by rw [←HS.out];exact hfin.out.1,hP1.trans hfin.out.2⟩
 ·rw [if_neg h0] at h
  have z1:(s.index.getD k 0 == 0)=false:=by simpa using h0
  have x2:=hE.on_.cell' (i:=0) rfl
  have x3:=hE.cell_om (k:=k) (by rw [hT.lo];exact hk)
  rw [Int.toNat_natCast] at h
  by_cases ho:s.on.getD k false=true
  ·rw [if_pos ho] at h
   rw [ho] at x3
   have h':{ s with low:=sI s.low (a:Int) (min (gI s.low (a:Int)) (s.index.getD k 0)) } = s':=by
    exact Option.some.inj h
   have HS:=Lib.hid h'
   have y0:=hE.lw.cell' (i:=0) rfl
   have y1:=hA.cell' (i:=0) rfl
   have y2:=hE.cell_lm (k:=a) (by rw [hT.ll];exact ha)
   have yf:=hE.lm.frozen a
   have hfin:=Lib.hid (hE.low_at a (min (gI s.low (a:Int)) (s.index.getD k 0)))
   rw [gI_nat] at hfin HS
   clear h h' ho h0
   generalize s.low.getD a 0=la at *
   generalize s.index.getD k 0=lk at *
   go_enter Tryz.func117,Tryz.ntmps117
   go_upto_region 4 with(fail)
   go_still_tail 12,(by kernel_rfl)
   go_wp2_with (fail)
   go_end0
   exact⟨rfl,F,vs,vz,by rw [←HS.out];exact hfin.out.1,hfin.out.2⟩
  ·rw [if_neg ho] at h
   have ho':s.on.getD k false=false:=by simpa using ho
   rw [ho'] at x3
   obtain rfl:=Option.some.inj h
   have HE:=Lib.hid hE
   clear h ho ho' h0 hE
   generalize s.index.getD k 0=lk at *
   go_enter Tryz.func117,Tryz.ntmps117
   go_wp2_with (fail)
   go_end0
   exact⟨rfl,F,vs,vz,HE,PStep.of_below (Below.refl _ _)⟩
end Go.Proofs.YtnnnagnjikdnnaaGreatDoor
