/- The walk of the closure 'step' in graph's components: an edge. -/
import Derived.Test.YtgbkbgiogdhnaaaGreatDoorMBd
import Derived.StillTailTactics
import Derived.Test.YtgbkbgiogdhnaaaGreatDoorMAg
import Derived.Maps.OwnOps
import Derived.Maps.Views
import Derived.StringKeys
set_option linter.unusedVariables false
set_option linter.unusedSimpArgs false
set_option linter.defProp false
set_option linter.constructorNameAsVariable false
namespace Go.Proofs.YtgbkbgiogdhnaaaGreatDoor
open Go.RowKit
def VisT (B g o c:Nat) (nodes:List GNode) (root:Int) (e:TB) (f:Nat):Prop:=∀(k:Nat) (w:World) (F:Nat→Prop) (vs vz:Value) (s s':TS),visitT nodes f (k:Int) s=some s'→k<nodes.length→gI s.index (k:Int)=0→TOK nodes.length s→TE w B g o c nodes root F e vs vz s →
 Calls Tryz.prog 135 #[.int .i64 (k:Int),.pointer (some ⟨e.nx,0,none⟩),.pointer (some ⟨e.ix,0,none⟩),.pointer (some ⟨e.lw,0,none⟩),.pointer (some ⟨e.st,0,none⟩),.pointer (some ⟨e.on_,0,none⟩),.pointer (some ⟨e.vi,0,none⟩),.pointer (some ⟨e.gr,0,none⟩),.pointer (some ⟨e.sz,0,none⟩),.pointer (some ⟨e.in_,0,none⟩)] w (TC w B g o c nodes root F e s')
theorem gI_nat (l:List Int) (k:Nat):gI l (k:Int)=l.getD k 0:=by unfold gI;rw [Int.toNat_natCast]
theorem sI_nat (l:List Int) (k:Nat) (v:Int):sI l (k:Int) v=l.set k v:=by unfold sI;rw [Int.toNat_natCast]
section
variable {w:World} {B g o c:Nat} {nodes:List GNode} {root:Int} {F:Nat→Prop} {e:TB} {vs vz:Value} {s:TS}
theorem TE.cell_im (h:TE w B g o c nodes root F e vs vz s) {k:Nat} (hk:k<s.index.length):w.cell? ⟨e.im,k,none⟩=some (.int .i64 (s.index.getD k 0)):=h.im.cell' (I64_getD hk)
theorem TE.cell_lm (h:TE w B g o c nodes root F e vs vz s) {k:Nat} (hk:k<s.low.length):w.cell? ⟨e.lm,k,none⟩=some (.int .i64 (s.low.getD k 0)):=h.lm.cell' (I64_getD hk)
theorem TE.cell_nm (h:TE w B g o c nodes root F e vs vz s) {k:Nat} (hk:k<s.inn.length):w.cell? ⟨e.nm,k,none⟩=some (.int .i64 (s.inn.getD k 0)):=h.nm.cell' (I64_getD hk)
theorem TE.cell_om (h:TE w B g o c nodes root F e vs vz s) {k:Nat} (hk:k<s.on.length):w.cell? ⟨e.om,k,none⟩=some (.bool (s.on.getD k false)):=h.om.cell' (Bs_get hk)
theorem TE.low_at (h:TE w B g o c nodes root F e vs vz s) (a:Nat) (v:Int):TE (w.setCell ⟨e.lm,a,none⟩ (.int .i64 v)).drew B g o c nodes root F e vs vz { s with low:=sI s.low (a:Int) v }∧PStep w (w.setCell ⟨e.lm,a,none⟩ (.int .i64 v)).drew F F:=by
 have hg:=grown_set w ⟨e.lm,a,none⟩ (.int .i64 v)
 have hb:Below (w.setCell ⟨e.lm,a,none⟩ (.int .i64 v)).heap.size (w.setCell ⟨e.lm,a,none⟩ (.int .i64 v)) (w.setCell ⟨e.lm,a,none⟩ (.int .i64 v)).drew:=(Below.refl _ _).drew
 refine⟨(h.set_lm (sI s.low (a:Int) v) hg ?_).kept hb,(pstep_grown hg h.fw.2.2.1).trans (PStep.of_below hb)⟩
 have h2:=h.lm.store a (.int .i64 v)
 rw [I64_set] at h2
 rw [sI_nat]
 exact h2
end
set_option maxRecDepth 20000 in
set_option maxHeartbeats 4000000 in
theorem step_any {B g o c:Nat} {nodes:List GNode} {root:Int} {e:TB} {f:Nat} (hv:VisT B g o c nodes root e f) (hI:Idx nodes) (a k ab:Nat) (ha:a<nodes.length) (hk:k<nodes.length) (w:World) (F:Nat→Prop) (vs vz:Value) (s s':TS) (h:stepT (visitT nodes f) (a:Int) (k:Int) s=some s') (hT:TOK nodes.length s)
  (hE:TE w B g o c nodes root F e vs vz s) (hA:Arr w ab 3 [.int .i64 (a:Int)]) (hab:¬F ab) :
  Calls Tryz.prog 136 #[.int .i64 (k:Int),.pointer (some ⟨e.ix,0,none⟩),.pointer (some ⟨e.vi,0,none⟩),.pointer (some ⟨e.lw,0,none⟩),.pointer (some ⟨ab,0,none⟩),.pointer (some ⟨e.on_,0,none⟩)] w (TC w B g o c nodes root F e s'):=by
 have hk0:(0:Int)≤k:=by omega
 have hk1:(k:Int)<nodes.length:=by omega
 have ha0:(0:Int)≤a:=by omega
 have ha1:(a:Int)<nodes.length:=by omega
 have x0:=hE.ix.cell' (i:=0) rfl
 have x1:=hE.cell_im (k:=k) (by rw [hT.li];exact hk)
 unfold stepT at h
 rw [gI_nat] at h
 by_cases h0:s.index.getD k 0=0
 ·rw [if_pos h0] at h
  rw [h0] at x1
  cases hs1:visitT nodes f (k:Int) s with
  | none=>rw [hs1] at h;cases h
  | some s1=>
   rw [hs1] at h
   have h':{ s1 with low:=sI s1.low (a:Int) (min (gI s1.low (a:Int)) (gI s1.low (k:Int))) } = s':=Option.some.inj h
   have hT1:=TOK.visit hI f (k:Int) s s1 ⟨by omega,by omega⟩ (by rw [gI_nat];exact h0) hT hs1
   have D:=Lib.hid (hv k w F vs vz s s1 hs1 hk (by rw [gI_nat];exact h0) hT hE)
   have v0:=hE.vi.cell' (i:=0) rfl
   unfold visitFn at v0
   have HS:=Lib.hid h'
   have hAl:=hA.lt
   clear h h' hs1 h0
   go_enter Tryz.func136,Tryz.ntmps136
   go_upto_region 2 with(go_at_call 135;((with_reducible refine D.out.mono ?_));rintro en w1 ⟨rfl,F1,vs1,vz1,hE1,hP1⟩)
   have hA1:=hP1.arr hA hab
   have hab1:=hP1.out hAl hab
   have y0:=hE1.out.lw.cell' (i:=0) rfl
   have y1:=hA1.cell' (i:=0) rfl
   have y2:=hE1.out.cell_lm (k:=a) (by rw [hT1.ll];exact ha)
   have y3:=hE1.out.cell_lm (k:=k) (by rw [hT1.ll];exact hk)
   have yf:=hE1.out.lm.frozen a
   have hfin:=Lib.hid (hE1.out.low_at a (min (gI s1.low (a:Int)) (gI s1.low (k:Int))))
   rw [gI_nat,gI_nat] at hfin HS
   clear x0 x1 v0 hA1
   generalize s1.low.getD a 0=la at *
   generalize s1.low.getD k 0=lk at *
   go_still_tail 12,(by kernel_rfl)
   go_wp2_with (fail)
   go_end0
   exact⟨rfl,F1,vs1,vz1,by rw [←HS.out];exact hfin.out.1,hP1.trans hfin.out.2⟩
 ·rw [if_neg h0] at h
  have z1:(s.index.getD k 0 == 0)=false:=by simpa using h0
  have x2:=hE.on_.cell' (i:=0) rfl
  have x3:=hE.cell_om (k:=k) (by rw [hT.lo];exact hk)
  rw [Int.toNat_natCast] at h
  by_cases ho:s.on.getD k false=true
  ·rw [if_pos ho] at h
   rw [ho] at x3
   have h':{ s with low:=sI s.low (a:Int) (min (gI s.low (a:Int)) (s.index.getD k 0)) } = s':=by
    exact Option.some.inj h
   have HS:=Lib.hid h'
   have y0:=hE.lw.cell' (i:=0) rfl
   have y1:=hA.cell' (i:=0) rfl
   have y2:=hE.cell_lm (k:=a) (by rw [hT.ll];exact ha)
   have yf:=hE.lm.frozen a
   have hfin:=Lib.hid (hE.low_at a (min (gI s.low (a:Int)) (s.index.getD k 0)))
   rw [gI_nat] at hfin HS
   clear h h' ho h0
   generalize s.low.getD a 0=la at *
   generalize s.index.getD k 0=lk at *
   go_enter Tryz.func136,Tryz.ntmps136
   go_upto_region 4 with(fail)
   go_still_tail 12,(by kernel_rfl)
   go_wp2_with (fail)
   go_end0
   exact⟨rfl,F,vs,vz,by rw [←HS.out];exact hfin.out.1,hfin.out.2⟩
  ·rw [if_neg ho] at h
   have ho':s.on.getD k false=false:=by simpa using ho
   rw [ho'] at x3
   obtain rfl:=Option.some.inj h
   have HE:=Lib.hid hE
   clear h ho ho' h0 hE
   generalize s.index.getD k 0=lk at *
   go_enter Tryz.func136,Tryz.ntmps136
   go_wp2_with (fail)
   go_end0
   exact⟨rfl,F,vs,vz,HE,PStep.of_below (Below.refl _ _)⟩
end Go.Proofs.YtgbkbgiogdhnaaaGreatDoor
namespace Go.Proofs.YtgbkbgiogdhnaaaGreatDoor
open Go.RowKit
def failE (x:PErr):Ending:=.panicked [{ v:=.iface 78 (.agg #[.int .i64 (x.1:Int),.int .i64 (x.2:Int)]),recovered:=false }]
theorem toksC_cons (t:JTok) (l:List JTok):toksC (t :: l)=tokC t ++ toksC l:=by simp [toksC]
section
variable {w:World} {B pb:Nat} {F:Nat→Prop} {k:PK} {A:Option Addr} {n c:Nat} {vn vs:Value} {ncs:List Value} {st:PSt}
theorem PMx.head (h:PMx w B pb F k A n c vn vs ncs st) {t:JTok} {r:List JTok} (hl:st.left=t :: r):∃g o,A=some ⟨g,o,none⟩∧w.cell? ⟨g,o,none⟩=some (.int .i64 (t.kind:Int))∧w.cell? ⟨g,o+1,none⟩=some (.int .i64 (t.from_:Int)) ∧
  w.cell? ⟨g,o+2,none⟩=some (.int .i64 (t.to_:Int))∧w.cell? ⟨g,o+3,none⟩=some (.string (mks t.text)):=by
 have ht:=h.tok
 rw [hl,toksC_cons] at ht
 obtain⟨ad,e,h0⟩:=ht 0 (.int .i64 (t.kind:Int)) rfl
 obtain⟨ad1,e1,h1⟩:=ht 1 (.int .i64 (t.from_:Int)) rfl
 obtain⟨ad2,e2,h2⟩:=ht 2 (.int .i64 (t.to_:Int)) rfl
 obtain⟨ad3,e3,h3⟩:=ht 3 (.string (mks t.text)) rfl
 obtain⟨⟨g,o,rfl⟩,_⟩:=h.tokA ad e
 subst e
 obtain rfl:=Option.some.inj e1
 obtain rfl:=Option.some.inj e2
 obtain rfl:=Option.some.inj e3
 rw [Addr.add_mid] at h0 h1 h2 h3
 exact⟨g,o,rfl,h0,h1,h2,h3⟩
end
set_option maxRecDepth 8000 in
set_option maxHeartbeats 2000000 in
theorem offset_any {w:World} {B pb:Nat} {F:Nat→Prop} {k:PK} {A:Option Addr} {n c:Nat} {vn vs:Value} {ncs:List Value} {st:PSt} (h:PMx w B pb F k A n c vn vs ncs st) :
  Calls Tryz.prog 55 #[.pointer (some ⟨pb,0,none⟩)] w fun e w'=>e=.returned (.int .i64 ((offV k.en st.left:Nat):Int))∧w=w':=by
 have c0:=h.par.cell' (i:=0) rfl
 have c1:=h.par.cell' (i:=1) rfl
 have hn:=h.len
 cases hl:st.left with
 | nil=>
  rw [hl] at hn
  subst hn
  clear hl
  go_enter Tryz.func55,Tryz.ntmps55
  go_wp2
  go_ret
  exact⟨rfl,rfl⟩
 | cons t r=>
  obtain⟨g,o,rfl,h0,h1,h2,h3⟩:=h.head hl
  rw [hl] at hn
  have hn0:0<n:=by rw [hn];simp
  have hn0':(0:Int)<n:=by omega
  have hn1:((n:Int) == 0)=false:=by simp;omega
  clear hl hn
  go_enter Tryz.func55,Tryz.ntmps55
  go_wp2
  go_ret
  exact⟨rfl,rfl⟩
set_option maxRecDepth 8000 in
set_option maxHeartbeats 4000000 in
theorem is_any {w:World} {B pb:Nat} {F:Nat→Prop} {k:PK} {A:Option Addr} {n c:Nat} {vn vs:Value} {ncs:List Value} {st:PSt} (h:PMx w B pb F k A n c vn vs ncs st) (hok:∀t∈st.left,TokOK t) (s:List Nat) (hs:By s) :
  Calls Tryz.prog 53 #[.pointer (some ⟨pb,0,none⟩),.string (mks s)] w fun e w'=>e=.returned (.bool (isV st.left s))∧w=w':=by
 have c0:=h.par.cell' (i:=0) rfl
 have hn:=h.len
 cases hl:st.left with
 | nil=>
  rw [hl] at hn
  subst hn
  clear hl
  go_enter Tryz.func53,Tryz.ntmps53
  go_wp2
  go_ret
  exact⟨rfl,rfl⟩
 | cons t r=>
  obtain⟨g,o,rfl,h0,h1,h2,h3⟩:=h.head hl
  have hok:=hok t (by rw [hl];simp)
  rw [hl] at hn
  have hn0:0<n:=by rw [hn];simp
  have hn0':(0:Int)<n:=by omega
  have hv:isV (t :: r) s=decide (t.kind=1∧t.text=s):=rfl
  rw [hv]
  have he:=eq_mks hok.1 hs
  clear hl hn hv
  by_cases hk:t.kind=1
  ·have hk':((t.kind:Int) == 1)=true:=by simp;omega
   have hd:decide (t.kind=1∧t.text=s)=decide (t.text=s):=by simp [hk]
   rw [hd]
   clear hd hk
   go_enter Tryz.func53,Tryz.ntmps53
   go_wp2
   go_ret
   exact⟨rfl,rfl⟩
  ·have hk':((t.kind:Int) == 1)=false:=by simp;omega
   have hd:decide (t.kind=1∧t.text=s)=false:=by simp [hk]
   rw [hd]
   clear hd hk he
   go_enter Tryz.func53,Tryz.ntmps53
   go_wp2
   go_ret
   exact⟨rfl,rfl⟩
set_option maxRecDepth 8000 in
set_option maxHeartbeats 2000000 in
theorem fail_any {w:World} {B pb:Nat} {F:Nat→Prop} {k:PK} {A:Option Addr} {n c:Nat} {vn vs:Value} {ncs:List Value} {st:PSt} (h:PMx w B pb F k A n c vn vs ncs st) (er:Nat) :
  Calls Tryz.prog 31 #[.pointer (some ⟨pb,0,none⟩),.int .i64 (er:Int)] w fun e w'=>e=failE (offV k.en st.left,er)∧w=w':=by
 have D:=Lib.hid (offset_any h)
 go_enter Tryz.func31,Tryz.ntmps31
 go_wp2_with (go_at_call 55;((with_reducible refine D.out.mono ?_));rintro e wn ⟨rfl,rfl⟩)
 exact⟨rfl,rfl,rfl⟩
theorem PMx.headR {w:World} {B pb:Nat} {F:Nat→Prop} {k:PK} {A:Option Addr} {n c:Nat} {vn vs:Value} {ncs:List Value} {st:PSt} (h:PMx w B pb F k A n c vn vs ncs st) {t:JTok} {r:List JTok} (hl:st.left=t :: r) :
  ∃g o,A=some ⟨g,o,none⟩∧w.rangeAt g o (tokC t):=by
 have ht:=h.tok
 rw [hl,toksC_cons] at ht
 obtain⟨ad,e,h0⟩:=ht 0 (.int .i64 (t.kind:Int)) rfl
 obtain⟨⟨g,o,rfl⟩,_⟩:=h.tokA ad e
 refine⟨g,o,e,fun j v hj=>?_⟩
 obtain⟨ad1,e1,h1⟩:=ht j v (by rw [List.getElem?_append_left (List.getElem?_eq_some_iff.1 hj).1];exact hj)
 subst e
 obtain rfl:=Option.some.inj e1
 rwa [Addr.add_mid] at h1
theorem PMx.tailRd {w:World} {B pb:Nat} {F:Nat→Prop} {k:PK} {A:Option Addr} {n c:Nat} {vn vs:Value} {ncs:List Value} {st:PSt} (h:PMx w B pb F k A n c vn vs ncs st) {t:JTok} {r:List JTok} (hl:st.left=t :: r) {g o:Nat} (hA:A=some ⟨g,o,none⟩) :
  Rd w (some (if c=1 then ⟨g,o,none⟩ else ⟨g,o+4,none⟩)) (toksC r):=by
 have ht:=h.tok
 rw [hl,toksC_cons] at ht
 by_cases hc:c=1
 ·have hn:=h.len
  have hnc:=h.nc
  rw [hl,List.length_cons] at hn
  have hr:r = []:=List.eq_nil_of_length_eq_zero (by omega)
  subst hr
  exact Rd.nil
 ·rw [if_neg hc]
  intro j u hj
  obtain⟨ad,e,hcell⟩:=ht (4+j) u (by rw [List.getElem?_append_right (by simp [tokC])];simpa [tokC] using hj)
  rw [hA] at e
  obtain rfl:=Option.some.inj e
  refine⟨_,rfl,?_⟩
  rw [Addr.add_mid] at hcell ⊢
  rw [Nat.add_assoc]
  exact hcell
def TakeR (w:World) (B pb:Nat) (F:Nat→Prop) (k:PK) (vn vs:Value) (ncs:List Value) (st:PSt) (t:JTok) (r:List JTok) (e:Ending) (w':World):Prop:=
 ∃A' n' c',e=.returned (.agg (tokC t).toArray)∧PMx w' B pb F k A' n' c' vn vs ncs { st with left:=r }∧PStep w w' F F
set_option maxRecDepth 8000 in
set_option maxHeartbeats 4000000 in
theorem take_any {w:World} {B pb:Nat} {F:Nat→Prop} {k:PK} {A:Option Addr} {n c:Nat} {vn vs:Value} {ncs:List Value} {st:PSt} (h:PMx w B pb F k A n c vn vs ncs st) {t:JTok} {r:List JTok} (hl:st.left=t :: r) :
  Calls Tryz.prog 58 #[.pointer (some ⟨pb,0,none⟩)] w (TakeR w B pb F k vn vs ncs st t r):=by
 obtain⟨g,o,rfl,hR⟩:=h.headR hl
 have htl:=h.tailRd hl rfl
 have hgl:g<w.heap.size:=h.tokLt _ rfl
 have hgF:¬F g:=(h.tokA _ rfl).2.1
 obtain⟨C,fz,hgb⟩:=(h.tokA _ rfl).2.2
 have hpl:=h.hi pb h.pF
 have hn:=h.len
 rw [hl] at hn
 have hn0:0<n:=by rw [hn];simp
 have hn0':(0:Int)<n:=by omega
 have hn1:(1:Int)≤n:=by omega
 have hnc:=h.nc
 have hcm:=h.cm
 unfold maxLen at hcm
 have HX:=Lib.hid (Arr.new w 118 zTok)
 have HBd:Below w.heap.size w (w.alloc (.cells #[.int .i64 0,.int .i64 0,.int .i64 0,.string ⟨#[]⟩] 118)):=(Below.refl _ _).alloc (Nat.le_refl _) _
 change Hid (Arr (w.alloc (.cells #[.int .i64 0,.int .i64 0,.int .i64 0,.string ⟨#[]⟩] 118)) w.heap.size 118 zTok) at HX
 have hlen:=h.len
 clear hn hlen
 go_enter Tryz.func58,Tryz.ntmps58
 go_upto_region 1 with(fail)
 have hlow:w.heap.size<(w.alloc (.cells #[.int .i64 0,.int .i64 0,.int .i64 0,.string ⟨#[]⟩] 118)).heap.size:=HX.out.lt
 have hW:=h.below HBd
 generalize (w.alloc (.cells #[.int .i64 0,.int .i64 0,.int .i64 0,.string ⟨#[]⟩] 118))=W at *
 have hRW:Hid (W.rangeAt g o (tokC t)):=fun j v hj=>(HBd.cell (p:=⟨g,o+j,none⟩) hgl).trans (hR j v hj)
 have X0:=Lib.hid (Arr.new W 118 zTok)
 have hX0:Below W.heap.size W (W.alloc (.cells #[.int .i64 0,.int .i64 0,.int .i64 0,.string ⟨#[]⟩] 118)):=(Below.refl _ _).alloc (Nat.le_refl _) _
 have c0:=hW.par.cell' (i:=0) rfl
 have htl':(tokC t).length=4:=rfl
 clear htl'
 go_upto_region 2 with(first | ((with_reducible show wpList _ _ _ (Oper.mk _ (Op.load 118 (Operand.tmp 8)) _ _ _ _ :: _) _ _);go_loud (refine wpList_load_mid rfl 118 (.tmp 8) rfl (g) (o) rfl (tokC t) _ (hRW.out) Tryz.underlying118 rfl Tryz.sz118 ?_)) | ((with_reducible show wpList _ _ _ (Oper.mk none (Op.store 118 (Operand.tmp 3) (Operand.tmp 9)) _ _ _ _ :: _) _ _);go_loud (refine wpList_sr rfl rfl 118 (.tmp 3) (.tmp 9) rfl (W.heap.size) (tokC t) rfl rfl 118 _ X0.out _ Tryz.sz118 (by first | rfl | simp) (by first | rfl | simp) (by first | rfl | simp [Value.oneCell']) ?_;intro w2 hr2 hg2 hz2)))
 clear c0
 have hb2:Below W.heap.size W w2:=Below.grown hX0 hg2 (by simp) (fun k e=>by have:=Option.some.inj e;omega)
 have hw2:=hW.below hb2
 have hlt2:W.heap.size<w2.heap.size:=hr2.out.lt
 have c0:=hw2.par.cell' (i:=0) rfl
 have f0:=hw2.par.frozen 0
 have hpl2:pb<W.heap.size:=Nat.lt_of_lt_of_le hpl HBd.size
 have hpne:pb≠W.heap.size:=by omega
 have hgne:g≠pb:=fun e=>hgF (by rw [e];exact h.pF)
 by_cases hc1:c=1
 ·rw [if_pos hc1] at htl
  go_upto_region 3 with(fail)
  have hp3:=hw2.par.store 0 (.slice (some ⟨g,o,none⟩) (n - 1) 0)
  have hw3:PMx (w2.setCell ⟨pb,0,none⟩ (.slice (some ⟨g,o,none⟩) (n - 1) 0)) B pb F k (some ⟨g,o,none⟩) (n - 1) 0 vn vs ncs { st with left:=r }:=
   hw2.put (by simp [World.setCell]) (fun i hi=>setCell_heap_ne _ _ _ hi) hp3 (by have:=h.len;rw [hl] at this;simp at this;show n - 1=r.length;omega) (by omega) (by unfold maxLen;omega)
    ((htl.keep HBd).keep hb2) (fun ad e=>by
     obtain rfl:=Option.some.inj e
     exact⟨⟨_,_,rfl⟩,hgF,C,fz,by rw [hb2.block g (by have:=HBd.size;show g<_;omega),HBd.block g hgl];exact hgb⟩)
    hw2.nod hw2.nodF hw2.nrd hw2.spn hw2.spnF
  have hr3:=Lib.hid (hr2.out.far (p:=⟨pb,0,none⟩) (by show W.heap.size≠pb;omega) (.slice (some ⟨g,o,none⟩) (n - 1) 0))
  have HX3:=Lib.hid (((HX.out.keep hb2).far (p:=⟨pb,0,none⟩) (by show w.heap.size≠pb;omega) (.slice (some ⟨g,o,none⟩) (n - 1) 0)))
  have hs3:PStep w (w2.setCell ⟨pb,0,none⟩ (.slice (some ⟨g,o,none⟩) (n - 1) 0)) F F:=by
   have hb:=HBd.trans (hb2.mono (by omega))
   exact⟨hb.os,hb.tape,hb.output,by simpa [World.setCell] using hb.size,fun i hi hF=>(setCell_heap_ne _ _ _ (fun e=>hF (by have:i=pb:=e;rw [this];exact h.pF))).trans (hb.block i hi),fun _ h=>.inl h⟩
  clear c0 f0 hp3
  generalize (w2.setCell ⟨pb,0,none⟩ (.slice (some ⟨g,o,none⟩) (n - 1) 0))=W3 at *
  go_wp2_with (first | ((with_reducible show wpList _ _ _ (Oper.mk _ (Op.load 118 (Operand.tmp 3)) _ _ _ _ :: _) _ _);go_loud (refine wpList_lr rfl 118 (.tmp 3) rfl (W.heap.size) (tokC t) rfl 118 hr3.out _ Tryz.underlying118 (by simp) _ Tryz.sz118 (by first | rfl | simp) ?_)) | ((with_reducible show wpList _ _ _ (Oper.mk none (Op.store 118 (Operand.tmp 2) (Operand.tmp 18)) _ _ _ _ :: _) _ _);go_loud (refine wpList_sr rfl rfl 118 (.tmp 2) (.tmp 18) rfl (w.heap.size) (tokC t) rfl rfl 118 _ HX3.out _ Tryz.sz118 (by first | rfl | simp) (by first | rfl | simp) (by first | rfl | simp [Value.oneCell']) ?_;intro w4 hr4 hg4 hz4)))
  have r0:=hr4.out.cell' (i:=0) rfl
  have r1:=hr4.out.cell' (i:=1) rfl
  have r2:=hr4.out.cell' (i:=2) rfl
  have r3:=hr4.out.cell' (i:=3) rfl
  refine bodyPost_ret (v:=.agg (tokC t).toArray) (by simp [results,Tryz.results58,go_sem,r0,r1,r2,r3];rfl) rfl ?_
  have hnF:¬F w.heap.size:=fun hf=>by have:=h.hi _ hf;omega
  refine⟨_,_,_,rfl,hw3.grown hg4 hnF (fun ad e=>by obtain rfl:=Option.some.inj e;show g≠w.heap.size;omega),?_⟩
  exact⟨hg4.os.trans hs3.os,hg4.tape.trans hs3.tape,hg4.output.trans hs3.output,Nat.le_trans hs3.size hg4.size,fun i hi hF=>(hg4.block i (Nat.lt_of_lt_of_le hi hs3.size) (by intro e;have:=Option.some.inj e;omega)).trans (hs3.keep i hi hF),fun _ h=>.inl h⟩
 ·rw [if_neg hc1] at htl
  go_upto_region 3 with(fail)
  have hp3:=hw2.par.store 0 (.slice (some ⟨g,o+4,none⟩) (n - 1) (c - 1))
  have hw3:PMx (w2.setCell ⟨pb,0,none⟩ (.slice (some ⟨g,o+4,none⟩) (n - 1) (c - 1))) B pb F k (some ⟨g,o+4,none⟩) (n - 1) (c - 1) vn vs ncs { st with left:=r }:=
   hw2.put (by simp [World.setCell]) (fun i hi=>setCell_heap_ne _ _ _ hi) hp3 (by have:=h.len;rw [hl] at this;simp at this;show n - 1=r.length;omega) (by omega) (by unfold maxLen;omega)
    ((htl.keep HBd).keep hb2) (fun ad e=>by
     obtain rfl:=Option.some.inj e
     exact⟨⟨_,_,rfl⟩,hgF,C,fz,by rw [hb2.block g (by have:=HBd.size;show g<_;omega),HBd.block g hgl];exact hgb⟩)
    hw2.nod hw2.nodF hw2.nrd hw2.spn hw2.spnF
  have hr3:=Lib.hid (hr2.out.far (p:=⟨pb,0,none⟩) (by show W.heap.size≠pb;omega) (.slice (some ⟨g,o+4,none⟩) (n - 1) (c - 1)))
  have HX3:=Lib.hid (((HX.out.keep hb2).far (p:=⟨pb,0,none⟩) (by show w.heap.size≠pb;omega) (.slice (some ⟨g,o+4,none⟩) (n - 1) (c - 1))))
  have hs3:PStep w (w2.setCell ⟨pb,0,none⟩ (.slice (some ⟨g,o+4,none⟩) (n - 1) (c - 1))) F F:=by
   have hb:=HBd.trans (hb2.mono (by omega))
   exact⟨hb.os,hb.tape,hb.output,by simpa [World.setCell] using hb.size,fun i hi hF=>(setCell_heap_ne _ _ _ (fun e=>hF (by have:i=pb:=e;rw [this];exact h.pF))).trans (hb.block i hi),fun _ h=>.inl h⟩
  clear c0 f0 hp3
  generalize (w2.setCell ⟨pb,0,none⟩ (.slice (some ⟨g,o+4,none⟩) (n - 1) (c - 1)))=W3 at *
  go_wp2_with (first | ((with_reducible show wpList _ _ _ (Oper.mk _ (Op.load 118 (Operand.tmp 3)) _ _ _ _ :: _) _ _);go_loud (refine wpList_lr rfl 118 (.tmp 3) rfl (W.heap.size) (tokC t) rfl 118 hr3.out _ Tryz.underlying118 (by simp) _ Tryz.sz118 (by first | rfl | simp) ?_)) | ((with_reducible show wpList _ _ _ (Oper.mk none (Op.store 118 (Operand.tmp 2) (Operand.tmp 18)) _ _ _ _ :: _) _ _);go_loud (refine wpList_sr rfl rfl 118 (.tmp 2) (.tmp 18) rfl (w.heap.size) (tokC t) rfl rfl 118 _ HX3.out _ Tryz.sz118 (by first | rfl | simp) (by first | rfl | simp) (by first | rfl | simp [Value.oneCell']) ?_;intro w4 hr4 hg4 hz4)))
  have r0:=hr4.out.cell' (i:=0) rfl
  have r1:=hr4.out.cell' (i:=1) rfl
  have r2:=hr4.out.cell' (i:=2) rfl
  have r3:=hr4.out.cell' (i:=3) rfl
  refine bodyPost_ret (v:=.agg (tokC t).toArray) (by simp [results,Tryz.results58,go_sem,r0,r1,r2,r3];rfl) rfl ?_
  have hnF:¬F w.heap.size:=fun hf=>by have:=h.hi _ hf;omega
  refine⟨_,_,_,rfl,hw3.grown hg4 hnF (fun ad e=>by obtain rfl:=Option.some.inj e;show g≠w.heap.size;omega),?_⟩
  exact⟨hg4.os.trans hs3.os,hg4.tape.trans hs3.tape,hg4.output.trans hs3.output,Nat.le_trans hs3.size hg4.size,fun i hi hF=>(hg4.block i (Nat.lt_of_lt_of_le hi hs3.size) (by intro e;have:=Option.some.inj e;omega)).trans (hs3.keep i hi hF),fun _ h=>.inl h⟩
end Go.Proofs.YtgbkbgiogdhnaaaGreatDoor
namespace Go.Proofs.YtgbkbgiogdhnaaaGreatDoor
open Go.RowKit
theorem Tryz.infoS43:(Tryz.prog.info? 43).map (fun i=>(i.zero,i.size,i.bytes))=some (some (.agg #[.int .i64 0,.string ⟨#[]⟩,.bool false,.slice none 0 0,.slice none 0 0]),5,80):=by kernel_rfl
theorem Tryz.infoS87:(Tryz.prog.info? 87).map (fun i=>(i.zero,i.size,i.bytes))=some (some (.agg #[.int .i64 0,.int .i64 0,.int .i64 0,.int .i64 0,.int .i64 0,.int .i64 0,.int .i64 0,.bool false,.bool false]),9,64):=by kernel_rfl
theorem Tryz.sz43:(Tryz.prog.info? 43).map (·.size)=some 5:=by kernel_rfl
def roomV (st:PSt) (d:Nat):Nat:=if 32<d then 5 else if 4096≤st.nodes.length then 7 else 0
def VoidR (w:World) (at_ er:Nat) (e:Ending) (w':World):Prop:=(if er=0 then e=.returned (.tuple #[]) else e=failE (at_,er))∧w=w'
theorem VoidR.ok {w:World} {a:Nat}:VoidR w a 0 (.returned (.tuple #[])) w:=⟨rfl,rfl⟩
theorem VoidR.bad {w:World} {a er:Nat} (h:er≠0):VoidR w a er (failE (a,er)) w:=⟨by rw [if_neg h],rfl⟩
theorem fail_h {w:World} {B pb:Nat} {F:Nat→Prop} {k:PK} {A:Option Addr} {n c:Nat} {vn vs:Value} {ncs:List Value} {st:PSt} (h:PMx w B pb F k A n c vn vs ncs st) (er:Nat) :
  Hid (Calls Tryz.prog 31 #[.pointer (some ⟨pb,0,none⟩),.int .i64 (er:Int)] w fun e w'=>e=failE (offV k.en st.left,er)∧w=w'):=fail_any h er
set_option maxRecDepth 8000 in
set_option maxHeartbeats 2000000 in
theorem room_any {w:World} {B pb:Nat} {F:Nat→Prop} {k:PK} {A:Option Addr} {n c:Nat} {vn vs:Value} {ncs:List Value} {st:PSt} (h:PMx w B pb F k A n c vn vs ncs st) (d:Nat) (hd:d≤1000) :
  Calls Tryz.prog 54 #[.pointer (some ⟨pb,0,none⟩),.int .i64 (d:Int)] w (VoidR w (offV k.en st.left) (roomV st d)):=by
 have D5:Hid (Calls Tryz.prog 31 #[.pointer (some ⟨pb,0,none⟩),.int .i64 5] w fun e w'=>e=failE (offV k.en st.left,5)∧w=w'):=fail_h h 5
 have D7:Hid (Calls Tryz.prog 31 #[.pointer (some ⟨pb,0,none⟩),.int .i64 7] w fun e w'=>e=failE (offV k.en st.left,7)∧w=w'):=fail_h h 7
 have c4:=h.par.cell' (i:=4) rfl
 obtain⟨An,cn,hvn,hnc,hcm⟩:=own_slice h.nod
 rw [hvn] at c4
 clear hvn
 generalize offV k.en st.left=at_ at *
 by_cases h1:32<d
 ·have hv:roomV st d=5:=by unfold roomV;rw [if_pos h1]
  rw [hv]
  have h1':(32:Int)<d:=by omega
  clear hv
  go_enter Tryz.func54,Tryz.ntmps54
  go_wp2_with (go_at_call 31;((with_reducible refine D5.out.mono ?_));rintro e wn ⟨he,rfl⟩;unfold failE at he;subst he)
  exact⟨rfl,VoidR.bad (er:=5) (by decide)⟩
 ·have h1':¬(32:Int)<d:=by omega
  by_cases h2:4096≤st.nodes.length
  ·have hv:roomV st d=7:=by unfold roomV;rw [if_neg h1,if_pos h2]
   rw [hv]
   have h2':(4096:Int)≤st.nodes.length:=by omega
   clear hv
   go_enter Tryz.func54,Tryz.ntmps54
   go_wp2_with (go_at_call 31;((with_reducible refine D7.out.mono ?_));rintro e wn ⟨he,rfl⟩;unfold failE at he;subst he)
   exact⟨rfl,VoidR.bad (er:=7) (by decide)⟩
  ·have hv:roomV st d=0:=by unfold roomV;rw [if_neg h1,if_neg h2]
   rw [hv]
   have h2':¬(4096:Int)≤st.nodes.length:=by omega
   clear hv
   go_enter Tryz.func54,Tryz.ntmps54
   go_wp2_with (fail)
   go_end0
   exact VoidR.ok
theorem intsRd_nil (w:World) (F:Nat→Prop):IntsRd w F none 0 []:=⟨rfl,Rd.nil,fun _ h=>by cases h⟩
def AddR (w:World) (B pb:Nat) (F:Nat→Prop) (k:PK) (A:Option Addr) (n c:Nat) (vs:Value) (st:PSt) (nd:GNode) (e:Ending) (w':World):Prop:=
 ∃F' vn' ncs',e=.returned (.int .i64 (st.nodes.length:Int))∧PMx w' B pb F' k A n c vn' vs ncs' { st with nodes:=st.nodes ++ [nd] }∧PStep w w' F F'∧(∀g,F g→F' g)
set_option maxRecDepth 8000 in
set_option maxHeartbeats 4000000 in
theorem add_any {w:World} {B pb:Nat} {F:Nat→Prop} {k:PK} {A:Option Addr} {n c:Nat} {vn vs:Value} {ncs:List Value} {st:PSt} (h:PMx w B pb F k A n c vn vs ncs st) (hm:st.nodes.length≤100000) (hBw:B≤w.heap.size) (kd:Int) (tx:List Nat) :
  Calls Tryz.prog 56 #[.pointer (some ⟨pb,0,none⟩),.agg #[.int .i64 kd,.string (mks tx),.bool false,.slice none 0 0,.slice none 0 0]] w (AddR w B pb F k A n c vs st ⟨kd,tx,false,[],[]⟩):=by
 have HX:=Lib.hid (Arr.new w 43 [.int .i64 kd,.string (mks tx),.bool false,.slice none 0 0,.slice none 0 0])
 have HBd:Below w.heap.size w (w.alloc (.cells #[.int .i64 kd,.string (mks tx),.bool false,.slice none 0 0,.slice none 0 0] 43)):=(Below.refl _ _).alloc (Nat.le_refl _) _
 change Hid (Arr (w.alloc (.cells #[.int .i64 kd,.string (mks tx),.bool false,.slice none 0 0,.slice none 0 0] 43)) w.heap.size 43 [.int .i64 kd,.string (mks tx),.bool false,.slice none 0 0,.slice none 0 0]) at HX
 go_enter Tryz.func56,Tryz.ntmps56
 go_upto_region 1 with(fail)
 have hlow:w.heap.size<(w.alloc (.cells #[.int .i64 kd,.string (mks tx),.bool false,.slice none 0 0,.slice none 0 0] 43)).heap.size:=HX.out.lt
 have hW:=h.below HBd
 generalize (w.alloc (.cells #[.int .i64 kd,.string (mks tx),.bool false,.slice none 0 0,.slice none 0 0] 43))=W at *
 have c4:=hW.par.cell' (i:=4) rfl
 have d4:=(hW.par.alloc (.cells #[.int .i64 kd,.string (mks tx),.bool false,.slice none 0 0,.slice none 0 0] 43)).cell' (i:=4) rfl
 have x0:=HX.out.cell' (i:=0) rfl
 have x1:=HX.out.cell' (i:=1) rfl
 have x2:=HX.out.cell' (i:=2) rfl
 have x3:=HX.out.cell' (i:=3) rfl
 have x4:=HX.out.cell' (i:=4) rfl
 have hPd:Arr W.drew pb 84 [.slice A n c,.int .i64 (k.en:Int),k.f,k.s,vn,k.r,vs,k.n]:=hW.par
 have hnpb:=own_arr hW.nod hW.par (by decide)
 have hownd:W.drew.ownsRow B 43 5 vn st.nodes.length ncs:=hW.nod
 go_region_law (refine step_apS rfl (.tmp 11) (.tmp 13) 27 rfl B 43 _ 5 _ Tryz.underlying27 Tryz.infoS43 rfl (by decide) _ st.nodes.length ncs rfl (hownd.alloc _) ⟨W.heap.size,0,none⟩ _ [.int .i64 kd,.string (mks tx),.bool false,.slice none 0 0,.slice none 0 0] rfl rfl (cells_new _ _ _) rfl (by unfold maxLen;omega) (by omega) (by simp;omega) ?_;intro v' w3 hown3 hgr3 hat3;obtain⟨A3,c3,rfl,hc3,hm3⟩:=own_slice hown3;have P3:=(hPd.alloc (.cells #[.int .i64 kd,.string (mks tx),.bool false,.slice none 0 0,.slice none 0 0] 43)).grown hgr3 (fun e=>hnpb e.symm);have p4:=P3.cell' (i:=4) rfl;have q4:=P3.frozen 4;have hgr3':(W.alloc (.cells #[.int .i64 kd,.string (mks tx),.bool false,.slice none 0 0,.slice none 0 0] 43)).drew.grownBy w3 vn.ownBlock:=hgr3;have hat3':(Value.slice A3 (st.nodes.length+1) c3).ownBlock=vn.ownBlock∨(Value.slice A3 (st.nodes.length+1) c3).ownBlock=some (W.alloc (.cells #[.int .i64 kd,.string (mks tx),.bool false,.slice none 0 0,.slice none 0 0] 43)).drew.heap.size:=hat3;clear hgr3 hat3)
 all_goals
  have hbw1:Below W.heap.size W (W.alloc (.cells #[.int .i64 kd,.string (mks tx),.bool false,.slice none 0 0,.slice none 0 0] 43)).drew:=((Below.refl _ _).alloc (Nat.le_refl _) _).drew
  have hnd:NodeRd W F [.int .i64 kd,.string (mks tx),.bool false,.slice none 0 0,.slice none 0 0] ⟨kd,tx,false,[],[]⟩:=⟨none,0,0,none,0,0,rfl,intsRd_nil _ _,intsRd_nil _ _⟩
  obtain⟨F',hP,hS,hF⟩:=hW.appendNode hbw1 hgr3' hown3 hat3' hnd
  have hc4:=hP.par.cell' (i:=4) rfl
  have hS2:PStep w (w3.setCell ⟨pb,4,none⟩ (.slice A3 (st.nodes.length+1) c3)) F F':=(PStep.of_below HBd).trans hS
  have hln:((st.nodes.length:Int)+1 - 1)=st.nodes.length:=by omega
  have hmn:(st.nodes.length:Int)≤100000:=by omega
  clear P3 p4 q4 c4 d4 x0 x1 x2 x3 x4 hPd hownd hgr3' hat3' hown3 hbw1 hnd hS hln HX
  generalize (w3.setCell ⟨pb,4,none⟩ (.slice A3 (st.nodes.length+1) c3))=W4 at *
  go_wp2
  go_ret
  exact⟨F',_,_,rfl,hP,hS2,hF⟩
end Go.Proofs.YtgbkbgiogdhnaaaGreatDoor
namespace Go.Proofs.YtgbkbgiogdhnaaaGreatDoor
open Go.RowKit
end Go.Proofs.YtgbkbgiogdhnaaaGreatDoor
namespace Go.Proofs.YtgbkbgiogdhnaaaGreatDoor
open Go.RowKit
def KeyMap (w:World) (b n:Nat) (ks:List (List Nat)):Prop:=
 ∃D:DataW Unit,w.ownsMap Tryz.prog 9 (plainElem Tryz.prog 4) b n D∧Maps.IsMap D∧∀key,By key→D.atKey (.string (u8s key)) (.lit (.bool false))=.lit (.bool (decide (key∈ks)))
theorem KeyMap.lt {w:World} {b n:Nat} {ks:List (List Nat)} (h:KeyMap w b n ks):b<w.heap.size:=by obtain⟨D,h1,_⟩:=h;exact h1.lt
theorem KeyMap.same {w w':World} {b n:Nat} {ks:List (List Nat)} (h:KeyMap w b n ks) (hs:w'.heap[b]? = w.heap[b]?):KeyMap w' b n ks:=by
 obtain⟨D,⟨es,clock,hb,hF,hn,hD⟩,h2,h3⟩:=h
 exact⟨D,⟨es,clock,hs.trans hb,hF,hn,hD⟩,h2,h3⟩
theorem KeyMap.made (w:World):KeyMap (w.alloc (.map #[] 0)) w.heap.size 0 []:=
 ⟨.map [],World.ownsMap_made w _ _ _,Maps.isMap_empty,fun key _=>by simp [DataW.atKey]⟩
section
variable {w:World} {ops:Array Oper} {rest:List Oper} {o:Oper} {a:Act} {Q:Exit→Act→World→Prop}
end
end Go.Proofs.YtgbkbgiogdhnaaaGreatDoor
