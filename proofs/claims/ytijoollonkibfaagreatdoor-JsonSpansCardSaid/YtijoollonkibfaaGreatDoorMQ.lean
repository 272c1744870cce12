/- The walk of awake of the law on json. -/
import Derived.Test.YtijoollonkibfaaGreatDoorMP
import Derived.Test.YtijoollonkibfaaGreatDoorMO
set_option linter.unusedVariables false
set_option linter.unusedSimpArgs false
set_option linter.defProp false
set_option linter.constructorNameAsVariable false
namespace Go.Proofs.YtijoollonkibfaaGreatDoor
open Go.RowKit
theorem lit_src1:(⟨#[91,49,44,32,50,46,53,48,44,32,45,48,93]⟩:ByteArray)=mks src1:=by unfold src1 mks;rfl
theorem lit_src2:(⟨#[123,34,97,34,58,49,44,34,97,34,58,50,125]⟩:ByteArray)=mks src2:=by unfold src2 mks;rfl
theorem lit_25:(⟨#[50,53,101,45,49]⟩:ByteArray)=mks [50,53,101,45,49]:=by unfold mks;rfl
theorem good1_ok {o:Except PErr JDoc} (h:good1 o=true):∃D s n,o=.ok D∧D.spans.length=4∧D.spans[2]? = some s∧s.from_=4∧s.to_=8∧D.nodes[2]? = some n∧n.text = [50,53,101,45,49]:=by
 unfold good1 at h
 cases o with
 | error e=>cases h
 | ok D=>
  simp only [Bool.and_eq_true,decide_eq_true_eq] at h
  obtain⟨⟨h1,h2⟩,h3⟩:=h
  cases hs:D.spans[2]? with
  | none=>rw [hs] at h2;cases h2
  | some s=>
   cases hn:D.nodes[2]? with
   | none=>rw [hn] at h3;cases h3
   | some n=>
    rw [hs] at h2
    rw [hn] at h3
    simp only [Bool.and_eq_true,decide_eq_true_eq] at h2 h3
    exact⟨D,s,n,rfl,h1,hs,h2.1,h2.2,hn,h3⟩
theorem good2_ok {o:Except PErr JDoc} (h:good2 o=true):o=.error (7,8):=by
 unfold good2 at h
 cases o with
 | ok D=>cases h
 | error e=>simp only [decide_eq_true_eq] at h;rw [h]
theorem spansC_get {l:List JSpan} {k:Nat} {s:JSpan} (h:l[k]? = some s) (j:Nat) (hj:j<9):(spansC l)[k*9+j]? = (spanC s)[j]?:=by
 induction l generalizing k with
 | nil=>cases h
 | cons x t ih=>
  unfold spansC at ih ⊢
  rw [List.flatMap_cons]
  cases k with
  | zero=>
   have:x=s:=by simpa using h
   subst this
   rw [Nat.zero_mul,Nat.zero_add,List.getElem?_append_left (by simp [spanC];omega)]
  | succ k=>
   rw [List.getElem?_append_right (by simp [spanC];omega),show(k+1)*9+j - (spanC x).length=k*9+j by simp [spanC];omega]
   exact ih (by simpa using h)
set_option maxRecDepth 100000 in
set_option maxHeartbeats 4000000 in
theorem awake_true (w:World) (hw:LibOK w):Calls Tryz.prog 4 #[] w fun e w'=>e=.returned (.bool true)∧Below w.heap.size w w':=by
 have hsb1:By src1:=by intro c hc;simp [src1] at hc;omega
 have hsb2:By src2:=by intro c hc;simp [src2] at hc;omega
 have D1:=Lib.hid (jparse_any src1 hsb1 (by decide) w hw)
 obtain⟨D,s,n,hD,hlen,hs,hs1,hs2,hn,hnt⟩:=good1_ok src1_good
 rw [hD,←lit_src1] at D1
 have D2:=fun w2 hw2=>jparse_any src2 hsb2 (by decide) w2 hw2
 rw [good2_ok src2_good,←lit_src2] at D2
 have D2:=Lib.hid D2
 go_enter Tryz.func4,Tryz.ntmps4
 go_upto_region 2 with(first | (go_at_call 5;go_loud (refine D1.out.mono ?_;rintro e w3 ⟨hb3,vn,vs,vo,ncs,rfl,hN,hNr,hS,hT⟩;obtain⟨An,cn,hvn,_,_⟩:=own_slice0 hN (by have:=(List.getElem?_eq_some_iff.1 hn).1;omega);subst hvn;obtain⟨As,cs,hvs,_,_⟩:=own_slice0 hS (by omega);subst hvs;obtain⟨Ao,co,hvo,_,_⟩:=own_slice hT;subst hvo;have hX3:=Lib.hid (Arr.new w3 29 zDoc))) | ((with_reducible show wpList _ _ _ (Oper.mk none (Op.store 29 (Operand.tmp 1) (Operand.tmp 9)) _ _ _ _ :: _) _ _);go_loud (refine wpList_sr rfl rfl 29 (.tmp 1) (.tmp 9) rfl (w3.heap.size) [.int .i64 0,.string (mks src1),.slice (some ⟨An,0,none⟩) D.nodes.length cn,.int .i64 0,.slice (some ⟨As,0,none⟩) 4 cs,.slice Ao D.notes.length co] rfl rfl 29 _ hX3.out _ Tryz.sz29 (by first | rfl | simp) (by first | rfl | simp) (by first | rfl | simp [Value.oneCell']) ?_;intro w5 hr5 hg5 hz5)))
 have hb5:Below w3.heap.size w3 w5:=((Below.refl _ _).alloc (Nat.le_refl _) _).grown hg5 (by simp) (fun k e=>by have:=Option.some.inj e;omega)
 have hw5:LibOK w5:=hw.keep (hb3.trans (hb5.mono hb3.size))
 have hN5:=own_same hN (fun g hg=>hb5.block g (hN.lt g hg).2)
 have hS5:=own_same hS (fun g hg=>hb5.block g (hS.lt g hg).2)
 obtain⟨K1,nk,ck,I1,ni,ci,hcs,_,_⟩:=hNr.2 2 n hn
 obtain⟨_,e1,_,_,_⟩:=node_cells hcs
 have g3:=spansC_get hs 3 (by omega)
 have g4:=spansC_get hs 4 (by omega)
 rw [show(spanC s)[3]? = some (.int .i64 4) by simp [spanC,hs1]] at g3
 rw [show(spanC s)[4]? = some (.int .i64 8) by simp [spanC,hs2]] at g4
 rw [hnt,←lit_25] at e1
 have hB5:Below w.heap.size w w5:=hb3.trans (hb5.mono hb3.size)
 have D2':=Lib.hid (D2.out w5 hw5)
 clear D1 D2 hX3 hg5 hz5 hcs hNr hN hS hT
 obtain⟨z,hz⟩:∃z,w3.heap.size=z:=⟨_,rfl⟩
 rw [hz] at hr5 hb5 ⊢
 have hzl:z<w5.heap.size:=hr5.out.lt
 clear hz
 go_upto_region 3 with(first | (go_at_call 5;go_loud (refine D2'.out.mono ?_;rintro e w6 ⟨hb6,rfl⟩;have hX6:=Lib.hid (Arr.new w6 29 zDoc))) | ((with_reducible show wpList _ _ _ (Oper.mk none (Op.store 29 (Operand.tmp 4) (Operand.tmp 14)) _ _ _ _ :: _) _ _);go_loud (refine wpList_sr rfl rfl 29 (.tmp 4) (.tmp 14) rfl (w6.heap.size) zDoc rfl rfl 29 _ hX6.out _ Tryz.sz29 (by first | rfl | simp) (by first | rfl | simp) (by first | rfl | simp [Value.oneCell']) ?_;intro w8 hr8 hg8 hz8)))
 have hb8:Below w6.heap.size w6 w8:=((Below.refl _ _).alloc (Nat.le_refl _) _).grown hg8 (by simp) (fun k e=>by have:=Option.some.inj e;omega)
 have hb58:Below w5.heap.size w5 w8:=hb6.trans (hb8.mono hb6.size)
 have hr58:=Arr.keep hr5.out hb58
 have hN8:=own_same hN5 (fun g hg=>hb58.block g (hN5.lt g hg).2)
 have hS8:=own_same hS5 (fun g hg=>hb58.block g (hS5.lt g hg).2)
 have x4:=hr58.cell' (i:=4) rfl
 have x2:=hr58.cell' (i:=2) rfl
 have s3:=(own_cell hS8 g3).1
 have s4:=(own_cell hS8 g4).1
 have n1:=(own_cell hN8 e1).1
 have hnl:(2:Int)<D.nodes.length:=by have:=(List.getElem?_eq_some_iff.1 hn).1;omega
 have hsl:(D.spans.length:Int)=4:=by omega
 have hsl2:(2:Int)<D.spans.length:=by omega
 have hB8:Below w.heap.size w w8:=hB5.trans (hb58.mono hB5.size)
 clear hr5 hr8 hg8 hz8 hX6 hr58 hN8 hS8 hN5 hS5 hb58 hb8 hb6 D2'
 go_wp2
 go_ret
 exact⟨rfl,hB8⟩
end Go.Proofs.YtijoollonkibfaaGreatDoor
