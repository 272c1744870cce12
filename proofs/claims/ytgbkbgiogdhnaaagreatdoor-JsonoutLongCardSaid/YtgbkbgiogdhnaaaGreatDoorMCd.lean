/- The walks of share's key and of the closure in it, at a node that is a leaf. -/
import Derived.Test.YtgbkbgiogdhnaaaGreatDoorMBa
import Derived.Test.YtgbkbgiogdhnaaaGreatDoorMCa
import Derived.Test.YtgbkbgiogdhnaaaGreatDoorMAa
import Derived.Deep.RegionHeld3
set_option linter.unusedVariables false
set_option linter.unusedSimpArgs false
set_option linter.defProp false
set_option linter.constructorNameAsVariable false
namespace Go.Proofs.YtgbkbgiogdhnaaaGreatDoor
open Go.RowKit
theorem infoNd:(Tryz.prog.info? 43).map (fun i=>(i.zero,i.size,i.bytes))=some (some (.agg #[.int .i64 0,.string ⟨#[]⟩,.bool false,.slice none 0 0,.slice none 0 0]),5,80):=by kernel_rfl
theorem szGr:(Tryz.prog.info? 29).map (·.size)=some 2:=by kernel_rfl
def kleafC (nd:GNode):List Value:=[.int .i64 nd.kind,.string (mks nd.text),.bool nd.ord,.slice none 0 0,.slice none 0 0]
theorem grd_one {w:World} {B nb c:Nat} {nd:GNode} (h:w.ownsRow B 43 5 (.slice (some ⟨nb,0,none⟩) 1 c) 1 (kleafC nd)) (h1:nd.keys = []) (h2:nd.items = []):GRd w w.heap.size nb 0 [nd]:=by
 refine⟨(h.lt nb rfl).2,Nat.le_refl _,fun i x hi=>?_⟩
 cases i with
 | succ i=>simp at hi
 | zero=>
  have hx:nd=x:=by simpa using hi
  subst hx
  refine⟨none,0,none,0,(own_cell1 h rfl).1,(own_cell1 h rfl).1,(own_cell1 h rfl).1,?_,?_,⟨?_,fun ad e=>by cases e⟩,?_,fun ad e=>by cases e⟩
  ·rw [h1];exact(own_cell1 h (i:=3) rfl).1
  ·rw [h2];exact(own_cell1 h (i:=4) rfl).1
  ·rw [h1];exact Rd.nil
  ·rw [h2];exact Rd.nil
def KeyC (w:World) (ob:Nat) (nd:GNode) (e:Ending) (w':World):Prop:=e=.returned (.int .i64 0)∧∃nb c',Hid (Arr w' ob 29 [.slice (some ⟨nb,0,none⟩) 1 c',.int .i64 0])∧w'.ownsRow w.heap.size 43 5 (.slice (some ⟨nb,0,none⟩) 1 c') 1 (kleafC nd)∧w.grownBy w' (some ob)
set_option maxRecDepth 20000 in
set_option maxHeartbeats 8000000 in
theorem key1_any {B g o c ob gb vb:Nat} {nodes:List GNode} {root:Int} (k:Nat) (hk:k<nodes.length) (h1:(ndAt nodes k).keys = []) (h2:(ndAt nodes k).items = []) (w:World) (hG:GRd w B g o nodes)
  (hgb:Arr w gb 29 [.slice (some ⟨g,o,none⟩) nodes.length c,.int .i64 root]) (hob:Arr w ob 29 [.slice none 0 0,.int .i64 0]) :
  Calls Tryz.prog 137 #[.int .i64 (k:Int),.pointer (some ⟨ob,0,none⟩),.pointer (some ⟨gb,0,none⟩),.pointer (some ⟨vb,0,none⟩)] w (KeyC w ob (ndAt nodes k)):=by
 obtain⟨K,ck,I,ci,c0,c1,c2,c3,c4,_,_⟩:=hG.of_at hk
 rw [h1] at c3
 rw [h2] at c4
 simp only [List.length_nil] at c3 c4
 have k0:(0:Int)≤k:=by omega
 have k1:(k:Int)<nodes.length:=by omega
 have x0:=hgb.cell' (i:=0) rfl
 have z0:=hob.cell' (i:=0) rfl
 have H1:=Lib.hid h1
 have H2:=Lib.hid h2
 generalize nodes.length=n at *
 generalize ndAt nodes k=nd at *
 have HOB:=Lib.hid hob
 have hobl:=hob.lt
 have hND:Hid (Arr (w.alloc (.cells #[.int .i64 nd.kind,.string (mks nd.text),.bool nd.ord,.slice K 0 ck,.slice I 0 ci] 43)) w.heap.size 43 [.int .i64 nd.kind,.string (mks nd.text),.bool nd.ord,.slice K 0 ck,.slice I 0 ci]):=Arr.new w _ _
 have hbn:Hid (Below w.heap.size w (w.alloc (.cells #[.int .i64 nd.kind,.string (mks nd.text),.bool nd.ord,.slice K 0 ck,.slice I 0 ci] 43))):=(Below.refl _ _).alloc (Nat.le_refl _) _
 clear h1 h2 hG hgb hob
 go_enter Tryz.func137,Tryz.ntmps137
 go_upto_region 3 with(fail)
 clear c0 c1 c2 c3 c4 x0 z0
 generalize (w.alloc (.cells #[.int .i64 nd.kind,.string (mks nd.text),.bool nd.ord,.slice K 0 ck,.slice I 0 ci] 43))=w1 at *
 have hob1:=Lib.hid (HOB.out.keep hbn.out)
 have z0:=hob1.out.cell' (i:=0) rfl
 have hb2:Hid (Below w1.heap.size w1 (w1.alloc (.cells (kleafC nd).toArray 43))):=(Below.refl _ _).alloc (Nat.le_refl _) _
 have hS:=World.ownsRow_nil (w1.alloc (.cells (kleafC nd).toArray 43)) w1.heap.size 43 5
 unfold kleafC at hS hb2
 obtain⟨eb,heb⟩:∃b,w.heap.size=b:=⟨_,rfl⟩
 rw [heb] at hND hobl hbn ⊢
 have hEB:=Lib.hid heb
 have l1:eb<w1.heap.size:=hND.out.lt
 have n0:=hND.out.cell' (i:=0) rfl
 have n1:=hND.out.cell' (i:=1) rfl
 have n2:=hND.out.cell' (i:=2) rfl
 clear heb
 go_upto_region 4 with(at_builtin;go_loud (refine wpList_apS rfl (.tmp 23) (.tmp 31) 27 rfl w1.heap.size 43 _ 5 _ Tryz.underlying27 infoNd rfl (by decide) _ 0 [] rfl hS ⟨w1.heap.size,0,none⟩ _ [.int .i64 nd.kind,.string (mks nd.text),.bool nd.ord,.slice none 0 0,.slice none 0 0] rfl rfl (cells_new _ _ _) rfl (by unfold maxLen;omega) (by omega) (by simp) ?_;intro v3 w3 hown3 hgr3 hat3;obtain⟨nb,c3,hv3,_,_⟩:=own_some hown3 (by decide);subst hv3;have hob3:=(hob1.out.keep hb2.out).grown (show(w1.alloc (.cells #[.int .i64 nd.kind,.string (mks nd.text),.bool nd.ord,.slice none 0 0,.slice none 0 0] 43)).grownBy w3 none from hgr3) (by simp);have p3:=hob3.cell' (i:=0) rfl;have q3:=hob3.frozen 0))
 have hg3:Hid ((w1.alloc (.cells #[.int .i64 nd.kind,.string (mks nd.text),.bool nd.ord,.slice none 0 0,.slice none 0 0] 43)).grownBy w3 none):=hgr3
 have hB3:Hid (Below w1.heap.size w1 w3):=hb2.out.grown hg3.out (by simp) (fun k e=>by cases e)
 have hown4:Hid ((w3.setCell ⟨ob,0,none⟩ (.slice (some ⟨nb,0,none⟩) 1 c3)).ownsRow w1.heap.size 43 5 (.slice (some ⟨nb,0,none⟩) 1 c3) 1 (kleafC nd)):=own_far (p:=⟨ob,0,none⟩) hown3 (own_arr hown3 hob3 (by decide)) _
 have hob4:Hid (Arr (w3.setCell ⟨ob,0,none⟩ (.slice (some ⟨nb,0,none⟩) 1 c3)) ob 29 [.slice (some ⟨nb,0,none⟩) 1 c3,.int .i64 0]):=hob3.store 0 _
 have hND4:=Lib.hid ((hND.out.keep hB3.out).far (p:=⟨ob,0,none⟩) (show eb≠ob by omega) (.slice (some ⟨nb,0,none⟩) 1 c3))
 have hg4:Hid (w.grownBy (w3.setCell ⟨ob,0,none⟩ (.slice (some ⟨nb,0,none⟩) 1 c3)) (some ob)):=by
  have h1:w.grownBy w1 (some ob):=⟨hbn.out.os,hbn.out.tape,hbn.out.output,hbn.out.size,fun j hj _=>hbn.out.block j (by rw [←hEB.out];exact hj)⟩
  have h2:w1.grownBy w3 (some ob):=⟨hB3.out.os,hB3.out.tape,hB3.out.output,hB3.out.size,fun j hj _=>hB3.out.block j hj⟩
  exact grown_trans (grown_trans h1 h2) (grown_set w3 ⟨ob,0,none⟩ _)
 have l2:w1.heap.size≤nb:=(hown4.out.lt nb rfl).1
 clear p3 q3 hob3 hgr3 hat3 hown3 hS hb2 n0 n1 n2 z0 hob1 hND hg3 hB3
 generalize (w3.setCell ⟨ob,0,none⟩ (.slice (some ⟨nb,0,none⟩) 1 c3))=w4 at *
 have n3:=hND4.out.cell' (i:=3) rfl
 have n4:=hND4.out.cell' (i:=4) rfl
 go_upto_region 6 with(fail)
 go_loop [8,37] (fun a v=>a=.slice none 0 0∧v=.int .i64 0) (fun _ _=>0)
 case atStart=>exact⟨rfl,rfl⟩
 case round=>
  obtain⟨rfl,rfl⟩:=hrel
  go_upto_region 11 with(fail)
  go_loop [9,51] (fun a v=>a=.slice none 0 0∧v=.int .i64 0) (fun _ _=>0)
  case atStart=>exact⟨rfl,rfl⟩
  case round=>
   obtain⟨rfl,rfl⟩:=hrel
   have z0:=hob4.out.cell' (i:=0) rfl
   have z0':w4.drew.cell? ⟨ob,0,none⟩=some (.slice (some ⟨nb,0,none⟩) 1 c3):=z0
   have t3:=own_cell1 hown4.out (i:=3) rfl
   have t4:=own_cell1 hown4.out (i:=4) rfl
   go_upto_region 15 with(fail)
   go_region
   have hown5:Hid (((w4.setCell ⟨nb,3,none⟩ (.slice none 0 0)).setCell ⟨nb,4,none⟩ (.slice none 0 0)).drew.ownsRow w1.heap.size 43 5 (.slice (some ⟨nb,0,none⟩) 1 c3) 1 (kleafC nd)):=own_set1 (own_set1 hown4.out 3 (.slice none 0 0)) 4 (.slice none 0 0)
   have hob5:Hid (Arr ((w4.setCell ⟨nb,3,none⟩ (.slice none 0 0)).setCell ⟨nb,4,none⟩ (.slice none 0 0)).drew ob 29 [.slice (some ⟨nb,0,none⟩) 1 c3,.int .i64 0]):=(hob4.out.far (p:=⟨nb,3,none⟩) (show ob≠nb by omega) (.slice none 0 0)).far (p:=⟨nb,4,none⟩) (show ob≠nb by omega) (.slice none 0 0)
   have hb5:Hid (Below w.heap.size w4 ((w4.setCell ⟨nb,3,none⟩ (.slice none 0 0)).setCell ⟨nb,4,none⟩ (.slice none 0 0)).drew):=(((Below.refl _ _).setCell (p:=⟨nb,3,none⟩) (show w.heap.size≤nb by have:=hEB.out;omega) (.slice none 0 0)).setCell (p:=⟨nb,4,none⟩) (show w.heap.size≤nb by have:=hEB.out;omega) (.slice none 0 0)).drew
   clear t3 t4 z0 z0' n3 n4 hob4 hown4 hND4
   generalize ((w4.setCell ⟨nb,3,none⟩ (.slice none 0 0)).setCell ⟨nb,4,none⟩ (.slice none 0 0)).drew=w5 at *
   have hg5:Hid (w.grownBy w5 (some ob)):=⟨hb5.out.os.trans hg4.out.os,hb5.out.tape.trans hg4.out.tape,hb5.out.output.trans hg4.out.output,Nat.le_trans hg4.out.size hb5.out.size,fun j hj hr=>(hb5.out.block j hj).trans (hg4.out.block j hj hr)⟩
   go_wp2_with (fail)
   go_ret
   exact⟨rfl,nb,c3,hob5,own_lo hown5.out (by have:=hEB.out;omega),hg5.out⟩
set_option maxRecDepth 20000 in
set_option maxHeartbeats 8000000 in
theorem key_any {B g o c:Nat} {nodes:List GNode} {root:Int} (k:Nat) (hk:k<nodes.length) (h1:(ndAt nodes k).keys = []) (h2:(ndAt nodes k).items = []) (w:World) (hG:GRd w B g o nodes) :
  Calls Tryz.prog 97 #[.agg #[.slice (some ⟨g,o,none⟩) nodes.length c,.int .i64 root],.int .i64 (k:Int)] w fun e w'=>∃nb c',e=.returned (.agg #[.slice (some ⟨nb,0,none⟩) 1 c',.int .i64 0])∧w'.ownsRow w.heap.size 43 5 (.slice (some ⟨nb,0,none⟩) 1 c') 1 (kleafC (ndAt nodes k))∧Below w.heap.size w w':=by
 have hmf:∀(fn:Fn) (first cap:Array Value) (w:World),(Instr.makeFunc fn first cap).run Tryz.prog w=.ok (.func fn first cap) w:=fun _ _ _ _=>rfl
 obtain⟨hg1,hr1,hb1,hz1⟩:=box2 w 29 29 [.slice (some ⟨g,o,none⟩) nodes.length c,.int .i64 root] [.slice none 0 0,.int .i64 0]
 have HG:=Lib.hid hG
 have HB1:=Lib.hid hb1
 clear hG hb1
 obtain⟨gb,hgb⟩:∃b,w.heap.size=b:=⟨_,rfl⟩
 obtain⟨rb,hrb⟩:∃b,w.heap.size+1=b:=⟨_,rfl⟩
 go_enter Tryz.func97,Tryz.ntmps97
 go_upto_region 1 with(fail)
 generalize ((w.alloc (.cells #[.slice (some ⟨g,o,none⟩) nodes.length c,.int .i64 root] 29)).alloc (.cells #[.slice none 0 0,.int .i64 0] 29))=w1 at *
 have hgb2:rb=gb+1:=by omega
 rw [hgb] at hg1 HB1
 rw [hrb] at hr1
 have HGB:=Lib.hid hgb
 have HRB:=Lib.hid hgb2
 have l1:rb<w1.heap.size:=hr1.out.lt
 have HZ1:=Lib.hid hz1.out
 rw [hgb] at HZ1
 try rw [hgb]
 rw [←hgb2]
 clear hgb hrb hgb2 hz1
 have hG1:=Lib.hid (HG.out.below HB1.out (by have:=HG.out.2.1;have:=HGB.out;omega))
 have ho2:Hid (Arr (w1.alloc (.cells #[.slice none 0 0,.int .i64 0] 29)) w1.heap.size 29 [.slice none 0 0,.int .i64 0]):=Arr.new w1 _ _
 have hb2:Hid (Below w1.heap.size w1 (w1.alloc (.cells #[.slice none 0 0,.int .i64 0] 29))):=(Below.refl _ _).alloc (Nat.le_refl _) _
 go_upto_region 2 with(fail)
 generalize (w1.alloc (.cells #[.slice none 0 0,.int .i64 0] 29))=w2 at *
 obtain⟨ob,hob⟩:∃b,w1.heap.size=b:=⟨_,rfl⟩
 rw [hob] at ho2 hb2 l1 ⊢
 have HOB:=Lib.hid hob
 clear hob
 have l2:ob<w2.heap.size:=ho2.out.lt
 have hg2:=Lib.hid (hg1.out.below hb2.out (by have:=HRB.out;omega))
 have hr2:=Lib.hid (hr1.out.below hb2.out l1)
 have HB2:=Lib.hid (HB1.out.trans (hb2.out.mono (by have:=HRB.out;omega)))
 have hv3:Hid (Arr (w2.alloc (.cells #[.nilFunc] 168)) w2.heap.size 168 [.nilFunc]):=Arr.new w2 _ _
 have hb3:Hid (Below w2.heap.size w2 (w2.alloc (.cells #[.nilFunc] 168))):=(Below.refl _ _).alloc (Nat.le_refl _) _
 go_upto_region 3 with(fail)
 generalize (w2.alloc (.cells #[.nilFunc] 168))=w3 at *
 obtain⟨vb,hvb⟩:∃b,w2.heap.size=b:=⟨_,rfl⟩
 rw [hvb] at hv3 hb3 l2 ⊢
 have HVB:=Lib.hid hvb
 clear hvb
 have z0:=hv3.out.cell' (i:=0) rfl
 have zf:=hv3.out.frozen 0
 have hg4:=Lib.hid ((hg2.out.below hb3.out (by have:=HRB.out;omega)).far (p:=⟨vb,0,none⟩) (show gb≠vb by have:=HRB.out;omega) (.func (.func 137) #[] #[.pointer (some ⟨ob,0,none⟩),.pointer (some ⟨gb,0,none⟩),.pointer (some ⟨vb,0,none⟩)]))
 have hr4:=Lib.hid ((hr2.out.below hb3.out (by omega)).far (p:=⟨vb,0,none⟩) (show rb≠vb by omega) (.func (.func 137) #[] #[.pointer (some ⟨ob,0,none⟩),.pointer (some ⟨gb,0,none⟩),.pointer (some ⟨vb,0,none⟩)]))
 have ho4:=Lib.hid ((ho2.out.below hb3.out (by omega)).far (p:=⟨vb,0,none⟩) (show ob≠vb by omega) (.func (.func 137) #[] #[.pointer (some ⟨ob,0,none⟩),.pointer (some ⟨gb,0,none⟩),.pointer (some ⟨vb,0,none⟩)]))
 have hv4:Hid (Arr (w3.setCell ⟨vb,0,none⟩ (.func (.func 137) #[] #[.pointer (some ⟨ob,0,none⟩),.pointer (some ⟨gb,0,none⟩),.pointer (some ⟨vb,0,none⟩)])) vb 168 [.func (.func 137) #[] #[.pointer (some ⟨ob,0,none⟩),.pointer (some ⟨gb,0,none⟩),.pointer (some ⟨vb,0,none⟩)]]):=hv3.out.store 0 _
 have HB4:=Lib.hid ((HB2.out.trans (hb3.out.mono (by have:=HRB.out;omega))).setCell (p:=⟨vb,0,none⟩) (show gb≤vb by have:=HRB.out;omega) (.func (.func 137) #[] #[.pointer (some ⟨ob,0,none⟩),.pointer (some ⟨gb,0,none⟩),.pointer (some ⟨vb,0,none⟩)]))
 go_upto_region 4 with(fail)
 clear z0 zf hv3 hg2 hr2 ho2 HB2 hb3 hg1 hr1 HB1 hb2 hmf
 generalize (w3.setCell ⟨vb,0,none⟩ (.func (.func 137) #[] #[.pointer (some ⟨ob,0,none⟩),.pointer (some ⟨gb,0,none⟩),.pointer (some ⟨vb,0,none⟩)]))=w4 at *
 have v0:=hv4.out.cell' (i:=0) rfl
 have hG4:=HG.out.below HB4.out (by have:=HG.out.2.1;have:=HGB.out;omega)
 have D:=Lib.hid (key1_any (vb:=vb) k hk h1 h2 w4 hG4 hg4.out ho4.out)
 have hs4:=HB4.out.size
 have hv4l:=hv4.out.lt
 clear hG4 hg4 ho4
 go_upto_region 5 with(go_at_call 137;((with_reducible refine D.out.mono ?_));rintro e w5 ⟨rfl,nb,c',hob5,hn5,hg5⟩)
 clear v0 D
 have hr5:=Lib.hid (hr4.out.grown hg5 (by intro e;have:=Option.some.inj e;omega))
 have HB5:Hid (Below gb w w5):=HB4.out.grown hg5 (by have:=HRB.out;omega) (fun k e=>by have:=Option.some.inj e;have:=HRB.out;omega)
 have o0:=hob5.out.cell' (i:=0) rfl
 have o1:=hob5.out.cell' (i:=1) rfl
 have HN5:=Lib.hid hn5
 have l5:=hr5.out.lt
 clear hn5 hr4 HB4 hv4
 go_wp2_with (((with_reducible show wpList _ _ _ (Oper.mk none (Op.store 29 (Operand.tmp 4) (Operand.tmp 11)) _ _ _ _ :: _) _ _);go_loud (refine wpList_sr rfl rfl 29 (.tmp 4) (.tmp 11) rfl rb [.slice (some ⟨nb,0,none⟩) 1 c',.int .i64 0] rfl rfl 29 _ hr5.out _ szGr (by first | rfl | simp) (by first | rfl | simp) (by first | rfl | simp [Value.oneCell']) ?_;intro w6 hr6 hg6 hz6)))
 have r0:=hr6.out.cell' (i:=0) rfl
 have r1:=hr6.out.cell' (i:=1) rfl
 refine bodyPost_ret (v:=.agg #[.slice (some ⟨nb,0,none⟩) 1 c',.int .i64 0]) (by simp [results,Tryz.results97,go_sem,r0,r1]) rfl ?_
 have hnl:=(HN5.out.lt nb rfl).1
 have hN6:=own_grown HN5.out hg6 (slice_ne (show nb≠rb by omega))
 exact⟨nb,c',rfl,own_lo hN6 (by have:=HGB.out;have:=HRB.out;omega),by rw [HGB.out];exact below_row HB5.out hg6 (by have:=HB5.out.size;have:=HGB.out;have:=HRB.out;omega) (by have:=HRB.out;omega)⟩
end Go.Proofs.YtgbkbgiogdhnaaaGreatDoor
