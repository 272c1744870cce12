/- The walks of the closures in span's Check, where all is well. -/
import Derived.Test.YtijoollonkibfaaGreatDoorMGb
import Derived.Test.YtijoollonkibfaaGreatDoorMG
import Derived.Test.YtijoollonkibfaaGreatDoorMSa
import Derived.Test.YtijoollonkibfaaGreatDoorMSf
import Derived.Test.YtijoollonkibfaaGreatDoorMSc
import Derived.Test.YtijoollonkibfaaGreatDoorMQ
import Derived.Test.YtijoollonkibfaaGreatDoorMGk
import Derived.Test.YtijoollonkibfaaGreatDoorMSg
set_option linter.unusedVariables false
set_option linter.unusedSimpArgs false
set_option linter.defProp false
set_option linter.constructorNameAsVariable false
namespace Go.Proofs.YtijoollonkibfaaGreatDoor
open Go.RowKit
def YesR (k:Int) (w:World) (e:Ending) (w':World):Prop:=e=.returned (.tuple #[.bool true,.int .i64 k])∧Below w.heap.size w w'
set_option maxHeartbeats 2000000 in
theorem chk_1 {db:Nat} {d1 d2 d3 d4 d5:Value} (w:World) (h:Arr w db 29 [.int .i64 0,d1,d2,d3,d4,d5]):Calls Tryz.prog 12 #[.pointer (some ⟨db,0,none⟩)] w (YesR 1 w):=by
 have y0:=h.cell' (i:=0) rfl
 go_enter Tryz.func12,Tryz.ntmps12
 go_wp2_with (fail)
 refine bodyPost_ret (v:=.tuple #[.bool true,.int .i64 1]) (by simp [results,Tryz.results12]) rfl ?_
 exact⟨rfl,Below.refl _ _⟩
set_option maxHeartbeats 2000000 in
theorem chk_2 {db:Nat} {src:List Nat} {d0 d2 d3 d4 d5:Value} (w:World) (hl:src.length≤65536) (h:Arr w db 29 [d0,.string (mks src),d2,d3,d4,d5]):Calls Tryz.prog 13 #[.pointer (some ⟨db,0,none⟩)] w (YesR 6 w):=by
 have y1:=h.cell' (i:=1) rfl
 have hsz:(mks src).size=src.length:=size_mks _
 have hl':(src.length:Int)≤65536:=by omega
 go_enter Tryz.func13,Tryz.ntmps13
 go_wp2_with (fail)
 refine bodyPost_ret (v:=.tuple #[.bool true,.int .i64 6]) (by simp [results,Tryz.results13]) rfl ?_
 exact⟨rfl,Below.refl _ _⟩
set_option maxHeartbeats 2000000 in
theorem chk_3 {db:Nat} {d0 d1 d2 d3 d4 d5:Value} (w:World) (D:Calls Tryz.prog 15 #[.agg #[d0,d1,d2,d3,d4,d5]] w fun e w'=>e=.returned (.bool true)∧Below w.heap.size w w') (h:Arr w db 29 [d0,d1,d2,d3,d4,d5]):Calls Tryz.prog 14 #[.pointer (some ⟨db,0,none⟩)] w (YesR 3 w):=by
 have y0:=h.cell' (i:=0) rfl
 have y1:=h.cell' (i:=1) rfl
 have y2:=h.cell' (i:=2) rfl
 have y3:=h.cell' (i:=3) rfl
 have y4:=h.cell' (i:=4) rfl
 have y5:=h.cell' (i:=5) rfl
 have D':=Lib.hid D
 clear D
 go_enter Tryz.func14,Tryz.ntmps14
 go_wp2_with (go_at_call 15;((with_reducible refine D'.out.mono ?_));rintro e w2 ⟨rfl,hb2⟩)
 refine bodyPost_ret (v:=.tuple #[.bool true,.int .i64 3]) (by simp [results,Tryz.results14]) rfl ?_
 exact⟨rfl,hb2⟩
set_option maxHeartbeats 2000000 in
theorem chk_4 {db:Nat} {d0 d1 d2 d3 d4 d5:Value} (w:World) (D:Calls Tryz.prog 17 #[.agg #[d0,d1,d2,d3,d4,d5]] w fun e w'=>e=.returned (.bool true)∧Below w.heap.size w w') (h:Arr w db 29 [d0,d1,d2,d3,d4,d5]):Calls Tryz.prog 16 #[.pointer (some ⟨db,0,none⟩)] w (YesR 2 w):=by
 have y0:=h.cell' (i:=0) rfl
 have y1:=h.cell' (i:=1) rfl
 have y2:=h.cell' (i:=2) rfl
 have y3:=h.cell' (i:=3) rfl
 have y4:=h.cell' (i:=4) rfl
 have y5:=h.cell' (i:=5) rfl
 have D':=Lib.hid D
 clear D
 go_enter Tryz.func16,Tryz.ntmps16
 go_wp2_with (go_at_call 17;((with_reducible refine D'.out.mono ?_));rintro e w2 ⟨rfl,hb2⟩)
 refine bodyPost_ret (v:=.tuple #[.bool true,.int .i64 2]) (by simp [results,Tryz.results16]) rfl ?_
 exact⟨rfl,hb2⟩
set_option maxHeartbeats 2000000 in
theorem chk_5 {db:Nat} {d0 d1 d2 d3 d4 d5:Value} (w:World) (D:Calls Tryz.prog 19 #[.agg #[d0,d1,d2,d3,d4,d5]] w fun e w'=>e=.returned (.bool true)∧Below w.heap.size w w') (h:Arr w db 29 [d0,d1,d2,d3,d4,d5]):Calls Tryz.prog 18 #[.pointer (some ⟨db,0,none⟩)] w (YesR 17 w):=by
 have y0:=h.cell' (i:=0) rfl
 have y1:=h.cell' (i:=1) rfl
 have y2:=h.cell' (i:=2) rfl
 have y3:=h.cell' (i:=3) rfl
 have y4:=h.cell' (i:=4) rfl
 have y5:=h.cell' (i:=5) rfl
 have D':=Lib.hid D
 clear D
 go_enter Tryz.func18,Tryz.ntmps18
 go_wp2_with (go_at_call 19;((with_reducible refine D'.out.mono ?_));rintro e w2 ⟨rfl,hb2⟩)
 refine bodyPost_ret (v:=.tuple #[.bool true,.int .i64 17]) (by simp [results,Tryz.results18]) rfl ?_
 exact⟨rfl,hb2⟩
end Go.Proofs.YtijoollonkibfaaGreatDoor
namespace Go.Proofs.YtijoollonkibfaaGreatDoor
open Go.RowKit
theorem check_ix0 (gb:Nat) (w:World):(Instr.index 56 (.agg #[.func (.func 12) #[] #[.pointer (some ⟨gb,0,none⟩)],.func (.func 13) #[] #[.pointer (some ⟨gb,0,none⟩)],.func (.func 14) #[] #[.pointer (some ⟨gb,0,none⟩)],.func (.func 16) #[] #[.pointer (some ⟨gb,0,none⟩)],.func (.func 18) #[] #[.pointer (some ⟨gb,0,none⟩)]]) (.int .i64 0)).run Tryz.prog w=.ok (.func (.func 12) #[] #[.pointer (some ⟨gb,0,none⟩)]) w:=by kernel_rfl
theorem check_ix1 (gb:Nat) (w:World):(Instr.index 56 (.agg #[.func (.func 12) #[] #[.pointer (some ⟨gb,0,none⟩)],.func (.func 13) #[] #[.pointer (some ⟨gb,0,none⟩)],.func (.func 14) #[] #[.pointer (some ⟨gb,0,none⟩)],.func (.func 16) #[] #[.pointer (some ⟨gb,0,none⟩)],.func (.func 18) #[] #[.pointer (some ⟨gb,0,none⟩)]]) (.int .i64 1)).run Tryz.prog w=.ok (.func (.func 13) #[] #[.pointer (some ⟨gb,0,none⟩)]) w:=by kernel_rfl
theorem check_ix2 (gb:Nat) (w:World):(Instr.index 56 (.agg #[.func (.func 12) #[] #[.pointer (some ⟨gb,0,none⟩)],.func (.func 13) #[] #[.pointer (some ⟨gb,0,none⟩)],.func (.func 14) #[] #[.pointer (some ⟨gb,0,none⟩)],.func (.func 16) #[] #[.pointer (some ⟨gb,0,none⟩)],.func (.func 18) #[] #[.pointer (some ⟨gb,0,none⟩)]]) (.int .i64 2)).run Tryz.prog w=.ok (.func (.func 14) #[] #[.pointer (some ⟨gb,0,none⟩)]) w:=by kernel_rfl
theorem check_ix3 (gb:Nat) (w:World):(Instr.index 56 (.agg #[.func (.func 12) #[] #[.pointer (some ⟨gb,0,none⟩)],.func (.func 13) #[] #[.pointer (some ⟨gb,0,none⟩)],.func (.func 14) #[] #[.pointer (some ⟨gb,0,none⟩)],.func (.func 16) #[] #[.pointer (some ⟨gb,0,none⟩)],.func (.func 18) #[] #[.pointer (some ⟨gb,0,none⟩)]]) (.int .i64 3)).run Tryz.prog w=.ok (.func (.func 16) #[] #[.pointer (some ⟨gb,0,none⟩)]) w:=by kernel_rfl
theorem check_ix4 (gb:Nat) (w:World):(Instr.index 56 (.agg #[.func (.func 12) #[] #[.pointer (some ⟨gb,0,none⟩)],.func (.func 13) #[] #[.pointer (some ⟨gb,0,none⟩)],.func (.func 14) #[] #[.pointer (some ⟨gb,0,none⟩)],.func (.func 16) #[] #[.pointer (some ⟨gb,0,none⟩)],.func (.func 18) #[] #[.pointer (some ⟨gb,0,none⟩)]]) (.int .i64 4)).run Tryz.prog w=.ok (.func (.func 18) #[] #[.pointer (some ⟨gb,0,none⟩)]) w:=by kernel_rfl
set_option maxRecDepth 20000 in
set_option maxHeartbeats 8000000 in
theorem spanCheck_ok {src:List Nat} {d2 d3 d4 d5:Value} (w:World) (hl:src.length≤65536)
  (D3:∀w',Below w.heap.size w w'→Calls Tryz.prog 15 #[.agg #[.int .i64 0,.string (mks src),d2,d3,d4,d5]] w' fun e w''=>e=.returned (.bool true)∧Below w'.heap.size w' w'')
  (D4:∀w',Below w.heap.size w w'→Calls Tryz.prog 17 #[.agg #[.int .i64 0,.string (mks src),d2,d3,d4,d5]] w' fun e w''=>e=.returned (.bool true)∧Below w'.heap.size w' w'')
  (D5:∀w',Below w.heap.size w w'→Calls Tryz.prog 19 #[.agg #[.int .i64 0,.string (mks src),d2,d3,d4,d5]] w' fun e w''=>e=.returned (.bool true)∧Below w'.heap.size w' w'') :
  Calls Tryz.prog 6 #[.agg #[.int .i64 0,.string (mks src),d2,d3,d4,d5]] w fun e w'=>e=.returned (.int .i64 0)∧Below w.heap.size w w':=by
 have h1:Hid (Arr (w.alloc (.cells #[.int .i64 0,.string (mks src),d2,d3,d4,d5] 29)) w.heap.size 29 [.int .i64 0,.string (mks src),d2,d3,d4,d5]):=Arr.new w _ _
 have hB1:Hid (Below w.heap.size w (w.alloc (.cells #[.int .i64 0,.string (mks src),d2,d3,d4,d5] 29))):=(Below.refl _ _).alloc (Nat.le_refl _) _
 have hmf:∀(fn:Fn) (first cap:Array Value) (w:World),(Instr.makeFunc fn first cap).run Tryz.prog w=.ok (.func fn first cap) w:=fun _ _ _ _=>rfl
 have H3:=Lib.hid D3
 have H4:=Lib.hid D4
 have H5:=Lib.hid D5
 clear D3 D4 D5
 go_enter Tryz.func6,Tryz.ntmps6
 go_upto_region 1 with(fail)
 generalize w.alloc (.cells #[.int .i64 0,.string (mks src),d2,d3,d4,d5] 29)=W at *
 obtain⟨gb,hgb⟩:∃b,w.heap.size=b:=⟨_,rfl⟩
 have hgbl:=h1.out.lt
 rw [hgb] at h1 hgbl hB1 ⊢
 rw [hgb] at H3 H4 H5
 have HGB:=Lib.hid hgb
 clear hgb
 go_upto_region 2 with(fail)
 have hF:Hid (Arr (W.alloc (.cells #[.func (.func 12) #[] #[.pointer (some ⟨gb,0,none⟩)],.func (.func 13) #[] #[.pointer (some ⟨gb,0,none⟩)],.func (.func 14) #[] #[.pointer (some ⟨gb,0,none⟩)],.func (.func 16) #[] #[.pointer (some ⟨gb,0,none⟩)],.func (.func 18) #[] #[.pointer (some ⟨gb,0,none⟩)]] 56)) W.heap.size 56 [.func (.func 12) #[] #[.pointer (some ⟨gb,0,none⟩)],.func (.func 13) #[] #[.pointer (some ⟨gb,0,none⟩)],.func (.func 14) #[] #[.pointer (some ⟨gb,0,none⟩)],.func (.func 16) #[] #[.pointer (some ⟨gb,0,none⟩)],.func (.func 18) #[] #[.pointer (some ⟨gb,0,none⟩)]]):=Arr.new W _ _
 have hbf:Hid (Below W.heap.size W (W.alloc (.cells #[.func (.func 12) #[] #[.pointer (some ⟨gb,0,none⟩)],.func (.func 13) #[] #[.pointer (some ⟨gb,0,none⟩)],.func (.func 14) #[] #[.pointer (some ⟨gb,0,none⟩)],.func (.func 16) #[] #[.pointer (some ⟨gb,0,none⟩)],.func (.func 18) #[] #[.pointer (some ⟨gb,0,none⟩)]] 56))):=(Below.refl _ _).alloc (Nat.le_refl _) _
 generalize (W.alloc (.cells #[.func (.func 12) #[] #[.pointer (some ⟨gb,0,none⟩)],.func (.func 13) #[] #[.pointer (some ⟨gb,0,none⟩)],.func (.func 14) #[] #[.pointer (some ⟨gb,0,none⟩)],.func (.func 16) #[] #[.pointer (some ⟨gb,0,none⟩)],.func (.func 18) #[] #[.pointer (some ⟨gb,0,none⟩)]] 56))=w2 at *
 have hX:=Lib.hid (h1.out.keep hbf.out)
 have hB2:=Lib.hid (hB1.out.trans (hbf.out.mono (Nat.le_of_lt hgbl)))
 obtain⟨fb,hfb⟩:∃b,W.heap.size=b:=⟨_,rfl⟩
 rw [hfb] at hF ⊢
 clear hfb hbf h1 hB1 hmf
 have x0:=hF.out.cell' (i:=0) rfl
 have x1:=hF.out.cell' (i:=1) rfl
 have x2:=hF.out.cell' (i:=2) rfl
 have x3:=hF.out.cell' (i:=3) rfl
 have x4:=hF.out.cell' (i:=4) rfl
 go_upto_region 3 with(fail)
 clear x0 x1 x2 x3 x4
 go_loopw [15] (fun v wr=>∃i:Nat,i≤5∧v=.int .i64 (i:Int)∧Hid (Below gb w wr)∧Below w2.heap.size w2 wr) (fun v _=>5 - (intOf v).toNat)
 case atStart=>exact⟨0,by omega,rfl,hB2,Below.refl _ _⟩
 case round=>
  obtain⟨i,hi,rfl,hBr,hgr⟩:=hrel
  have hXr:=Lib.hid (hX.out.keep hgr)
  have K1:=Lib.hid (chk_1 wr hXr.out)
  have K2:=Lib.hid (chk_2 wr hl hXr.out)
  have K3:=Lib.hid (chk_3 wr (H3.out wr hBr.out) hXr.out)
  have K4:=Lib.hid (chk_4 wr (H4.out wr hBr.out) hXr.out)
  have K5:=Lib.hid (chk_5 wr (H5.out wr hBr.out) hXr.out)
  have ix0:=check_ix0 gb wr
  have ix1:=check_ix1 gb wr
  have ix2:=check_ix2 gb wr
  have ix3:=check_ix3 gb wr
  have ix4:=check_ix4 gb wr
  rcases(show i=0∨i=1∨i=2∨i=3∨i=4∨i=5 by omega) with rfl | rfl | rfl | rfl | rfl | rfl
  ·go_wp2_with (go_at_call 12;((with_reducible refine K1.out.mono ?_));rintro e w3 ⟨rfl,hb3⟩)
   have hbz:=Lib.hid (hBr.out.trans (hb3.mono (by have:=hBr.out.size;have:=HGB.out;omega)))
   have hgz:=hgr.trans (hb3.mono hgr.size)
   go_roundw
   case rel=>exact⟨1,by omega,by first | rfl | exact i64e (by omega),hbz,hgz⟩
   case measure=>simp [intOf]
  ·go_wp2_with (go_at_call 13;((with_reducible refine K2.out.mono ?_));rintro e w3 ⟨rfl,hb3⟩)
   have hbz:=Lib.hid (hBr.out.trans (hb3.mono (by have:=hBr.out.size;have:=HGB.out;omega)))
   have hgz:=hgr.trans (hb3.mono hgr.size)
   go_roundw
   case rel=>exact⟨2,by omega,by first | rfl | exact i64e (by omega),hbz,hgz⟩
   case measure=>simp [intOf]
  ·go_wp2_with (go_at_call 14;((with_reducible refine K3.out.mono ?_));rintro e w3 ⟨rfl,hb3⟩)
   have hbz:=Lib.hid (hBr.out.trans (hb3.mono (by have:=hBr.out.size;have:=HGB.out;omega)))
   have hgz:=hgr.trans (hb3.mono hgr.size)
   go_roundw
   case rel=>exact⟨3,by omega,by first | rfl | exact i64e (by omega),hbz,hgz⟩
   case measure=>simp [intOf]
  ·go_wp2_with (go_at_call 16;((with_reducible refine K4.out.mono ?_));rintro e w3 ⟨rfl,hb3⟩)
   have hbz:=Lib.hid (hBr.out.trans (hb3.mono (by have:=hBr.out.size;have:=HGB.out;omega)))
   have hgz:=hgr.trans (hb3.mono hgr.size)
   go_roundw
   case rel=>exact⟨4,by omega,by first | rfl | exact i64e (by omega),hbz,hgz⟩
   case measure=>simp [intOf]
  ·go_wp2_with (go_at_call 18;((with_reducible refine K5.out.mono ?_));rintro e w3 ⟨rfl,hb3⟩)
   have hbz:=Lib.hid (hBr.out.trans (hb3.mono (by have:=hBr.out.size;have:=HGB.out;omega)))
   have hgz:=hgr.trans (hb3.mono hgr.size)
   go_roundw
   case rel=>exact⟨5,by omega,by first | rfl | exact i64e (by omega),hbz,hgz⟩
   case measure=>simp [intOf]
  ·go_wp2_with (fail)
   go_ret
   exact⟨rfl,by rw [HGB.out];exact hBr.out⟩
end Go.Proofs.YtijoollonkibfaaGreatDoor
namespace Go.Proofs.YtijoollonkibfaaGreatDoor
open Go.RowKit
theorem parseJ_cnt {s:List Nat} {D:JDoc} (hs:By s) (h:parseJ s=.ok D):∀k,(countsI D.nodes 0).getD k 0≤1:=fun k=>by
 have hD:=parseJ_doc h
 obtain⟨hJ,hn0,_⟩:=parseJ_JG hs h
 have hI:=hJ.idx
 by_cases hk:k<D.nodes.length
 ·have hpos:∀x∈(0 :: itemsOf D.nodes),(0:Int)≤x:=fun x hx=>by
   rcases List.mem_cons.1 hx with rfl | hx
   ·omega
   ·obtain⟨nd,hnd,hx2⟩:=List.mem_flatMap.1 hx
    obtain⟨j,hj,rfl⟩:=List.getElem_of_mem hnd
    have:=(hJ j _ (List.getElem?_eq_getElem hj)).ref x (by unfold refs;exact List.mem_append.2 (.inr hx2))
    omega
  have e:countsI D.nodes 0=(0 :: itemsOf D.nodes).foldl bump (List.replicate D.nodes.length 0):=rfl
  rw [e,bumps_get _ _ _ (by simpa using hk) hpos]
  have e0:(List.replicate D.nodes.length (0:Int)).getD k 0=0:=by
   rw [List.getD_eq_getElem?_getD,List.getElem?_replicate];split <;> rfl
  have h1:=hD.im.count_eq (k:Int)
  have h2:=hD.pm.count_eq (k:Int)
  rw [rng_count,if_pos ⟨by omega,by omega⟩,List.count_append] at h2
  rw [e0]
  omega
 ·have hl:(countsI D.nodes 0).length=D.nodes.length:=by unfold countsI;rw [bumps_len,bump_len,List.length_replicate]
  rw [List.getD_eq_getElem?_getD,List.getElem?_eq_none (by omega)]
  simp
theorem parseJ_sort {s:List Nat} {D:JDoc} (hs:By s) (h:parseJ s=.ok D):∀k,k<D.nodes.length→(ndAt D.nodes k).kind=10→SortN D.nodes (ndAt D.nodes k):=fun k hk hkd=>by
 obtain⟨hJ,hn0,_⟩:=parseJ_JG hs h
 obtain⟨_,h2⟩:=chkV_zero (parseJ_chk hs h)
 rw [List.all_eq_true] at h2
 have hform:∀j,j<D.nodes.length→formV (ndAt D.nodes j) (scV (ndAt D.nodes j))=true:=fun j hj=>by
  have:=h2 j (List.mem_range.2 hj)
  unfold okN at this
  rw [Bool.and_eq_true] at this
  exact this.2
 refine⟨?_,fun x hx=>?_⟩
 ·have:=hform k hk
  unfold formV at this
  rw [if_neg (by omega),if_pos hkd,Bool.and_eq_true,decide_eq_true_eq] at this
  exact this.2
 ·have hr:=(hJ.at_ hk).ref x (by unfold refs;exact List.mem_append.2 (.inl hx))
  obtain⟨nk,n1,n2⟩:=(hJ.at_ hk).key x hx
  have hj:=(List.getElem?_eq_some_iff.1 n1).1
  have hN:=hJ _ nk n1
  have hlf:=hN.leaf (by omega) (by omega)
  have hf:=hform x.toNat hj
  rw [ndAt_of n1] at hf ⊢
  refine⟨by omega,hr.2,?_,hlf.1,hlf.2,n2,?_⟩
  ·have hJ1:JG ([] ++ [nk]):=JG.snoc (N:=[]) (fun i nd h=>by simp at h) hN.kind hN.tx hN.len hlf.1 hlf.2
   rw [List.nil_append] at hJ1
   exact hJ1.chk (by simp) (by simp) (fun nd hnd=>by rw [List.mem_singleton.1 hnd,hlf.1,hlf.2];simp)
  ·unfold formV at hf
   rw [if_neg (by omega),if_neg (by omega)] at hf
   simp only [Bool.and_eq_true,Bool.not_eq_true'] at hf
   exact hf.1.1.1
theorem srd_own {w:World} {B g c:Nat} {spans:List JSpan} (h:w.ownsRow B 34 9 (.slice (some ⟨g,0,none⟩) spans.length c) spans.length (spansC spans)):SRd w w.heap.size g 0 spans:=by
 refine⟨(h.lt g rfl).2,Nat.le_refl _,fun i x hi=>?_⟩
 have hc:∀(j:Nat) (u:Value),j<9→(spanC x)[j]? = some u→w.cell? ⟨g,0+i*9+j,none⟩=some u:=fun j u hj hu=>by
  rw [Nat.zero_add]
  exact(own_cell1 h ((spansC_get hi j hj).trans hu)).1
 exact⟨hc 0 _ (by omega) rfl,hc 1 _ (by omega) rfl,hc 2 _ (by omega) rfl,hc 3 _ (by omega) rfl,hc 4 _ (by omega) rfl,hc 5 _ (by omega) rfl,hc 6 _ (by omega) rfl,hc 7 _ (by omega) rfl,hc 8 _ (by omega) rfl⟩
theorem noteC_at {l:List JNote} {k:Nat} {s:JNote} (h:l[k]? = some s) (j:Nat) (hj:j<3):(notesC l)[k*3+j]? = (noteC s)[j]?:=by
 induction l generalizing k with
 | nil=>simp at h
 | cons a t ih=>
  unfold notesC at ih ⊢
  rw [List.flatMap_cons]
  cases k with
  | zero=>
   have:a=s:=by simpa using h
   subst this
   rw [Nat.zero_mul,Nat.zero_add,List.getElem?_append_left (by simp [noteC];omega)]
  | succ k=>
   rw [List.getElem?_append_right (by simp [noteC];omega)]
   have:=ih (k:=k) (by simpa using h)
   rw [←this]
   congr 1
   simp [noteC];omega
theorem ntrd_own {w:World} {B:Nat} {A:Option Addr} {c:Nat} {notes:List JNote} (h:w.ownsRow B 65 3 (.slice A notes.length c) notes.length (notesC notes)):NtRd w w.heap.size A notes:=by
 refine⟨Nat.le_refl _,fun i x hi=>?_⟩
 have hn:=(List.getElem?_eq_some_iff.1 hi).1
 obtain⟨g,c2,e,_,_⟩:=own_some h (by omega)
 injection e with e1 _ e3
 subst e1
 subst e3
 have hc:∀(j:Nat) (u:Value),j<3→(noteC x)[j]? = some u→w.cell? ⟨g,i*3+j,none⟩=some u:=fun j u hj hu=>(own_cell1 h ((noteC_at hi j hj).trans hu)).1
 exact⟨g,rfl,(h.lt g rfl).2,hc 0 _ (by omega) rfl,hc 1 _ (by omega) rfl,hc 2 _ (by omega) rfl⟩
end Go.Proofs.YtijoollonkibfaaGreatDoor
namespace Go.Proofs.YtijoollonkibfaaGreatDoor
open Go.RowKit
theorem grd_own {w:World} {B g c:Nat} {nodes:List GNode} {ncs:List Value} (hN:w.ownsRow B 40 5 (.slice (some ⟨g,0,none⟩) nodes.length c) nodes.length ncs) (hNr:NodesRd w (fun _=>True) ncs nodes):GRd w w.heap.size g 0 nodes:=by
 refine⟨(hN.lt g rfl).2,Nat.le_refl _,fun i nd hi=>?_⟩
 obtain⟨K,nk,ck,I,ni,ci,hcs,⟨hk1,hk2,hk3⟩,⟨hi1,hi2,hi3⟩⟩:=hNr.2 i nd hi
 subst hk1
 subst hi1
 obtain⟨e0,e1,e2,e3,e4⟩:=node_cells hcs
 have hb:∀{A:Option Addr},(∀ad,A=some ad→True∧∃C fz,w.heap[ad.block]? = some (.cells C 3 fz))→∀ad,A=some ad→ad.block<w.heap.size:=fun h ad e=>by
  obtain⟨_,C,fz,hc⟩:=h ad e
  exact(Array.getElem?_eq_some_iff.1 hc).1
 rw [Nat.zero_add]
 exact⟨K,ck,I,ci,(own_cell hN e0).1,(own_cell hN e1).1,(own_cell hN e2).1,(own_cell hN e3).1,(own_cell hN e4).1,⟨hk2,hb hk3⟩,hi2,hb hi3⟩
end Go.Proofs.YtijoollonkibfaaGreatDoor
namespace Go.Proofs.YtijoollonkibfaaGreatDoor
open Go.RowKit
set_option maxRecDepth 100000 in
set_option maxHeartbeats 16000000 in
theorem spans_any (l:List Nat) (hby:By l) (hl:l.length≤maxLen) (w:World) (hw:LibE w) :
  Calls Tryz.prog 3 #[.string (mks l)] w fun e w'=>e=.returned (.bool true)∧Below w.heap.size w w':=by
 unfold maxLen at hl
 have DA:=Lib.hid (awake_true w hw.lib)
 have HW:=Lib.hid hw
 clear hw
 by_cases h20:2000<l.length
 ·have h20':(2000:Int)<l.length:=by omega
  go_enter Tryz.func3,Tryz.ntmps3
  go_wp2_with (go_at_call 4;((with_reducible refine DA.out.mono ?_));rintro e w3 ⟨rfl,hb3⟩)
  go_ret
  exact⟨rfl,hb3⟩
 have h20':¬(2000:Int)<l.length:=by omega
 have DP:=Lib.hid (fun(w':World) (h':LibOK w')=>jparse_any l hby (by omega) w' h')
 cases hp:parseJ l with
 | error x=>
  have hx:=parseJ_nz hp
  have hx2:((x.2:Int) != 0)=true:=by simp;omega
  have hx3:=parseJ_in hp
  have hx4:(x.1:Int)≤l.length:=by omega
  have hx5:(0:Int)≤(x.1:Int):=by omega
  rw [hp] at DP
  clear hp hx
  go_enter Tryz.func3,Tryz.ntmps3
  go_upto_region 7 with(first | (go_at_call 4;((with_reducible refine DA.out.mono ?_));rintro e w3 ⟨rfl,hb3⟩;have hw3:=HW.out.keep hb3) | (go_at_call 5;((with_reducible refine(DP.out _ hw3.lib).mono ?_));rintro e w4 ⟨hb4,rfl⟩;have hX4:=Lib.hid (Arr.new w4 29 zDoc)) | ((with_reducible show wpList _ _ _ (Oper.mk none (Op.store 29 (Operand.tmp 3) (Operand.tmp 15)) _ _ _ _ :: _) _ _);go_loud (refine wpList_sr rfl rfl 29 (.tmp 3) (.tmp 15) rfl (w4.heap.size) zDoc rfl rfl 29 _ hX4.out _ Tryz.sz29 (by first | rfl | simp) (by first | rfl | simp) (by first | rfl | simp [Value.oneCell']) ?_;intro w5 hr5 hg5 hz5)))
  have hb5:Below w4.heap.size w4 w5:=((Below.refl _ _).alloc (Nat.le_refl _) _).grown hg5 (by simp) (fun k e=>by have:=Option.some.inj e;omega)
  have x2:=hr5.out.cell' (i:=2) rfl
  have x4:=hr5.out.cell' (i:=4) rfl
  have x5:=hr5.out.cell' (i:=5) rfl
  go_wp2_with (fail)
  go_ret
  exact⟨rfl,(hb3.trans (hb4.mono hb3.size)).trans (hb5.mono (Nat.le_trans hb3.size hb4.size))⟩
 | ok D=>
  obtain⟨hJ,hJ0,hJ1⟩:=parseJ_JG hby hp
  obtain⟨hnb,_⟩:=parseJ_nb hby hp
  have HO:=Lib.hid (hJ.chk hJ0 hJ1 hnb)
  have HI:=Lib.hid hJ.idx
  have HCH:=Lib.hid (parseJ_chk hby hp)
  have HOC:=Lib.hid (parseJ_occ hby hp)
  have HRG:=Lib.hid (parseJ_rng hp)
  have HDOC:=parseJ_doc hp
  have HNO:=Lib.hid HDOC.no
  have HWH:Hid (∀i,i<D.spans.length→(spAt D.spans i).whole=true):=fun i hi=>(HDOC.ok i _ (spAt_get hi)).wh
  have HCN:=Lib.hid (parseJ_cnt hby hp)
  have HSO:=Lib.hid (parseJ_sort hby hp)
  have hnl:=parseJ_notes hp
  have hsp0:=HOC.out.ne
  rw [hp] at DP
  clear hp hJ hnb HDOC
  go_enter Tryz.func3,Tryz.ntmps3
  go_upto_region 6 with(first | (go_at_call 4;((with_reducible refine DA.out.mono ?_));rintro e w3 ⟨rfl,hb3⟩;have hw3:=HW.out.keep hb3) | (go_at_call 5;((with_reducible refine(DP.out _ hw3.lib).mono ?_));rintro e w4 ⟨hb4,vn,vs,vo,ncs,rfl,hN,hNr,hS,hT⟩;obtain⟨g,cn,hvn,_,_⟩:=own_slice0 hN hJ0;subst hvn;obtain⟨gs,cs,hvs,hcs,_⟩:=own_slice0 hS hsp0;subst hvs;obtain⟨Ao,co,hvo,_,_⟩:=own_slice hT;subst hvo;have hX4:=Lib.hid (Arr.new w4 29 zDoc)) | ((with_reducible show wpList _ _ _ (Oper.mk none (Op.store 29 (Operand.tmp 3) (Operand.tmp 15)) _ _ _ _ :: _) _ _);go_loud (refine wpList_sr rfl rfl 29 (.tmp 3) (.tmp 15) rfl (w4.heap.size) [.int .i64 0,.string (mks l),.slice (some ⟨g,0,none⟩) D.nodes.length cn,.int .i64 0,.slice (some ⟨gs,0,none⟩) D.spans.length cs,.slice Ao D.notes.length co] rfl rfl 29 _ hX4.out _ Tryz.sz29 (by first | rfl | simp) (by first | rfl | simp) (by first | rfl | simp [Value.oneCell']) ?_;intro w5 hr5 hg5 hz5)))
  have hb5:Below w4.heap.size w4 w5:=((Below.refl _ _).alloc (Nat.le_refl _) _).grown hg5 (by simp) (fun k e=>by have:=Option.some.inj e;omega)
  have hG5:=Lib.hid ((grd_own hN hNr).below hb5 (Nat.le_refl _))
  have hS5:=Lib.hid ((srd_own hS).below hb5 (Nat.le_refl _))
  have hT5:=Lib.hid ((ntrd_own hT).below hb5 (Nat.le_refl _))
  have hB5:=Lib.hid ((hb3.trans (hb4.mono hb3.size)).trans (hb5.mono (Nat.le_trans hb3.size hb4.size)))
  have hw5:=Lib.hid (HW.out.keep hB5.out)
  have HR5:Hid (Arr w5 w4.heap.size 29 [.int .i64 0,.string (mks l),.slice (some ⟨g,0,none⟩) D.nodes.length cn,.int .i64 0,.slice (some ⟨gs,0,none⟩) D.spans.length cs,.slice Ao D.notes.length co]):=hr5.out
  clear hN hNr hS hT hX4 hg5 hz5 hr5 hb5 hb4 hb3 hw3 DA DP
  obtain⟨z,hz⟩:∃z,w4.heap.size=z:=⟨_,rfl⟩
  rw [hz] at HR5 hG5 hS5 hT5 ⊢
  clear hz
  have hsl:D.spans.length≤4096:=HOC.out.le
  have hzb:z<w5.heap.size:=HR5.out.lt
  have DS:=Lib.hid (spanCheck_ok (src:=l) (d2:=.slice (some ⟨g,0,none⟩) D.nodes.length cn) (d3:=.int .i64 0) (d4:=.slice (some ⟨gs,0,none⟩) D.spans.length cs) (d5:=.slice Ao D.notes.length co) w5 (by omega)
   (fun w' h'=>occurrences_ok (c:=cn) (.int .i64 0) (.string (mks l)) (.slice Ao D.notes.length co) 0 HOC.out HI.out HO.out HCH.out hcs w' (hw5.out.keep h') (hG5.out.below h' (Nat.le_of_lt hzb)) (hS5.out.below h' (Nat.le_of_lt hzb)))
   (fun w' h'=>ranges_ok (c:=cn) (cs:=cs) (cN:=co) 0 0 HOC.out HRG.out HNO.out hby (by omega) hnl (by omega) w' (hG5.out.below h' (Nat.le_of_lt hzb)) (hS5.out.below h' (Nat.le_of_lt hzb)) (hT5.out.below h' (Nat.le_of_lt hzb)))
   (fun w' h'=>nested_ok (c:=cn) (cs:=cs) (.int .i64 0) (.string (mks l)) (.slice Ao D.notes.length co) 0 l.length HOC.out HRG.out HWH.out w' (hG5.out.below h' (Nat.le_of_lt hzb)) (hS5.out.below h' (Nat.le_of_lt hzb))))
  have DT:Hid (∀w',Below w5.heap.size w5 w'→Calls Tryz.prog 7 #[.agg #[.slice (some ⟨g,0,none⟩) D.nodes.length cn,.int .i64 0]] w' fun e w''=>e=.returned (.bool true)∧Below w'.heap.size w' w''):=fun w' h'=>
   tree_true (c:=cn) 0 hJ0 HO.out HCH.out HSO.out HCN.out w' (hw5.out.keep h') (hG5.out.below h' (Nat.le_of_lt hzb))
  generalize D.nodes.length=dn at *
  obtain⟨n,hn⟩:∃n,D.spans.length=n:=⟨_,rfl⟩
  rw [hn] at HR5 HWH DS hsl
  have HN:=Lib.hid hn
  clear hn HO HI HCH HOC HRG HNO HCN HSO hG5 hT5 hsp0
  go_upto_region 9 with(fail)
  go_loop [6] (fun v=>∃i:Nat,i≤n∧v=.int .i64 (i:Int)) (fun v=>n - (intOf v).toNat)
  case atStart=>exact⟨0,Nat.zero_le _,rfl⟩
  case round=>
   obtain⟨i,hi,rfl⟩:=hrel
   have x0:=HR5.out.cell' (i:=0) rfl
   have x1:=HR5.out.cell' (i:=1) rfl
   have x2:=HR5.out.cell' (i:=2) rfl
   have x3:=HR5.out.cell' (i:=3) rfl
   have x4:=HR5.out.cell' (i:=4) rfl
   have x5:=HR5.out.cell' (i:=5) rfl
   by_cases hin:i=n
   ·have hi':¬(i:Int)<n:=by omega
    go_wp2_with (first
     | (go_at_call 6;((with_reducible refine DS.out.mono ?_));rintro e w6 ⟨rfl,hb6⟩;have y2:=(HR5.out.keep hb6).cell' (i:=2) rfl;have y3:=(HR5.out.keep hb6).cell' (i:=3) rfl)
     | (go_at_call 7;((with_reducible refine(DT.out _ hb6).mono ?_));rintro e w7 ⟨rfl,hb7⟩))
    go_ret
    exact⟨rfl,hB5.out.trans ((hb6.trans (hb7.mono hb6.size)).mono hB5.out.size)⟩
   ·have hi':(i:Int)<n:=by omega
    have i0:(0:Int)≤i:=by omega
    have c8:=(hS5.out.of_at (i:=i) (by have:=HN.out;omega)).c8
    rw [HWH.out i (by omega),Nat.zero_add] at c8
    clear hin
    go_wp2_with (fail)
    go_round
    case rel=>exact⟨i+1,by omega,i64e (by omega)⟩
    case measure=>simp [intOf];omega
end Go.Proofs.YtijoollonkibfaaGreatDoor
