/- Plain: a graph of one text: what Check asks, its normal form, how it prints. -/
import Derived.Test.YtgbkbgiogdhnaaaGreatDoorNDj
import Derived.Test.YtgbkbgiogdhnaaaGreatDoorMCi
import Derived.Test.YtgbkbgiogdhnaaaGreatDoorMCh
set_option linter.unusedVariables false
set_option linter.unusedSimpArgs false
set_option linter.defProp false
set_option linter.constructorNameAsVariable false
namespace Go.Proofs.YtgbkbgiogdhnaaaGreatDoor
open Go.RowKit
def gT (s:List Nat):GNode:=⟨5,s,false,[],[]⟩
theorem nd_one {nd:GNode} {k:Nat} (h:k < [nd].length):ndAt [nd] k=nd:=by
 have:k=0:=by simp at h;exact h
 subst this;rfl
theorem chk_text {s:List Nat} (hs:By s) (hl:s.length≤100000):ChkOK [gT s] 0 where
 n0:=by simp
 n1:=by simp
 nl:=fun i hi=>by rw [nd_one hi];exact⟨by simp [gT],by simp [gT]⟩
 tw:={
  leaf:=fun i hi x hx=>by rw [nd_one hi] at hx;simp [gT] at hx
  by_:=fun i hi=>by rw [nd_one hi];exact hs
  wf:=fun i hi=>by rw [nd_one hi];rfl
  len:=fun i hi=>by rw [nd_one hi,size_mks];show s.length≤_;unfold maxLen;omega }
 sc:=fun i hi=>by
  rw [nd_one hi]
  exact⟨by show(5:Int)≠11;decide,fun _ _=>scal_text s (by omega)⟩
 dp:=fun _ _=>endB_ok (by rfl)
theorem zero_text {s:List Nat} (hv:checkV s=none):chkV [gT s] 0=0:=by
 have hs:scV (gT s)=true:=by
  unfold scV gT
  simp only
  rw [hv]
  rfl
 have h1:indicesV [gT s] 0=true:=by rfl
 have h2:(List.range [gT s].length).all (okN [gT s] 0)=true:=all_yes fun j hj=>by
  unfold okN
  rw [nd_one hj,hs]
  obtain rfl:j=0:=by simp at hj;exact hj
  rfl
 have h3:(List.range [gT s].length).all (okK [gT s] 0)=true:=by rfl
 have h4:twiceV [gT s]=false:=by rfl
 have h5:¬32<depD [gT s] 0:=by
  first
   | (rw [show depD [gT s] 0=0 from rfl];omega)
   | (rw [show depD [gT s] 0=1 from rfl];omega)
 unfold chkV
 rw [h1,h2,h3,h4,if_neg (by simp),if_neg (by simp),if_neg (by simp),if_neg (by simp),if_neg h5]
theorem norm_text (s:List Nat):NormV [gT s] 0 [gT s]:=⟨0,⟨[0],1,[gT s]⟩,by rfl,rfl⟩
theorem prt_text {s:List Nat} (hs:By s) (hl:s.length≤100000):PrtOK [gT s] where
 idx:=fun i hi x hx=>by rw [nd_one hi] at hx;simp [refs,gT] at hx
 nl:=fun i hi=>by rw [nd_one hi];exact⟨by simp [gT],by simp [gT]⟩
 len:=by simp
 txt:=fun i hi=>by rw [nd_one hi];exact⟨hs,hl⟩
 few:=fun i hi h=>by rw [nd_one hi] at h;simp [gT] at h
theorem out_text {s:List Nat} (hs:By s) (hl:s.length≤100000) (hv:checkV s=none):OutOK [gT s] [gT s] 0 decW 1 where
 nOK:=⟨(prt_text hs hl).idx,(chk_text hs hl).nl,by simp,fun k hk h=>by rw [nd_one hk] at h;simp [gT] at h,fun k hk h=>by rw [nd_one hk] at h;simp [gT] at h⟩
 chk:=chk_text hs hl
 chk0:=zero_text hv
 lt:=by simp
 nv:=norm_text s
 up:=fun k hk x hx=>by rw [nd_one hk] at hx;simp [gT] at hx
 srt:=fun k hk h=>by rw [nd_one hk] at h;simp [gT] at h
 one:=fun k=>by
  have h:countsI [gT s] 0 = [1]:=by rfl
  show(countsI [gT s] 0).getD k 0≤1
  rw [h]
  match k with
  | 0=>simp
  | n+1=>simp
 prt:=prt_text hs hl
 f3:=by omega
 dec:=fun w _ k hk h=>by rw [nd_one hk] at h;simp [gT] at h
theorem prP_text (s:List Nat) (lit:Bool):printP [gT s] decW (ordP [gT s]) lit 1 0 0=.ok (quoteV s):=by
 rw [printP]
 rfl
end Go.Proofs.YtgbkbgiogdhnaaaGreatDoor
namespace Go.Proofs.YtgbkbgiogdhnaaaGreatDoor
open Go.RowKit
set_option maxHeartbeats 2000000 in
set_option maxRecDepth 100000 in
theorem bld_string (B b:Nat) (bs:List Value) (s:ByteArray) (w:World) (h:BldF B b bs w) (hlen:bs.length+s.size≤140737488355328) (hBw:B≤w.heap.size) :
  Calls Tryz.prog 16 #[.pointer (some ⟨b,0,none⟩),.string s] w fun e w'=>e=.returned (.tuple #[.int .i64 s.size,.nilIface])∧BldU B b (bs ++ Lib.strCells s) w'∧Below B w w':=by
 obtain⟨i0,hi,hz0,hz1,hz2⟩:=info_parts Tryz.info5
 go_enter Tryz.func16,Tryz.ntmps16
 go_wp2_with (go_at_call 35;refine(copyCheck_any B b bs _ h).mono ?_)
 rintro e w1 ⟨rfl,h1,hb1,hk1⟩
 obtain⟨hB,v,hbk,hown,hne⟩:=h1
 have c0:w1.cell? ⟨b,0,none⟩=some (.pointer (some ⟨b,0,none⟩)):=by rw [Lib.cell_of_heap hbk];rfl
 have c1:w1.cell? ⟨b,1,none⟩=some v:=by rw [Lib.cell_of_heap hbk];rfl
 go_wp2_with (at_builtin;refine Lib.wpList_append_own_stringF _ rfl _ _ 50 9 rfl B 5 i0 Tryz.underlying50 Tryz.underlying9 hi hz0 hz1 hz2 _ _ _ rfl hown s rfl ?c3 ?c4 ?c5 ?_)
 case c3=>unfold maxLen;omega
 case c4=>omega
 case c5=>have:=hb1.size;omega
 intro v' w2 hown' hgrow _
 have hlt:b<w1.heap.size:=(Array.getElem?_eq_some_iff.1 hbk).1
 have hb2:w2.heap[b]? = some (.cells #[.pointer (some ⟨b,0,none⟩),v] 52 (0,0)):=by
  rw [hgrow.block b hlt (fun e=>hne e.symm)]
  exact hbk
 have d0:w2.cell? ⟨b,0,none⟩=some (.pointer (some ⟨b,0,none⟩)):=by rw [Lib.cell_of_heap hb2];rfl
 have d1:w2.cell? ⟨b,1,none⟩=some v:=by rw [Lib.cell_of_heap hb2];rfl
 have f1:w2.frozen? ⟨b,1,none⟩=false:=Lib.frozen_of_heap hb2 1
 obtain⟨ao,n',cap,rfl⟩:∃ao n' cap,v'=.slice ao n' cap:=by
  rcases hown'.2 with⟨hv,_⟩ | ⟨g,cap,cur,fz,hv,_⟩
  ·exact⟨_,_,_,hv⟩
  ·exact⟨_,_,_,hv⟩
 go_wp2
 go_ret2
 refine⟨rfl,?_,?_⟩
 ·exact Lib.BuilderAtF.put hB hb2 (bs':=bs ++ Lib.strCells s) (by simpa [Lib.strCells_length] using hown') (by decide)
 ·exact(hb1.grown hgrow (by have:=hb1.size;omega) (fun k hk=>(hown.lt k hk).1)).setCell (p:=⟨b,1,none⟩) hB _
end Go.Proofs.YtgbkbgiogdhnaaaGreatDoor
