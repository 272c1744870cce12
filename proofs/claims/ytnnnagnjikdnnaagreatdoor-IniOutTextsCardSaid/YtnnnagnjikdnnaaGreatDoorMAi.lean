/- strings.Builder's WriteByte and WriteString, with the frame that reaches above the Builder. -/
import Derived.Test.YtnnnagnjikdnnaaGreatDoorMAd
import Derived.Test.YtnnnagnjikdnnaaGreatDoorMAa
import Derived.Lib.FrozenHead2
import Derived.Test.YtnnnagnjikdnnaaGreatDoorMAf
import Derived.Test.YtnnnagnjikdnnaaGreatDoorMAh
import Derived.StillTailTactics
import Derived.Deep.DeepCutAuto
set_option linter.unusedVariables false
set_option linter.unusedSimpArgs false
set_option linter.defProp false
set_option linter.constructorNameAsVariable false
namespace Go.Proofs.YtnnnagnjikdnnaaGreatDoor
open Go.RowKit
set_option maxHeartbeats 2000000 in
set_option maxRecDepth 100000 in
theorem kb_byte (B b:Nat) (bs:List Value) (c:Int) (w:World) (h:BldF B b bs w) (hlen:bs.length+1≤140737488355328) (hBw:B≤w.heap.size) :
  Calls Tryz.prog 16 #[.pointer (some ⟨b,0,none⟩),.int .u8 c] w fun e w'=>e=.returned .nilIface∧BldU B b (bs ++ [.int .u8 c]) w'∧Below B w w'∧Others b w w':=by
 obtain⟨i0,hi,hz0,hz1,hz2⟩:=info_parts Tryz.info5
 go_enter Tryz.func16,Tryz.ntmps16
 go_wp2_with (go_at_call 38;refine(copyCheck_any B b bs _ h).mono ?_)
 rintro e w1 ⟨rfl,h1,hb1,hk1⟩
 obtain⟨hB,v,hbk,hown,hne⟩:=h1
 have c0:w1.cell? ⟨b,0,none⟩=some (.pointer (some ⟨b,0,none⟩)):=by rw [Lib.cell_of_heap hbk];rfl
 have c1:w1.cell? ⟨b,1,none⟩=some v:=by rw [Lib.cell_of_heap hbk];rfl
 go_wp2_with (at_builtin;refine wpList_append_ownF _ rfl _ _ 47 rfl B 5 i0 (.int .u8 0) 1 1 Tryz.underlying47 hi hz0 hz1 hz2 rfl (by decide) _ _ _ rfl (hown.alloc _) ⟨w1.heap.size,0,none⟩ 1 1 [.int .u8 c] rfl rfl ?c1 ?c2 ?c3 ?c4 ?c5 ?_)
 case c1=>
  intro j u hj
  match j,hj with
  | 0,hj=>simp at hj;subst hj;simp [Addr.add]
 case c2=>intro u hu;simp at hu;subst hu;rfl
 case c3=>unfold maxLen;omega
 case c4=>omega
 case c5=>have:=hb1.size;simp;omega
 intro v' w2 hown' hgrow _
 have hlt:b<w1.heap.size:=(Array.getElem?_eq_some_iff.1 hbk).1
 have hb2:w2.heap[b]? = some (.cells #[.pointer (some ⟨b,0,none⟩),v] 49 (0,0)):=by
  rw [hgrow.block b (by simp;omega) (fun e=>hne e.symm),Lib.alloc_old w1 _ b hlt]
  exact hbk
 have d0:w2.cell? ⟨b,0,none⟩=some (.pointer (some ⟨b,0,none⟩)):=by rw [Lib.cell_of_heap hb2];rfl
 have d1:w2.cell? ⟨b,1,none⟩=some v:=by rw [Lib.cell_of_heap hb2];rfl
 have f1:w2.frozen? ⟨b,1,none⟩=false:=Lib.frozen_of_heap hb2 1
 obtain⟨g,cap,rfl⟩:∃g cap,v'=.slice (some ⟨g,0,none⟩) (bs.length+1) cap:=by
  rcases hown'.2 with⟨_,h0⟩ | ⟨g,cap,cur,fz,hv,_⟩
  ·omega
  ·exact⟨g,cap,hv⟩
 go_wp2
 go_ret
 refine⟨rfl,?_,?_,((hk1.alloc _).grown hgrow (Lib.ownsRowF_kind (hown.alloc _))).setCell ⟨b,1,none⟩ rfl _⟩
 ·exact Lib.BuilderAtF.put hB hb2 (bs':=bs ++ [.int .u8 c]) (by simpa using hown') (by decide)
 ·exact((hb1.alloc (by have:=hb1.size;omega) _).grown hgrow (by have:=hb1.size;simp;omega) (fun k hk=>(hown.lt k hk).1)).setCell (p:=⟨b,1,none⟩) hB _
set_option maxHeartbeats 2000000 in
set_option maxRecDepth 100000 in
theorem kb_string (B b:Nat) (bs:List Value) (s:ByteArray) (w:World) (h:BldF B b bs w) (hlen:bs.length+s.size≤140737488355328) (hBw:B≤w.heap.size) :
  Calls Tryz.prog 17 #[.pointer (some ⟨b,0,none⟩),.string s] w fun e w'=>e=.returned (.tuple #[.int .i64 s.size,.nilIface])∧BldU B b (bs ++ Lib.strCells s) w'∧Below B w w'∧Others b w w':=by
 obtain⟨i0,hi,hz0,hz1,hz2⟩:=info_parts Tryz.info5
 go_enter Tryz.func17,Tryz.ntmps17
 go_wp2_with (go_at_call 38;refine(copyCheck_any B b bs _ h).mono ?_)
 rintro e w1 ⟨rfl,h1,hb1,hk1⟩
 obtain⟨hB,v,hbk,hown,hne⟩:=h1
 have c0:w1.cell? ⟨b,0,none⟩=some (.pointer (some ⟨b,0,none⟩)):=by rw [Lib.cell_of_heap hbk];rfl
 have c1:w1.cell? ⟨b,1,none⟩=some v:=by rw [Lib.cell_of_heap hbk];rfl
 go_wp2_with (at_builtin;refine Lib.wpList_append_own_stringF _ rfl _ _ 47 9 rfl B 5 i0 Tryz.underlying47 Tryz.underlying9 hi hz0 hz1 hz2 _ _ _ rfl hown s rfl ?c3 ?c4 ?c5 ?_)
 case c3=>unfold maxLen;omega
 case c4=>omega
 case c5=>have:=hb1.size;omega
 intro v' w2 hown' hgrow _
 have hlt:b<w1.heap.size:=(Array.getElem?_eq_some_iff.1 hbk).1
 have hb2:w2.heap[b]? = some (.cells #[.pointer (some ⟨b,0,none⟩),v] 49 (0,0)):=by
  rw [hgrow.block b hlt (fun e=>hne e.symm)]
  exact hbk
 have d0:w2.cell? ⟨b,0,none⟩=some (.pointer (some ⟨b,0,none⟩)):=by rw [Lib.cell_of_heap hb2];rfl
 have d1:w2.cell? ⟨b,1,none⟩=some v:=by rw [Lib.cell_of_heap hb2];rfl
 have f1:w2.frozen? ⟨b,1,none⟩=false:=Lib.frozen_of_heap hb2 1
 obtain⟨ao,n',cap,rfl⟩:∃ao n' cap,v'=.slice ao n' cap:=by
  rcases hown'.2 with⟨hv,_⟩ | ⟨g,cap,cur,fz,hv,_⟩
  ·exact⟨_,_,_,hv⟩
  ·exact⟨_,_,_,hv⟩
 go_wp2
 go_ret2
 refine⟨rfl,?_,?_,(hk1.grown hgrow (Lib.ownsRowF_kind hown)).setCell ⟨b,1,none⟩ rfl _⟩
 ·exact Lib.BuilderAtF.put hB hb2 (bs':=bs ++ Lib.strCells s) (by simpa [Lib.strCells_length] using hown') (by decide)
 ·exact(hb1.grown hgrow (by have:=hb1.size;omega) (fun k hk=>(hown.lt k hk).1)).setCell (p:=⟨b,1,none⟩) hB _
end Go.Proofs.YtnnnagnjikdnnaaGreatDoor
namespace Go.Proofs.YtnnnagnjikdnnaaGreatDoor
open Go.RowKit
abbrev KP3 (s:List Nat) (i:Nat) (vn:Value):List Value:=[.string (mks s),.int .i64 (i:Int),vn]
def RetB (c:Nat) (w:World) (e:Ending) (w':World):Prop:=e=.returned (.int .u8 (c:Int))∧∃m,w'=w.drewN m
set_option maxRecDepth 20000 in
theorem knext_any {B i c:Nat} {s:List Nat} {vn:Value} (hc:s[i]? = some c) (hs:By s) (w:World) (hP:Arr w B 116 (KP3 s i vn)) :
  Calls Tryz.prog 89 #[.pointer (some ⟨B,0,none⟩)] w (RetB c w):=by
 have c0:=hP.cell' (i:=0) rfl
 have c1:=hP.cell' (i:=1) rfl
 have hi:=(List.getElem?_eq_some_iff.1 hc).1
 have i0:(0:Int)≤i:=by omega
 have i1:(i:Int)<s.length:=by omega
 have p0:i<(mks s).size:=by rw [size_mks];omega
 have hg:=get_mks hc (hs.get hc) p0
 clear hP hs hc
 go_enter Tryz.func89,Tryz.ntmps89
 go_upto_region 1 with(fail)
 go_quiet (fail)
 go_upto_region 2 with(fail)
 go_quiet (fail)
 go_wp2_with (fail)
 go_ret
 exact⟨rfl,q2 _ _ _⟩
def TookK (B i:Nat) (w:World) (e:Ending) (w':World):Prop:=e=.returned (.tuple #[])∧AtW w B (i+1) w'
set_option maxRecDepth 20000 in
theorem ktake_any {B i c:Nat} {s:List Nat} {vn:Value} (hc:s[i]? = some c) (hs:By s) (hl:s.length≤65536) (w:World) (hP:Arr w B 116 (KP3 s i vn)) :
  Calls Tryz.prog 93 #[.pointer (some ⟨B,0,none⟩),.int .u8 (c:Int)] w (TookK B i w):=by
 have c0:=hP.cell' (i:=0) rfl
 have c1:=hP.cell' (i:=1) rfl
 have cf:=hP.frozen 1
 have hi:=(List.getElem?_eq_some_iff.1 hc).1
 have i0:(0:Int)≤i:=by omega
 have i1:(i:Int)<s.length:=by omega
 have i2:decide ((s.length:Int)≤i)=false:=by simp;omega
 have p0:i<(mks s).size:=by rw [size_mks];omega
 have hg:=get_mks hc (hs.get hc) p0
 have hi3:(i:Int)≤65535:=by omega
 have HP:=Lib.hid hP
 clear hP hs hc hl
 go_enter Tryz.func93,Tryz.ntmps93
 go_upto_region 0 with(fail)
 go_quiet (fail)
 go_wp2_with (fail)
 go_end0
 refine⟨rfl,HF.fin (P:=KP3 s i vn) (((HF.refl (Nat.le_refl _)).drewN nq).set (.inl rfl) 1 _) HP.out ?_⟩
 have h:=HP.out.store 1 (.int .i64 ((i:Int)+1))
 exact h
theorem strB8K {ys:List Nat} (h:By ys):Lib.byteCells (ys.map UInt8.ofNat)=B8 ys:=by
 unfold Lib.byteCells B8
 rw [List.map_map]
 refine List.map_congr_left (fun c hc=>?_)
 have:=h c hc
 show Value.int .u8 (((UInt8.ofNat c).toNat:Nat):Int)=_
 have e:(UInt8.ofNat c).toNat=c:=by simp;omega
 rw [e]
def offK (B:Nat) (w:World):Nat:=match w.cell? ⟨B,1,none⟩ with | some (.int _ z)=>z.toNat | _=>0
theorem offK_eq {w:World} {B i:Nat} {s:List Nat} {vn:Value} (h:Arr w B 116 (KP3 s i vn)):offK B w=i:=by
 unfold offK
 rw [h.cell' (i:=1) (u:=.int .i64 (i:Int)) rfl]
 rfl
structure TxK (B z0 z:Nat) (s:List Nat) (vn:Value) (w wr:World) (j:Nat) (acc:List Nat):Prop where
 par:Arr wr B 116 (KP3 s j vn)
 fr:HF z0 B w wr
 bl:BldF z z (B8 acc) wr
 sz:z≤wr.heap.size
section
variable {B z0 z j:Nat} {s:List Nat} {vn:Value} {w wr w2:World} {acc:List Nat}
theorem TxK.drewN (h:TxK B z0 z s vn w wr j acc) (m:Nat):TxK B z0 z s vn w (wr.drewN m) j acc:=⟨h.par,h.fr.drewN m,bld_below h.bl (Below.drewN' (Below.refl _ _) m),h.sz⟩
theorem TxK.setI (h:TxK B z0 z s vn w wr j acc) (hz:B<z) (k:Nat):TxK B z0 z s vn w (wr.setCell ⟨B,1,none⟩ (.int .i64 (k:Int))) k acc:=
 ⟨h.par.store 1 _,h.fr.set (.inl rfl) 1 _,bld_hf h.bl ((HF.refl (Nat.le_refl _)).set (.inl rfl) 1 _) hz,by have:=h.sz;simpa [World.setCell] using this⟩
theorem TxK.byte (h:TxK B z0 z s vn w wr j acc) (hz:B<z) (hz0:z0≤z) {d:Nat} (hu:BldU z z (B8 acc ++ [.int .u8 (d:Int)]) w2) (hb:Below z wr w2):TxK B z0 z s vn w w2 j (acc ++ [d]):=
 ⟨h.par.below hb hz,h.fr.over hb hz0,.inr (by rw [B8_append];exact hu),Nat.le_trans h.sz hb.size⟩
end
def TextKR (t:List Nat) (B j:Nat) (w:World) (e:Ending) (w':World):Prop:=e=.returned (.string (mks t))∧AtW w B j w'
set_option maxRecDepth 20000 in
set_option maxHeartbeats 16000000 in
theorem ktext_any {B i J f0:Nat} {s t:List Nat} {vn:Value} (h34:s[i]? = some 34) (hs:By s) (hl:s.length≤65536) (ht:textK s f0 (i+1) []=some (t,J)) (w:World) (hP:Arr w B 116 (KP3 s i vn)) :
  Calls Tryz.prog 90 #[.pointer (some ⟨B,0,none⟩)] w (TextKR t B J w):=by
 have D0:Hid (Calls Tryz.prog 93 #[.pointer (some ⟨B,0,none⟩),.int .u8 34] w (TookK B i w)):=ktake_any h34 hs hl w hP
 have hlt:=hP.lt
 obtain⟨n,hn⟩:∃n,s.length=n:=⟨_,rfl⟩
 have HP:=Lib.hid hP
 have HS:=Lib.hid hs
 have HN:=Lib.hid hn
 have HT:=Lib.hid ht
 have hi:=(List.getElem?_eq_some_iff.1 h34).1
 rw [hn] at hi hl
 clear hP hs ht hn h34
 go_enter Tryz.func90,Tryz.ntmps90
 go_upto_region 2 with(go_at_call 93;((with_reducible refine D0.out.mono ?_));rintro e w1 ⟨rfl,hk1⟩)
 have P1:Hid (Arr w1 B 116 (KP3 s (i+1) vn)):=hk1.arr HP.out
 have F1:=Lib.hid hk1.hf
 have hs1:=hk1.size
 clear hk1 D0
 have hb0:BldF w1.heap.size w1.heap.size [] (w1.alloc (.cells #[.pointer none,.slice none 0 0] 49)):=Lib.IsBuilderF.of (Lib.fresh_isBuilder 49 5 w1)
 have HX0:Hid (TxK B w.heap.size w1.heap.size s vn w (w1.alloc (.cells #[.pointer none,.slice none 0 0] 49)) (i+1) []):=⟨P1.out.alloc _,F1.out.alloc _,hb0,by simp⟩
 have hBz:B<w1.heap.size:=by omega
 clear hb0 P1 F1
 go_upto_region 3 with(fail)
 generalize (w1.alloc (.cells #[.pointer none,.slice none 0 0] 49))=W1 at *
 obtain⟨z,hz⟩:∃z,w1.heap.size=z:=⟨_,rfl⟩
 rw [hz] at HX0 hs1 hBz ⊢
 clear hz
 have HT0:Hid (∃f,textK s f (i+1) []=some (t,J)):=⟨_,HT.out⟩
 go_loopw [] (fun wr=>∃(j:Nat) (acc:List Nat),j≤n∧acc.length≤j∧Hid (By acc)∧Hid (∃f,textK s f j acc=some (t,J))∧Hid (TxK B w.heap.size z s vn w wr j acc)) (fun wr=>70000 - offK B wr)
 case atStart=>exact⟨i+1,[],hi,Nat.zero_le _,By.nil,HT0,HX0⟩
 case round=>
  clear HX0 HT0
  obtain⟨j,acc,hj,hal,hBA,hTr,hXr⟩:=hrel
  have hof:=offK_eq hXr.out.par
  obtain⟨f,hf⟩:=hTr.out
  cases f with
  | zero=>cases hf
  | succ f=>
   rw [textK] at hf
   split at hf
   ·cases hf
   ·rename_i c hc
    have hjn:=(List.getElem?_eq_some_iff.1 hc).1
    rw [HN.out] at hjn
    have D1:Hid (∀m,Calls Tryz.prog 89 #[.pointer (some ⟨B,0,none⟩)] (wr.drewN m) (RetB c (wr.drewN m))):=fun m=>knext_any hc HS.out (wr.drewN m) hXr.out.par
    have c0:wr.cell? ⟨B,0,none⟩=some (.string (mks s)):=hXr.out.par.cell' (i:=0) rfl
    have c1:wr.cell? ⟨B,1,none⟩=some (.int .i64 (j:Int)):=hXr.out.par.cell' (i:=1) rfl
    have cf:wr.frozen? ⟨B,1,none⟩=false:=hXr.out.par.frozen 1
    have hsz:(mks s).size=n:=by rw [size_mks];exact HN.out
    have hcb:=HS.out.get hc
    have HOF:=Lib.hid hof
    have HHC:=Lib.hid hc
    have j0:(0:Int)≤j:=by omega
    have j1:(j:Int)<n:=by omega
    clear hTr hc hof
    by_cases h34:c=34
    ·subst h34
     rw [if_pos rfl] at hf
     have hft:=Option.some.inj hf
     have e1:acc=t:=congrArg Prod.fst hft
     have e2:j+1=J:=congrArg Prod.snd hft
     have i2:decide ((n:Int)≤j)=false:=by simp;omega
     subst e1
     subst e2
     clear hf hft
     go_upto_region 3 with(fail)
     go_quiet (((go_at_call 89;exact Calls.quiet_of (D1.out _))))
     have X2:Hid (TxK B w.heap.size z s vn w ((wr.drewN nq).setCell ⟨B,1,none⟩ (.int .i64 ((j:Int)+1))) (j+1) acc):=(hXr.out.drewN nq).setI hBz (j+1)
     have hST:=Lib.hid (strB8K hBA.out)
     clear hXr D1
     go_upto_region 11 with(fail)
     generalize ((wr.drewN nq).setCell ⟨B,1,none⟩ (.int .i64 ((j:Int)+1)))=w5 at *
     have hbF:BldF z z (Lib.byteCells (acc.map UInt8.ofNat)) w5:=by have h:=X2.out.bl;rw [←hST.out] at h;exact h
     have DS:=Lib.hid (Tryz.Builder_String_any_f z z (acc.map UInt8.ofNat) w5 hbF X2.out.sz)
     rw [show(⟨(acc.map UInt8.ofNat).toArray⟩:ByteArray)=mks acc from rfl] at DS
     clear hbF
     go_wp2_with (go_at_call 20;((with_reducible refine DS.out.mono ?_));rintro e w8 ⟨rfl,_,hb8⟩)
     go_ret
     exact⟨rfl,HF.fin (X2.out.fr.over hb8 hs1) HP.out (X2.out.par.below hb8 hBz)⟩
    ·have m34:((c:Int) == 34)=false:=by simp;omega
     have m34':((c:Int) != 34)=true:=by simp;omega
     rw [if_neg h34] at hf
     go_upto_region 3 with(fail)
     go_quiet (((go_at_call 89;exact Calls.quiet_of (D1.out _))))
     by_cases h92:c=92
     ·subst h92
      rw [if_pos rfl] at hf
      split at hf
      ·cases hf
      rename_i d hd
      have hdn:=(List.getElem?_eq_some_iff.1 hd).1
      rw [HN.out] at hdn
      have HHD:=Lib.hid hd
      obtain⟨q,hq⟩:∃q,j+1=q:=⟨_,rfl⟩
      have hqe:(j:Int)+1=(q:Int):=by omega
      rw [hq] at hdn HHD
      rw [show j+2=q+1 by omega] at hf
      have HQJ:=Lib.hid hq
      have HQE:=Lib.hid hqe
      clear hd hq hqe
      have cfq:(wr.drewN nq).frozen? ⟨B,1,none⟩=false:=cf
      go_upto_region 6 with(go_at_call 89;((with_reducible refine(D1.out _).mono ?_));rintro e w5 ⟨rfl,m,rfl⟩)
      have X5:Hid (TxK B w.heap.size z s vn w ((wr.drewN (nq+m)).setCell ⟨B,1,none⟩ (.int .i64 (q:Int))) q acc):=(hXr.out.drewN (nq+m)).setI hBz q
      rw [HQE.out]
      clear hXr c0 c1 cf cfq D1
      generalize ((wr.drewN (nq+m)).setCell ⟨B,1,none⟩ (.int .i64 (q:Int)))=w5 at *
      have c0:w5.cell? ⟨B,0,none⟩=some (.string (mks s)):=X5.out.par.cell' (i:=0) rfl
      have c1:w5.cell? ⟨B,1,none⟩=some (.int .i64 (q:Int)):=X5.out.par.cell' (i:=1) rfl
      have p0:(0:Int)≤q:=by omega
      have p1:(q:Int)<n:=by omega
      have q0:q<(mks s).size:=by rw [hsz];omega
      have hg:=get_mks HHD.out (HS.out.get HHD.out) q0
      go_upto_region 6 with(fail)
      go_quiet (fail)
      have X6:=Lib.hid (X5.out.drewN nq)
      obtain⟨w6,hw6⟩:∃x,x=w5.drewN nq:=⟨_,rfl⟩
      rw [←hw6] at X6 ⊢
      clear hw6 c0 c1 X5
      have c0:w6.cell? ⟨B,0,none⟩=some (.string (mks s)):=X6.out.par.cell' (i:=0) rfl
      have c1:w6.cell? ⟨B,1,none⟩=some (.int .i64 (q:Int)):=X6.out.par.cell' (i:=1) rfl
      have D8:=Lib.hid (kb_byte z z (B8 acc) (d:Int) w6.drew (bld_below X6.out.bl (Below.drew (Below.refl _ _))) (by rw [length_B8];omega) X6.out.sz)
      go_upto_region 8 with(fail)
      go_still_tail 9,(by kernel_rfl)
      change wpList _ _ _ _ _ w6.drew
      go_upto_region 9 with(go_at_call 16;((with_reducible refine D8.out.mono ?_));rintro e w7 ⟨rfl,hu7,hb7,_⟩)
      have X7:Hid (TxK B w.heap.size z s vn w w7 q (acc ++ [d])):=TxK.byte (wr:=w6.drew) ⟨X6.out.par,X6.out.fr.drew,bld_below X6.out.bl (Below.drew (Below.refl _ _)),X6.out.sz⟩ hBz hs1 hu7 hb7
      clear X6 D8 hu7 hb7 c0 c1
      have c1:w7.cell? ⟨B,1,none⟩=some (.int .i64 (q:Int)):=X7.out.par.cell' (i:=1) rfl
      have cf:w7.frozen? ⟨B,1,none⟩=false:=X7.out.par.frozen 1
      have X8:Hid (TxK B w.heap.size z s vn w (w7.setCell ⟨B,1,none⟩ (.int .i64 ((q:Int)+1))) (q+1) (acc ++ [d])):=X7.out.setI hBz (q+1)
      have hO8:=Lib.hid (offK_eq X8.out.par)
      clear X7
      go_wp2_with (fail)
      go_roundw
      case rel=>exact⟨q+1,acc ++ [d],by omega,by rw [List.length_append,List.length_singleton];have:=HQJ.out;omega,hBA.out.append (By.cons (HS.out.get HHD.out) By.nil),Lib.hid ⟨f,hf⟩,X8⟩
      case measure=>rw [hO8.out,HOF.out];have:=HQJ.out;omega
     ·have m92:((c:Int) == 92)=false:=by simp;omega
      rw [if_neg h92] at hf
      go_upto_region 6 with(go_at_call 89;((with_reducible refine(D1.out _).mono ?_));rintro e w5 ⟨rfl,m,rfl⟩)
      have X5:Hid (TxK B w.heap.size z s vn w (wr.drewN (nq+m)) j acc):=hXr.out.drewN (nq+m)
      clear hXr c0 c1 cf D1 m34 m34' m92
      generalize (wr.drewN (nq+m))=w5 at *
      have c0:w5.cell? ⟨B,0,none⟩=some (.string (mks s)):=X5.out.par.cell' (i:=0) rfl
      have c1:w5.cell? ⟨B,1,none⟩=some (.int .i64 (j:Int)):=X5.out.par.cell' (i:=1) rfl
      have p0:(0:Int)≤j:=by omega
      have p1:(j:Int)<n:=by omega
      have q0:j<(mks s).size:=by rw [hsz];omega
      have hg:=get_mks HHC.out (HS.out.get HHC.out) q0
      go_upto_region 6 with(fail)
      go_quiet (fail)
      have X6:=Lib.hid (X5.out.drewN nq)
      obtain⟨w6,hw6⟩:∃x,x=w5.drewN nq:=⟨_,rfl⟩
      rw [←hw6] at X6 ⊢
      clear hw6 c0 c1 X5
      have c0:w6.cell? ⟨B,0,none⟩=some (.string (mks s)):=X6.out.par.cell' (i:=0) rfl
      have c1:w6.cell? ⟨B,1,none⟩=some (.int .i64 (j:Int)):=X6.out.par.cell' (i:=1) rfl
      have D8:=Lib.hid (kb_byte z z (B8 acc) (c:Int) w6.drew (bld_below X6.out.bl (Below.drew (Below.refl _ _))) (by rw [length_B8];omega) X6.out.sz)
      go_upto_region 8 with(fail)
      go_still_tail 9,(by kernel_rfl)
      change wpList _ _ _ _ _ w6.drew
      go_upto_region 9 with(go_at_call 16;((with_reducible refine D8.out.mono ?_));rintro e w7 ⟨rfl,hu7,hb7,_⟩)
      have X7:Hid (TxK B w.heap.size z s vn w w7 j (acc ++ [c])):=TxK.byte (wr:=w6.drew) ⟨X6.out.par,X6.out.fr.drew,bld_below X6.out.bl (Below.drew (Below.refl _ _)),X6.out.sz⟩ hBz hs1 hu7 hb7
      clear X6 D8 hu7 hb7 c0 c1
      have c1:w7.cell? ⟨B,1,none⟩=some (.int .i64 (j:Int)):=X7.out.par.cell' (i:=1) rfl
      have cf:w7.frozen? ⟨B,1,none⟩=false:=X7.out.par.frozen 1
      have X8:Hid (TxK B w.heap.size z s vn w (w7.setCell ⟨B,1,none⟩ (.int .i64 ((j:Int)+1))) (j+1) (acc ++ [c])):=X7.out.setI hBz (j+1)
      have hO8:=Lib.hid (offK_eq X8.out.par)
      clear X7
      go_wp2_with (fail)
      go_roundw
      case rel=>exact⟨j+1,acc ++ [c],by omega,by rw [List.length_append,List.length_singleton];omega,hBA.out.append (By.cons (HS.out.get HHC.out) By.nil),Lib.hid ⟨f,hf⟩,X8⟩
      case measure=>rw [hO8.out,HOF.out];omega
end Go.Proofs.YtnnnagnjikdnnaaGreatDoor
namespace Go.Proofs.YtnnnagnjikdnnaaGreatDoor
open Go.RowKit
def kload (t:TypeId) (x:Operand):Op:=.load t x
@[go_sem] theorem kload_is (t:TypeId) (x:Operand):kload t x=.load t x:=rfl
theorem kload_eq (t:TypeId) (x:Operand):Op.load t x=kload t x:=rfl
def ValRK (B:Nat) (s:List Nat) (x:Nat→Prop) (w:World) (vn:Value) (lab:Nat→Option Nat) (st:KSt) (k:Nat) (st':KSt) (e:Ending) (w':World):Prop:=
  e=.returned (.int .i64 (k:Int))∧∃vn' ncs' lab',KM w' B s vn' ncs' lab' x st'∧PStep w w' (KF B vn lab) (KF B vn' lab')∧KRows w B lab st.nodes.length w' lab'∧st.nodes.length<st'.nodes.length
structure ItK (w0:World) (F0:Nat→Prop) (lab0:Nat→Option Nat) (B N n0:Nat) (kd:Int) (s:List Nat) (x:Nat→Prop) (wr:World) (vn:Value) (ncs:List Value) (lab:Nat→Option Nat) (vk vi:Value) (ks is:List Int) (st:KSt):Prop where
  km:KM wr B s vn ncs lab x st
  nd:Arr wr N 30 [.int .i64 kd,.string ⟨#[]⟩,.bool false,vk,vi]
  rk:BRow wr B lab (2*n0+2) vk ks
  ri:BRow wr B lab (2*n0+3) vi is
  ps:PStep w0 wr F0 (fun g=>KF B vn lab g∨g=N)
  rows:KRows w0 B lab0 n0 wr lab
  far:¬KF B vn lab N
  nn:n0<st.nodes.length
theorem PStep.plusN {w w':World} {F F':Nat→Prop} {N:Nat} (h:PStep w w' F F'):PStep w w' (fun g=>F g∨g=N) (fun g=>F' g∨g=N):=
  ⟨h.os,h.tape,h.output,h.size,fun k hk hn=>h.keep k hk (fun e=>hn (.inl e)),fun k hk=>hk.elim (fun e=>(h.new k e).elim (fun e=>.inl (.inl e)) .inr) (fun e=>.inl (.inr e))⟩
section
variable {w0 wr w':World} {F0:Nat→Prop} {lab0 lab:Nat→Option Nat} {B N n0:Nat} {kd:Int} {s:List Nat} {x:Nat→Prop} {vn vk vi:Value} {ncs:List Value} {ks is:List Int} {st st':KSt}
theorem ItK.ne (h:ItK w0 F0 lab0 B N n0 kd s x wr vn ncs lab vk vi ks is st):N≠B:=fun e=>h.far (.inl e)
theorem ItK.drewN (h:ItK w0 F0 lab0 B N n0 kd s x wr vn ncs lab vk vi ks is st) (m:Nat):ItK w0 F0 lab0 B N n0 kd s x (wr.drewN m) vn ncs lab vk vi ks is st:=by
  have hb:Below wr.heap.size wr (wr.drewN m):=Below.drewN' (Below.refl _ _) m
  exact⟨h.km.below hb,h.nd.keep hb,h.rk.below hb,h.ri.below hb,h.ps.trans (PStep.of_below hb),fun t v xs ht hr=>(h.rows t v xs ht hr).below hb,h.far,h.nn⟩
theorem ItK.drew (h:ItK w0 F0 lab0 B N n0 kd s x wr vn ncs lab vk vi ks is st):ItK w0 F0 lab0 B N n0 kd s x wr.drew vn ncs lab vk vi ks is st:=by
  have hb:Below wr.heap.size wr wr.drew:=Below.drew (Below.refl _ _)
  exact⟨h.km.below hb,h.nd.keep hb,h.rk.below hb,h.ri.below hb,h.ps.trans (PStep.of_below hb),fun t v xs ht hr=>(h.rows t v xs ht hr).below hb,h.far,h.nn⟩
theorem BRow.atw {t i':Nat} {v:Value} {xs:List Int} (h:BRow wr B lab t v xs) (hk:AtW wr B i' w') (hne:v.ownBlock≠some B):BRow w' B lab t v xs:=
  ⟨own_same h.1 fun g hg=>hk.hf.keep g (h.1.lt g hg).2 (fun e=>hne (by rw [hg,e])),h.2⟩
theorem KM.atw (h:KM wr B s vn ncs lab x st) {i':Nat} (hk:AtW wr B i' w'):KM w' B s vn ncs lab x { st with i:=i' }:=
  (h.setI i').below (by have : (wr.setCell ⟨B, 1, none⟩ (.int .i64 (i' : Int))).heap.size = wr.heap.size := by simp [World.setCell]
                        rw [this];exact hk)
theorem AtW.step {i':Nat} (hk:AtW wr B i' w'):PStep wr w' (KF B vn lab) (KF B vn lab):=by
  have hb:Below (wr.setCell ⟨B,1,none⟩ (.int .i64 (i':Int))).heap.size (wr.setCell ⟨B,1,none⟩ (.int .i64 (i':Int))) w':=by
    have:(wr.setCell ⟨B,1,none⟩ (.int .i64 (i':Int))).heap.size=wr.heap.size:=by simp [World.setCell]
    rw [this]
    exact hk
  exact(cstep_set (F:=KF B vn lab) (.inl rfl) 1 (.int .i64 (i':Int))).trans (PStep.of_below hb)
theorem KM.atw_rows (h:KM wr B s vn ncs lab x st) {i':Nat} (hk:AtW wr B i' w') (n:Nat):KRows wr B lab n w' lab:=fun _ _ _ _ hr=>hr.atw hk (h.rowNe hr)
theorem ItK.atw (h:ItK w0 F0 lab0 B N n0 kd s x wr vn ncs lab vk vi ks is st) {i':Nat} (hk:AtW wr B i' w'):ItK w0 F0 lab0 B N n0 kd s x w' vn ncs lab vk vi ks is { st with i:=i' }:=
  ⟨h.km.atw hk,(hk.hf.keep N h.nd.lt h.ne).trans h.nd,h.rk.atw hk (h.km.rowNe h.rk),h.ri.atw hk (h.km.rowNe h.ri),h.ps.trans hk.step.plusN,fun t v xs ht hr=>h.km.atw_rows hk n0 t v xs ht (h.rows t v xs ht hr),h.far,h.nn⟩
theorem ItK.setI (h:ItK w0 F0 lab0 B N n0 kd s x wr vn ncs lab vk vi ks is st) (i':Nat):ItK w0 F0 lab0 B N n0 kd s x (wr.setCell ⟨B,1,none⟩ (.int .i64 (i':Int))) vn ncs lab vk vi ks is { st with i:=i' }:=
  h.atw (⟨rfl,rfl,rfl,by simp [World.setCell],fun _ _=>rfl⟩)
theorem ItK.call {k:Nat} {e:Ending} (h:ItK w0 F0 lab0 B N n0 kd s x wr vn ncs lab vk vi ks is st) (hv:ValRK B s x wr vn lab st k st' e w'):∃vn' ncs' lab',ItK w0 F0 lab0 B N n0 kd s x w' vn' ncs' lab' vk vi ks is st':=by
  obtain⟨_,vn',ncs',lab',h1,h2,h3,h4⟩:=hv
  have hn:=h.nn
  have hN:=h.nd.lt
  refine⟨vn',ncs',lab',h1,(h2.keep N hN h.far).trans h.nd,h3 _ _ _ (by omega) h.rk,h3 _ _ _ (by omega) h.ri,h.ps.trans h2.plusN,h.rows.trans h3 (by omega),fun e=>?_,by omega⟩
  rcases h2.new N e with e2 | e2
  · exact h.far e2
  · omega
theorem ItK.pushK {o : Obj} {v' : Value} {w3 : World} {k : Int} (h : ItK w0 F0 lab0 B N n0 kd s x wr vn ncs lab vk vi ks is st) (hx : x n0) (hown : w3.ownsRow B 3 1 v' (ks.length + 1) (I64 ks ++ [.int .i64 k])) (hgr : (wr.alloc o).grownBy w3 vk.ownBlock)
    (hat:v'.ownBlock=vk.ownBlock∨v'.ownBlock=some (wr.alloc o).heap.size):ItK w0 F0 lab0 B N n0 kd s x (w3.setCell ⟨N,3,none⟩ v') vn ncs (labPut lab v' (2*n0+2)) v' vi (ks ++ [k]) is st:=by
  obtain⟨g1,g2,g3,g4⟩:=h.km.grow hx (.inl rfl) h.rk hown hgr hat
  have hN:=h.nd.lt
  have hfar:¬KF B vn (labPut lab v' (2*n0+2)) N:=fun e=>by
    rcases g4.new N e with e2 | e2
    · exact h.far e2
    · omega
  exact⟨g1.far (p:=⟨N,3,none⟩) hfar v',(arr_grew h.nd h.rk.1 (by decide) hgr).store 3 v',g2.farK (p:=⟨N,3,none⟩) hfar v',(g3 _ _ _ (by omega) h.ri).farK (p:=⟨N,3,none⟩) hfar v',
    (h.ps.trans g4.plusN).trans (cstep_set (.inr rfl) 3 v'),fun t v xs ht hr=>(g3 _ _ _ (by omega) (h.rows t v xs ht hr)).farK (p:=⟨N,3,none⟩) hfar v',hfar,h.nn⟩
theorem ItK.pushI {o : Obj} {v' : Value} {w3 : World} {k : Int} (h : ItK w0 F0 lab0 B N n0 kd s x wr vn ncs lab vk vi ks is st) (hx : x n0) (hown : w3.ownsRow B 3 1 v' (is.length + 1) (I64 is ++ [.int .i64 k])) (hgr : (wr.alloc o).grownBy w3 vi.ownBlock)
    (hat:v'.ownBlock=vi.ownBlock∨v'.ownBlock=some (wr.alloc o).heap.size):ItK w0 F0 lab0 B N n0 kd s x (w3.setCell ⟨N,4,none⟩ v') vn ncs (labPut lab v' (2*n0+3)) vk v' ks (is ++ [k]) st:=by
  obtain⟨g1,g2,g3,g4⟩:=h.km.grow hx (.inr rfl) h.ri hown hgr hat
  have hN:=h.nd.lt
  have hfar:¬KF B vn (labPut lab v' (2*n0+3)) N:=fun e=>by
    rcases g4.new N e with e2 | e2
    · exact h.far e2
    · omega
  exact⟨g1.far (p:=⟨N,4,none⟩) hfar v',(arr_grew h.nd h.ri.1 (by decide) hgr).store 4 v',(g3 _ _ _ (by omega) h.rk).farK (p:=⟨N,4,none⟩) hfar v',g2.farK (p:=⟨N,4,none⟩) hfar v',
    (h.ps.trans g4.plusN).trans (cstep_set (.inr rfl) 4 v'),fun t v xs ht hr=>(g3 _ _ _ (by omega) (h.rows t v xs ht hr)).farK (p:=⟨N,4,none⟩) hfar v',hfar,h.nn⟩
end
def lenNK (N:Nat) (w:World):Nat:=match w.cell? ⟨N,4,none⟩ with | some (.slice _ l _)=>l | _=>0
end Go.Proofs.YtnnnagnjikdnnaaGreatDoor
