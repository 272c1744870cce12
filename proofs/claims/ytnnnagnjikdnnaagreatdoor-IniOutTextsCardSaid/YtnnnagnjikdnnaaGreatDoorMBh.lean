/- strings.Builder as the first field of iniout's printer: the walks of its methods over a block of that shape. -/
import Derived.Test.YtnnnagnjikdnnaaGreatDoorMAd
import Derived.Test.YtnnnagnjikdnnaaGreatDoorMAa
import Derived.Lib.FrozenHead2
import Derived.Test.YtnnnagnjikdnnaaGreatDoorMAj
import Derived.Test.YtnnnagnjikdnnaaGreatDoorMAc
set_option linter.unusedVariables false
set_option linter.unusedSimpArgs false
set_option linter.defProp false
set_option linter.constructorNameAsVariable false
namespace Go.Proofs.YtnnnagnjikdnnaaGreatDoor
open Go.RowKit
def IpAt (B b:Nat) (p n r:Value) (bs:List Value) (w:World):Prop:=
 B≤b∧∃v,w.heap[b]? = some (.cells #[p,v,n,r] 51 (0,0))∧w.ownsRowF B 5 1 v bs.length bs∧v.ownBlock≠some b
abbrev IpU (B b:Nat) (n r:Value) (bs:List Value) (w:World):Prop:=IpAt B b (.pointer (some ⟨b,0,none⟩)) n r bs w
def IpF (B b:Nat) (n r:Value) (bs:List Value) (w:World):Prop:=IpAt B b (.pointer none) n r bs w∨IpU B b n r bs w
section
variable {B b:Nat} {p n r:Value} {bs:List Value} {w:World}
theorem IpAt.lt (h:IpAt B b p n r bs w):b<w.heap.size:=by
 obtain⟨_,v,hb,_⟩:=h
 exact(Array.getElem?_eq_some_iff.1 hb).1
theorem IpAt.cells (h:IpAt B b p n r bs w):w.cell? ⟨b,0,none⟩=some p∧w.cell? ⟨b,2,none⟩=some n∧w.cell? ⟨b,3,none⟩=some r:=by
 obtain⟨_,v,hb,_⟩:=h
 refine⟨?_,?_,?_⟩ <;> (rw [Lib.cell_of_heap hb];rfl)
theorem IpAt.shape (h:IpAt B b p n r bs w):w.shape? b=some (51,4):=by
 obtain⟨_,v,hb,_⟩:=h
 simp [World.shape?,hb]
theorem IpAt.frozen0 (h:IpAt B b p n r bs w):w.frozen? ⟨b,0,none⟩=false:=by
 obtain⟨_,v,hb,_⟩:=h
 simp [World.frozen?,hb]
theorem IpAt.used (h:IpAt B b p n r bs w) (q:Value):IpAt B b q n r bs (w.setCell ⟨b,0,none⟩ q):=by
 obtain⟨hB,v,hb,hown,hne⟩:=h
 refine⟨hB,v,?_,?_,hne⟩
 ·simp [World.setCell,Array.getElem?_modify,hb]
 ·refine hown.kept (row:=some b) ⟨rfl,rfl,rfl,by simp [World.setCell],fun k _ hk=>Below.heap_setCell _ _ _ _ (fun e=>hk (by simp [e]))⟩ ?_
  exact Or.inr hne
theorem IpAt.put {v v':Value} {bs':List Value} (hB:B≤b) (hb:w.heap[b]? = some (.cells #[p,v,n,r] 51 (0,0))) (hown:w.ownsRowF B 5 1 v' bs'.length bs'):IpAt B b p n r bs' (w.setCell ⟨b,1,none⟩ v'):=by
 have hne:=Lib.ownBlock_neF hown hb (by decide)
 refine⟨hB,v',?_,?_,hne⟩
 ·simp [World.setCell,Array.getElem?_modify,hb]
 ·exact hown.kept (row:=some b) ⟨rfl,rfl,rfl,by simp [World.setCell],fun k _ hk=>Below.heap_setCell _ _ _ _ (fun e=>hk (by simp [e]))⟩ (Or.inr hne)
theorem IpAt.drew (h:IpAt B b p n r bs w):IpAt B b p n r bs w.drew:=h
theorem IpAt.below {w':World} (h:IpAt B b p n r bs w) (hb:Below w.heap.size w w'):IpAt B b p n r bs w':=by
 have hlt:=h.lt
 obtain⟨hB,v,hk,hown,hne⟩:=h
 refine⟨hB,v,(hb.block b hlt).trans hk,?_,hne⟩
 exact hown.kept (row:=none) ⟨hb.os,hb.tape,hb.output,hb.size,fun k hk' _=>hb.block k hk'⟩ (by cases hv:v.ownBlock <;> simp)
end
theorem Tryz.lsIprinter:liesAt Tryz.prog Tryz.prog.depth 51 (4 / Tryz.prog.cellsOf 51) 0 49 1=true:=by kernel_rfl
set_option maxRecDepth 100000 in
set_option maxHeartbeats 1000000 in
theorem ip_fresh (b:Nat) (w:World) (h0:w.cell? ⟨b,0,none⟩=some (.pointer none)) (hsh:w.shape? b=some (51,4)) (hfz:w.frozen? ⟨b,0,none⟩=false) :
  Calls Tryz.prog 38 #[.pointer (some ⟨b,0,none⟩)] w fun e w'=>e=.returned (.tuple #[])∧w'=w.setCell ⟨b,0,none⟩ (.pointer (some ⟨b,0,none⟩)):=by
 obtain⟨j,hj,hjs⟩:=Option.map_eq_some_iff.1 Tryz.szBuilder
 go_enter Tryz.func38,Tryz.ntmps38
 go_wp2
 rw [Lib.run_to_unsafe w ⟨b,0,none⟩ Tryz.underlying46 Tryz.underlying123 hj (by rw [hjs];decide) hsh (show 0<4 from by decide)]
 simp only [Result.andThen]
 rw [Oper.upon_value]
 go_wp2
 rw [run_callFunc_extern Tryz.func72 (by kernel_rfl) (by kernel_rfl) (by kernel_rfl) (e:=Extern.AbiNoEscape.same) (by kernel_rfl)]
 rw [Lib.run_noEscape]
 simp only [Result.andThen]
 rw [Oper.upon_value]
 go_wp2
 rw [Lib.run_from_unsafe w ⟨b,0,none⟩ Tryz.underlying123 Tryz.underlying46 hj hsh Tryz.lsIprinter]
 simp only [Result.andThen]
 rw [Oper.upon_value]
 go_wp2
 go_end0
 exact⟨rfl,rfl⟩
theorem ip_check (B b:Nat) (n r:Value) (bs:List Value) (w:World) (h:IpF B b n r bs w) :
  Calls Tryz.prog 38 #[.pointer (some ⟨b,0,none⟩)] w fun e w'=>e=.returned (.tuple #[])∧IpU B b n r bs w'∧Below B w w'∧Others b w w':=by
 rcases h with h | h
 ·refine(ip_fresh b w h.cells.1 h.shape h.frozen0).mono ?_
  rintro e w' ⟨rfl,rfl⟩
  exact⟨rfl,h.used _,(Below.refl B w).setCell (p:=⟨b,0,none⟩) h.1 _,(Lib.OthersKept.refl _ _ w).setCell ⟨b,0,none⟩ rfl _⟩
 ·refine(copyCheck_used b w h.cells.1).mono ?_
  rintro e w' ⟨rfl,rfl⟩
  exact⟨rfl,h,Below.refl B _,Lib.OthersKept.refl _ _ _⟩
set_option maxHeartbeats 2000000 in
set_option maxRecDepth 100000 in
theorem ip_byte (B b:Nat) (n r:Value) (bs:List Value) (c:Int) (w:World) (h:IpF B b n r bs w) (hlen:bs.length+1≤140737488355328) (hBw:B≤w.heap.size) :
  Calls Tryz.prog 16 #[.pointer (some ⟨b,0,none⟩),.int .u8 c] w fun e w'=>e=.returned .nilIface∧IpU B b n r (bs ++ [.int .u8 c]) w'∧Below B w w'∧Others b w w':=by
 obtain⟨i0,hi,hz0,hz1,hz2⟩:=info_parts Tryz.info5
 go_enter Tryz.func16,Tryz.ntmps16
 go_wp2_with (go_at_call 38;refine(ip_check B b n r bs _ h).mono ?_)
 rintro e w1 ⟨rfl,h1,hb1,hk1⟩
 obtain⟨hB,v,hbk,hown,hne⟩:=h1
 have c0:w1.cell? ⟨b,0,none⟩=some (.pointer (some ⟨b,0,none⟩)):=by rw [Lib.cell_of_heap hbk];rfl
 have c1:w1.cell? ⟨b,1,none⟩=some v:=by rw [Lib.cell_of_heap hbk];rfl
 go_wp2_with (at_builtin;refine wpList_append_ownF _ rfl _ _ 47 rfl B 5 i0 (.int .u8 0) 1 1 Tryz.underlying47 hi hz0 hz1 hz2 rfl (by decide) _ _ _ rfl (hown.alloc _) ⟨w1.heap.size,0,none⟩ 1 1 [.int .u8 c] rfl rfl ?c1 ?c2 ?c3 ?c4 ?c5 ?_)
 case c1=>
  intro j u hj
  match j,hj with
  | 0,hj=>simp at hj;subst hj;simp [Addr.add]
 case c2=>intro u hu;simp at hu;subst hu;rfl
 case c3=>unfold maxLen;omega
 case c4=>omega
 case c5=>have:=hb1.size;simp;omega
 intro v' w2 hown' hgrow _
 have hlt:b<w1.heap.size:=(Array.getElem?_eq_some_iff.1 hbk).1
 have hb2:w2.heap[b]? = some (.cells #[.pointer (some ⟨b,0,none⟩),v,n,r] 51 (0,0)):=by
  rw [hgrow.block b (by simp;omega) (fun e=>hne e.symm),Lib.alloc_old w1 _ b hlt]
  exact hbk
 have d0:w2.cell? ⟨b,0,none⟩=some (.pointer (some ⟨b,0,none⟩)):=by rw [Lib.cell_of_heap hb2];rfl
 have d1:w2.cell? ⟨b,1,none⟩=some v:=by rw [Lib.cell_of_heap hb2];rfl
 have f1:w2.frozen? ⟨b,1,none⟩=false:=Lib.frozen_of_heap hb2 1
 obtain⟨g,cap,rfl⟩:∃g cap,v'=.slice (some ⟨g,0,none⟩) (bs.length+1) cap:=by
  rcases hown'.2 with⟨_,h0⟩ | ⟨g,cap,cur,fz,hv,_⟩
  ·omega
  ·exact⟨g,cap,hv⟩
 go_wp2
 go_ret
 refine⟨rfl,?_,?_,((hk1.alloc _).grown hgrow (Lib.ownsRowF_kind (hown.alloc _))).setCell ⟨b,1,none⟩ rfl _⟩
 ·exact IpAt.put hB hb2 (bs':=bs ++ [.int .u8 c]) (by simpa using hown')
 ·exact((hb1.alloc (by have:=hb1.size;omega) _).grown hgrow (by have:=hb1.size;simp;omega) (fun k hk=>(hown.lt k hk).1)).setCell (p:=⟨b,1,none⟩) hB _
set_option maxHeartbeats 2000000 in
set_option maxRecDepth 100000 in
theorem ip_string (B b:Nat) (n r:Value) (bs:List Value) (s:ByteArray) (w:World) (h:IpF B b n r bs w) (hlen:bs.length+s.size≤140737488355328) (hBw:B≤w.heap.size) :
  Calls Tryz.prog 17 #[.pointer (some ⟨b,0,none⟩),.string s] w fun e w'=>e=.returned (.tuple #[.int .i64 s.size,.nilIface])∧IpU B b n r (bs ++ Lib.strCells s) w'∧Below B w w'∧Others b w w':=by
 obtain⟨i0,hi,hz0,hz1,hz2⟩:=info_parts Tryz.info5
 go_enter Tryz.func17,Tryz.ntmps17
 go_wp2_with (go_at_call 38;refine(ip_check B b n r bs _ h).mono ?_)
 rintro e w1 ⟨rfl,h1,hb1,hk1⟩
 obtain⟨hB,v,hbk,hown,hne⟩:=h1
 have c0:w1.cell? ⟨b,0,none⟩=some (.pointer (some ⟨b,0,none⟩)):=by rw [Lib.cell_of_heap hbk];rfl
 have c1:w1.cell? ⟨b,1,none⟩=some v:=by rw [Lib.cell_of_heap hbk];rfl
 go_wp2_with (at_builtin;refine Lib.wpList_append_own_stringF _ rfl _ _ 47 9 rfl B 5 i0 Tryz.underlying47 Tryz.underlying9 hi hz0 hz1 hz2 _ _ _ rfl hown s rfl ?c3 ?c4 ?c5 ?_)
 case c3=>unfold maxLen;omega
 case c4=>omega
 case c5=>have:=hb1.size;omega
 intro v' w2 hown' hgrow _
 have hlt:b<w1.heap.size:=(Array.getElem?_eq_some_iff.1 hbk).1
 have hb2:w2.heap[b]? = some (.cells #[.pointer (some ⟨b,0,none⟩),v,n,r] 51 (0,0)):=by
  rw [hgrow.block b hlt (fun e=>hne e.symm)]
  exact hbk
 have d0:w2.cell? ⟨b,0,none⟩=some (.pointer (some ⟨b,0,none⟩)):=by rw [Lib.cell_of_heap hb2];rfl
 have d1:w2.cell? ⟨b,1,none⟩=some v:=by rw [Lib.cell_of_heap hb2];rfl
 have f1:w2.frozen? ⟨b,1,none⟩=false:=Lib.frozen_of_heap hb2 1
 obtain⟨ao,n',cap,rfl⟩:∃ao n' cap,v'=.slice ao n' cap:=by
  rcases hown'.2 with⟨hv,_⟩ | ⟨g,cap,cur,fz,hv,_⟩
  ·exact⟨_,_,_,hv⟩
  ·exact⟨_,_,_,hv⟩
 go_wp2
 go_ret2
 refine⟨rfl,?_,?_,(hk1.grown hgrow (Lib.ownsRowF_kind hown)).setCell ⟨b,1,none⟩ rfl _⟩
 ·exact IpAt.put hB hb2 (bs':=bs ++ Lib.strCells s) (by simpa [Lib.strCells_length] using hown')
 ·exact(hb1.grown hgrow (by have:=hb1.size;omega) (fun k hk=>(hown.lt k hk).1)).setCell (p:=⟨b,1,none⟩) hB _
set_option maxHeartbeats 1000000 in
set_option maxRecDepth 100000 in
theorem ip_text (B b:Nat) (p n r:Value) (s:List UInt8) (w:World) (h:IpAt B b p n r (Lib.byteCells s) w) (h0:s≠[]) :
  Calls Tryz.prog 20 #[.pointer (some ⟨b,0,none⟩)] w fun e w'=>e=.returned (.string ⟨s.toArray⟩)∧Below B w w'∧Others b w w':=by
 obtain⟨hB,v,hbk,hown,hne⟩:=h
 have hl0:s.length≠0:=by simpa using h0
 rw [Lib.byteCells_length] at hown
 obtain⟨g,cap,cur,fz,rfl,hbg,hg,hfz,hnc,hcm,hcs,htake⟩:∃g cap cur fz,v=.slice (some ⟨g,0,none⟩) s.length cap∧B≤g∧w.heap[g]? = some (.cells cur 5 fz)∧fz.2≤s.length*1∧s.length≤cap∧cap≤maxLen∧cur.size=cap*1∧cur.toList.take (s.length*1)=Lib.byteCells s:=by
  rcases hown.2 with⟨_,hz⟩ | ⟨g,cap,cur,fz,hv,r⟩
  ·exact absurd hz hl0
  ·exact⟨g,cap,cur,fz,hv,r⟩
 have c1:w.drew.cell? ⟨b,1,none⟩=some (.slice (some ⟨g,0,none⟩) s.length cap):=by
  have:w.drew.heap[b]? = some (.cells #[p,.slice (some ⟨g,0,none⟩) s.length cap,n,r] 51 (0,0)):=hbk
  rw [Lib.cell_of_heap this];rfl
 have hSD:(Builtin.unsafeSliceData_ #[47] 92 #[.slice (some ⟨g,0,none⟩) s.length cap]).run Tryz.prog w.drew=.ok (.pointer (some ⟨g,0,none⟩)) w.drew:=
  Lib.run_unsafeSliceData_row _ _ _ _ _ _ (by omega)
 have hUS:(Builtin.unsafeString_ #[92,3] 9 #[.pointer (some ⟨g,0,none⟩),.int .i64 s.length]).run Tryz.prog w.drew=.ok (.string ⟨s.toArray⟩) (w.drew.freeze ⟨g,0,none⟩ s.length):=by
  refine Lib.run_unsafeString_row w.drew 92 3 9 5 Tryz.underlying92 (by kernel_rfl) g cur.size (by have hg':w.drew.heap[g]? = some (.cells cur 5 fz):=hg;simp [World.shape?,hg']) s h0 (by omega) (by unfold maxLen at hcm;omega) ?_
  intro j x hx
  have:=hown.cells (g:=g) rfl j (.int .u8 x.toNat) (by simp [Lib.byteCells,hx])
  exact this
 have mixed:Tryz.prog.follows .mixedOrders=true:=by kernel_rfl
 go_enter Tryz.func20,Tryz.ntmps20
 go_wp2
 go_region_o
 all_goals (go_wp2;go_ret;exact⟨rfl,Lib.below_freeze (Below.drew (Below.refl B w)) (p:=⟨g,0,none⟩) hbg _,((Lib.OthersKept.refl _ _ w).drew).freeze ⟨g,0,none⟩ _ ⟨cur,fz,hg⟩⟩)
set_option maxRecDepth 100000 in
theorem ip_len (B b:Nat) (p n r:Value) (bs:List Value) (w:World) (h:IpAt B b p n r bs w) :
  Calls Tryz.prog 15 #[.pointer (some ⟨b,0,none⟩)] w fun e w'=>e=.returned (.int .i64 (bs.length:Int))∧w'=w:=by
 obtain⟨hB,v,hbk,hown,hne⟩:=h
 have c1:w.cell? ⟨b,1,none⟩=some v:=by rw [Lib.cell_of_heap hbk];rfl
 obtain⟨ao,cap,rfl⟩:∃ao cap,v=.slice ao bs.length cap:=by
  rcases hown.2 with⟨hv,h0⟩ | ⟨g,cap,cur,fz,hv,_⟩
  ·exact⟨none,0,by rw [hv,h0]⟩
  ·exact⟨_,_,hv⟩
 clear hbk hown hne
 go_enter Tryz.func15,Tryz.ntmps15
 go_wp2
 go_ret
 exact⟨rfl,rfl⟩
end Go.Proofs.YtnnnagnjikdnnaaGreatDoor
namespace Go.Proofs.YtnnnagnjikdnnaaGreatDoor
open Go.RowKit
def VU (l:List Nat):Prop:=checkG l.length 0 l=none
theorem VU.nil:VU []:=checkG_end
theorem VU.step {l:List Nat} (h:VU l) (hne:l≠[]):decL l≠(65533,1)∧VU (l.drop (decL l).2):=by
 unfold VU at h
 have hp:=List.length_pos_iff.2 hne
 obtain⟨n,hn⟩:∃n,l.length=n+1:=⟨l.length - 1,by omega⟩
 rw [hn] at h
 obtain⟨h1,h2⟩:=checkG_step hne h
 exact⟨h1,check_gen h2 (by rw [List.length_drop];have:=(decL_bd l).2;omega) (Nat.le_refl _)⟩
theorem VU.tail {c:Nat} {l:List Nat} (h:VU (c :: l)) (hc:c<128):VU l:=by
 unfold VU at h
 rw [List.length_cons,check_ascii hc] at h
 exact check_gen h (Nat.le_refl _) (Nat.le_refl _)
theorem VU.split:∀(n:Nat) (r x:List Nat),r.length≤n→VU (r ++ x)→x.getD 0 0<128→VU x:=by
 intro n
 induction n with
 | zero=>
  intro r x hr h _
  obtain rfl:r = []:=List.eq_nil_of_length_eq_zero (by omega)
  exact h
 | succ n ih=>
  intro r x hr h hx
  by_cases hne:r = []
  ·subst hne;exact h
  ·obtain⟨_,h2⟩:=h.step (by simp [hne])
   obtain⟨_,hk⟩:=decL_local hne hx hx
   have hk1:=(decL_bd (r ++ x)).2
   rw [List.drop_append_of_le_length hk] at h2
   exact ih _ _ (by rw [List.length_drop];omega) h2 hx
theorem VU.drop {l:List Nat} (h:VU l) (n:Nat) (hn:(l.drop n).getD 0 0<128):VU (l.drop n):=
 VU.split _ (l.take n) (l.drop n) (Nat.le_refl _) (by rw [List.take_append_drop];exact h) hn
theorem getD_drop (l:List Nat) (n:Nat):(l.drop n).getD 0 0=l.getD n 0:=by simp [List.getD_eq_getElem?_getD]
theorem decL_ascii {c:Nat} (t:List Nat) (hc:c<128):decL (c :: t)=(c,1):=by
 rw [decL_N]
 have:(c :: t).getD 0 0 % 256=c:=by show c % 256=c;omega
 rw [this,Lib.decodeN_ascii _ _ _ _ _ hc]
theorem u8s_back {l:List Nat} (hb:By l):(u8s l).map UInt8.toNat=l:=by
 unfold u8s
 rw [List.map_map]
 refine(List.map_congr_left fun c hc=>?_).trans (List.map_id l)
 have:=hb c hc
 simp;omega
theorem enc_dec {l:List Nat} (hb:By l) (hne:l≠[]) (hv:decL l≠(65533,1)):encL ((decL l).1:Int)=l.take (decL l).2:=by
 have h:=Lib.encode_decode (u8s l) (by intro h;exact hne (List.map_eq_nil_iff.1 h)) (fun h=>hv (by unfold decL;exact Prod.ext h.1 h.2))
 unfold encL
 show(Lib.encodeRune ((Lib.decodeL (u8s l)).1:Int)).map UInt8.toNat=_
 rw [h,List.map_take,u8s_back hb]
 rfl
theorem decL_high {c:Nat} {t:List Nat} (hb:By (c :: t)) (hc:¬c<128) (hv:decL (c :: t)≠(65533,1)):128≤(decL (c :: t)).1∧∀x∈(c :: t).take (decL (c :: t)).2,128≤x:=by
 have hne:c :: t≠[]:=List.cons_ne_nil _ _
 have hk:=(decL_bd (c :: t)).2
 constructor
 ·rcases Nat.lt_or_ge (decL (c :: t)).1 128 with h | h
  ·exfalso
   have he:=enc_dec hb hne hv
   obtain⟨k,hk2⟩:∃k,(decL (c :: t)).2=k+1:=⟨(decL (c :: t)).2 - 1,by omega⟩
   rw [hk2,List.take_succ_cons] at he
   unfold encL Lib.encodeRune at he
   rw [Lib.encodeRuneZ_one (by omega) (by omega)] at he
   simp only [List.map_cons,List.map_nil] at he
   injection he with he _
   have:(((decL (c :: t)).1:Int).toNat.toUInt8).toNat=(decL (c :: t)).1:=by simp;omega
   omega
  ·exact h
 ·intro x hx
  obtain⟨j,hj,hxj⟩:=List.getElem_of_mem hx
  have hlt:j<(decL (c :: t)).2:=by rw [List.length_take] at hj;omega
  have hxs:(c :: t)[j]? = some x:=by
   rw [List.getElem_take] at hxj
   rw [←hxj]
   exact List.getElem?_eq_getElem _
  rcases Nat.lt_or_ge x 128 with h | h
  ·exfalso
   cases j with
   | zero=>simp at hxs;omega
   | succ j=>
    have hd:((c :: t).drop (j+1)).getD 0 0<128:=by rw [getD_drop,List.getD_eq_getElem?_getD,hxs];exact h
    have hl:=(decL_local (r:=(c :: t).take (j+1)) (by simp) hd hd).2
    rw [List.take_append_drop,List.length_take] at hl
    omega
  ·exact h
end Go.Proofs.YtnnnagnjikdnnaaGreatDoor
namespace Go.Proofs.YtnnnagnjikdnnaaGreatDoor
open Go.RowKit
theorem VU.after {l:List Nat} (h:VU l) {n:Nat} (h1:1≤n) (hn:n≤l.length) (hc:l.getD (n - 1) 0<128):VU (l.drop n):=by
 have h2:=h.drop (n - 1) (by rw [getD_drop];exact hc)
 obtain⟨c,hx⟩:∃c,l[n - 1]? = some c:=⟨_,List.getElem?_eq_getElem (by omega)⟩
 rw [drop_cons hx] at h2
 rw [List.getD_eq_getElem?_getD,hx] at hc
 have h3:=h2.tail hc
 rwa [show n - 1+1=n by omega] at h3
end Go.Proofs.YtnnnagnjikdnnaaGreatDoor
namespace Go.Proofs.YtnnnagnjikdnnaaGreatDoor
open Go.RowKit
def encR (n:Nat):List Nat:=
 if n<128 then [n] else if n<2048 then [192+n / 64,128+n % 64] else if n<65536 then [224+n / 4096,128+n / 64 % 64,128+n % 64]
 else [240+n / 262144,128+n / 4096 % 64,128+n / 64 % 64,128+n % 64]
theorem encR_eq (n:Nat) (h:n≤1114111) (hs:n<55296∨57343<n):encR n=encL (n:Int):=by
 have hb:∀x:Int,0≤x→x<256→(x.toNat.toUInt8).toNat=x.toNat:=fun x h0 h1=>by simp;omega
 unfold encR encL Lib.encodeRune
 by_cases h1:n<128
 ·rw [if_pos h1,Lib.encodeRuneZ_one (by omega) (by omega)]
  simp only [List.map_cons,List.map_nil]
  rw [hb _ (by omega) (by omega)]
  simp
 rw [if_neg h1]
 by_cases h2:n<2048
 ·rw [if_pos h2,Lib.encodeRuneZ_two (by omega) (by omega)]
  simp only [List.map_cons,List.map_nil]
  rw [hb _ (by omega) (by omega),hb _ (by omega) (by omega)]
  simp only [List.cons.injEq,and_true]
  omega
 rw [if_neg h2]
 by_cases h3:n<65536
 ·rw [if_pos h3,Lib.encodeRuneZ_three (by omega)]
  simp only [List.map_cons,List.map_nil]
  rw [hb _ (by omega) (by omega),hb _ (by omega) (by omega),hb _ (by omega) (by omega)]
  simp only [List.cons.injEq,and_true]
  omega
 rw [if_neg h3,Lib.encodeRuneZ_four (by omega) (by omega)]
 simp only [List.map_cons,List.map_nil]
 rw [hb _ (by omega) (by omega),hb _ (by omega) (by omega),hb _ (by omega) (by omega),hb _ (by omega) (by omega)]
 simp only [List.cons.injEq,and_true]
 omega
end Go.Proofs.YtnnnagnjikdnnaaGreatDoor
namespace Go.Proofs.YtnnnagnjikdnnaaGreatDoor
open Go.RowKit
set_option maxHeartbeats 1000000 in
theorem decN_more {n n' b0 b1 b2 b3 c1 c2 c3:Nat} (h:Lib.decodeN n b0 b1 b2 b3≠(65533,1)) (hn:n≤n') (h1:1<n→c1=b1) (h2:2<n→c2=b2) (h3:3<n→c3=b3):Lib.decodeN n' b0 c1 c2 c3=Lib.decodeN n b0 b1 b2 b3:=by
 by_cases a0:b0<128
 ·rw [Lib.decodeN_ascii _ _ _ _ _ a0,Lib.decodeN_ascii _ _ _ _ _ a0]
 unfold Lib.decodeN at h ⊢
 rw [if_neg a0] at h ⊢
 rw [if_neg a0]
 by_cases a1:b0 / 32=6∧(1<n∧b1 / 64=2)
 ·rw [if_pos a1,h1 a1.2.1,if_pos ⟨a1.1,by omega,a1.2.2⟩]
 rw [if_neg a1] at h ⊢
 by_cases a2:b0 / 16=14∧(1<n∧b1 / 64=2)∧(2<n∧b2 / 64=2)
 ·rw [if_pos a2,h1 a2.2.1.1,h2 a2.2.2.1,if_neg (fun e=>by omega),if_pos ⟨a2.1,⟨by omega,a2.2.1.2⟩,by omega,a2.2.2.2⟩]
 rw [if_neg a2] at h ⊢
 by_cases a3:b0 / 8=30∧(1<n∧b1 / 64=2)∧(2<n∧b2 / 64=2)∧(3<n∧b3 / 64=2)
 ·rw [if_pos a3,h1 a3.2.1.1,h2 a3.2.2.1.1,h3 a3.2.2.2.1,if_neg (fun e=>by omega),if_neg (fun e=>by omega),if_pos ⟨a3.1,⟨by omega,a3.2.1.2⟩,⟨by omega,a3.2.2.1.2⟩,by omega,a3.2.2.2.2⟩]
 rw [if_neg a3] at h
 exact absurd rfl h
theorem getD_app_n {l:List Nat} (m:List Nat) {i:Nat} (h:i<l.length):(l ++ m).getD i 0=l.getD i 0:=by
 rw [List.getD_eq_getElem?_getD,List.getD_eq_getElem?_getD,List.getElem?_append_left h]
theorem decL_more {l:List Nat} (m:List Nat) (hne:l≠[]) (h:decL l≠(65533,1)):decL (l ++ m)=decL l:=by
 have hp:=List.length_pos_iff.2 hne
 rw [decL_N] at h
 rw [decL_N,decL_N,getD_app_n m hp]
 exact decN_more h (by rw [List.length_append];omega) (fun h1=>by rw [getD_app_n m h1]) (fun h1=>by rw [getD_app_n m h1]) (fun h1=>by rw [getD_app_n m h1])
theorem VU.cons_step {l:List Nat} (hne:l≠[]) (h:decL l≠(65533,1)) (hv:VU (l.drop (decL l).2)):VU l:=by
 have hp:=List.length_pos_iff.2 hne
 unfold VU at hv ⊢
 obtain⟨n,hn⟩:∃n,l.length=n+1:=⟨l.length - 1,by omega⟩
 rw [hn,checkG,if_neg hne,if_neg h]
 exact check_gen hv (Nat.le_refl _) (by rw [List.length_drop];have:=(decL_bd l).2;omega)
theorem VU.app (m:List Nat) (hm:VU m):∀(n:Nat) (l:List Nat),l.length≤n→VU l→VU (l ++ m):=by
 intro n
 induction n with
 | zero=>intro l h _;rw [List.eq_nil_of_length_eq_zero (by omega:l.length=0)];exact hm
 | succ n ih=>
  intro l hl h
  by_cases hne:l = []
  ·subst hne;exact hm
  obtain⟨h1,h2⟩:=h.step hne
  have hd:=decL_more m hne h1
  refine VU.cons_step (by simp [hne]) (by rw [hd];exact h1) ?_
  rw [hd,List.drop_append_of_le_length (decL_le l hne)]
  exact ih _ (by rw [List.length_drop];have:=(decL_bd l).2;have:=List.length_pos_iff.2 hne;omega) h2
theorem decN_2 {b0 b1 n k:Nat} (hk:1<k) (e0:b0=192+n / 64) (e1:b1=128+n % 64) (h1:128≤n) (h2:n<2048) (x y:Nat):Lib.decodeN k b0 b1 x y=(n,2):=by
 unfold Lib.decodeN
 rw [if_neg (by omega),if_pos ⟨by omega,hk,by omega⟩,if_pos (by omega)]
 have:b0 % 32*64+b1 % 64=n:=by omega
 rw [this]
theorem decN_3 {b0 b1 b2 n k:Nat} (hk:2<k) (e0:b0=224+n / 4096) (e1:b1=128+n / 64 % 64) (e2:b2=128+n % 64) (h1:2048≤n) (h2:n<65536) (hs:n<55296∨57343<n) (y:Nat):Lib.decodeN k b0 b1 b2 y=(n,3):=by
 have this:b0 % 16*4096+b1 % 64*64+b2 % 64=n:=by omega
 unfold Lib.decodeN
 rw [if_neg (by omega),if_neg (fun e=>by omega),if_pos ⟨by omega,⟨by omega,by omega⟩,hk,by omega⟩,this,if_pos (by omega)]
theorem decN_4 {b0 b1 b2 b3 n k:Nat} (hk:3<k) (e0:b0=240+n / 262144) (e1:b1=128+n / 4096 % 64) (e2:b2=128+n / 64 % 64) (e3:b3=128+n % 64) (h1:65536≤n) (h2:n≤1114111):Lib.decodeN k b0 b1 b2 b3=(n,4):=by
 have this:b0 % 8*262144+b1 % 64*4096+b2 % 64*64+b3 % 64=n:=by omega
 unfold Lib.decodeN
 rw [if_neg (by omega),if_neg (fun e=>by omega),if_neg (fun e=>by omega),if_pos ⟨by omega,⟨by omega,by omega⟩,⟨by omega,by omega⟩,hk,by omega⟩,this,if_pos (by omega)]
theorem VU.enc {n:Nat} (h:n≤1114111) (hs:n<55296∨57343<n):VU (encL (n:Int)):=by
 rw [←encR_eq n h hs]
 have fin:∀(l:List Nat) (k:Nat),l≠[]→decL l=(n,k)→k≠1→l.length=k→VU l:=fun l k h1 h2 h3 h4=>by
  refine VU.cons_step h1 (by rw [h2];intro e;injection e with _ e;exact h3 e) ?_
  rw [h2,List.drop_of_length_le (by show l.length≤k;omega)]
  exact VU.nil
 unfold encR
 split
 ·rename_i h1
  refine VU.cons_step (by simp) (by rw [decL_ascii _ h1];intro e;injection e with e;omega) ?_
  rw [decL_ascii _ h1]
  exact VU.nil
 split
 ·refine fin _ 2 (by simp) ?_ (by omega) rfl
  rw [decL_N]
  exact decN_2 (n:=n) (by simp) (by simp;omega) (by simp;omega) (by omega) (by omega) _ _
 split
 ·refine fin _ 3 (by simp) ?_ (by omega) rfl
  rw [decL_N]
  exact decN_3 (n:=n) (by simp) (by simp;omega) (by simp;omega) (by simp;omega) (by omega) (by omega) hs _
 ·refine fin _ 4 (by simp) ?_ (by omega) rfl
  rw [decL_N]
  exact decN_4 (n:=n) (by simp) (by simp;omega) (by simp;omega) (by simp;omega) (by simp;omega) (by omega) h
theorem dec_range {l:List Nat} (h:decL l≠(65533,1)):(decL l).1≤1114111∧((decL l).1<55296∨57343<(decL l).1):=by
 rw [decL_N] at h ⊢
 unfold Lib.decodeN at h ⊢
 split
 ·simp only;omega
 rename_i a0
 rw [if_neg a0] at h
 split
 ·rename_i a1
  rw [if_pos a1] at h
  split
  ·simp only;omega
  ·rename_i a;rw [if_neg a] at h;exact absurd rfl h
 rename_i a1
 rw [if_neg a1] at h
 split
 ·rename_i a2
  rw [if_pos a2] at h
  split
  ·simp only;omega
  ·rename_i a;rw [if_neg a] at h;exact absurd rfl h
 rename_i a2
 rw [if_neg a2] at h
 split
 ·rename_i a3
  rw [if_pos a3] at h
  split
  ·simp only;omega
  ·rename_i a;rw [if_neg a] at h;exact absurd rfl h
 ·rename_i a3
  rw [if_neg a3] at h
  exact absurd rfl h
end Go.Proofs.YtnnnagnjikdnnaaGreatDoor
namespace Go.Proofs.YtnnnagnjikdnnaaGreatDoor
open Go.RowKit
end Go.Proofs.YtnnnagnjikdnnaaGreatDoor
namespace Go.Proofs.YtnnnagnjikdnnaaGreatDoor
open Go.RowKit
def hexd (d:Nat):Nat:=if d<10 then 48+d else 87+d
end Go.Proofs.YtnnnagnjikdnnaaGreatDoor
namespace Go.Proofs.YtnnnagnjikdnnaaGreatDoor
open Go.RowKit
theorem VU.ascii {m:List Nat} (h:∀c∈m,c<128) {y:List Nat} (hy:VU y):VU (m ++ y):=by
 induction m with
 | nil=>exact hy
 | cons c m ih=>
  have hd:=decL_ascii (m ++ y) (h c (by simp))
  refine VU.cons_step (by simp) ?_ ?_
  ·rw [List.cons_append,hd];intro e;have:=(Prod.mk.inj e).1;have:=h c (by simp);omega
  ·rw [List.cons_append,hd]
   exact ih (fun x hx=>h x (by simp [hx]))
/-! The lengths of the quoted forms of repeated bytes. -/
end Go.Proofs.YtnnnagnjikdnnaaGreatDoor
namespace Go.Proofs.YtnnnagnjikdnnaaGreatDoor
open Go.RowKit
def escI (c:Nat):List Nat:=
 if c=34∨c=92 then [92,c] else if c=10 then [92,110] else if c=13 then [92,114] else if c=9 then [92,116]
 else if c<16 then [92,117,123,hexd c,125] else if c<32 then [92,117,123,hexd (c / 16),hexd (c % 16),125] else [c]
def escIL (l:List Nat):List Nat:=l.flatMap escI
def quoI (l:List Nat):List Nat:=34 :: (escIL l ++ [34])
def bareI (c:Nat):Bool:=(97≤c && c≤122) || (65≤c && c≤90) || (48≤c && c≤57) || c == 95 || c == 45 || c == 46
def keyQ (l:List Nat):Bool:=l.isEmpty || l.any fun c=>!bareI c
def keyI (l:List Nat):List Nat:=if keyQ l then quoI l else l
def valQ (l:List Nat):Bool:=l.isEmpty || l.headD 0 == 34 || l.headD 0 == 32 || l.getLastD 0 == 32 || l.any fun c=>decide (c<32)
def valI (l:List Nat):List Nat:=if valQ l then quoI l else l
def srcI (k v:List Nat):List Nat:=91 :: (keyI k ++ (93 :: 10 :: (keyI k ++ (32 :: 61 :: 32 :: (valI v ++ [10])))))
theorem escIL_cons (c:Nat) (l:List Nat):escIL (c :: l)=escI c ++ escIL l:=rfl
theorem escIL_app (a b:List Nat):escIL (a ++ b)=escIL a ++ escIL b:=by unfold escIL;rw [List.flatMap_append]
theorem escIL_take {l:List Nat} {k c:Nat} (h:l[k]? = some c):escIL (l.take (k+1))=escIL (l.take k) ++ escI c:=by
 rw [List.take_add_one,h,escIL_app]
 simp [escIL]
theorem escI_high {c:Nat} (h:128≤c):escI c = [c]:=by
 unfold escI
 rw [if_neg (by omega),if_neg (by omega),if_neg (by omega),if_neg (by omega),if_neg (by omega),if_neg (by omega)]
theorem escI_low:∀c,c<128→∀x∈escI c,32≤x∧x<128:=by decide
theorem escI_len (c:Nat) (h:c<256):1≤(escI c).length∧(escI c).length≤6:=by
 by_cases h1:c<128
 ·exact(show ∀c,c<128→1≤(escI c).length∧(escI c).length≤6 by decide) c h1
 ·rw [escI_high (by omega)];simp
theorem escIL_len:∀{l:List Nat},By l→l.length≤(escIL l).length∧(escIL l).length≤6*l.length:=by
 intro l
 induction l with
 | nil=>intro _;exact⟨Nat.le_refl _,Nat.le_refl _⟩
 | cons c l ih=>
  intro h
  have h1:=ih fun x hx=>h x (by simp [hx])
  have h2:=escI_len c (h c (by simp))
  rw [escIL_cons,List.length_append,List.length_cons]
  omega
theorem escI_by {c:Nat} (h:c<256):By (escI c):=by
 by_cases h1:c<128
 ·intro x hx;have:=(escI_low c h1 x hx).2;omega
 ·rw [escI_high (by omega)];exact By.cons h By.nil
theorem escIL_by {l:List Nat} (h:By l):By (escIL l):=fun x hx=>by
 obtain⟨c,hc,hx⟩:=List.mem_flatMap.1 hx
 exact escI_by (h c hc) x hx
theorem escIL_seen {l:List Nat}:∀x∈escIL l,32≤x:=fun x hx=>by
 obtain⟨c,hc,hx⟩:=List.mem_flatMap.1 hx
 by_cases h1:c<128
 ·exact(escI_low c h1 x hx).1
 ·rw [escI_high (by omega)] at hx
  have:x=c:=by simpa using hx
  omega
theorem escIL_high {m:List Nat} (h:∀c∈m,128≤c):escIL m=m:=by
 induction m with
 | nil=>rfl
 | cons c m ih=>rw [escIL_cons,escI_high (h c (by simp)),ih (fun x hx=>h x (by simp [hx]))];rfl
theorem escIL_vu:∀(n:Nat) (l:List Nat),l.length≤n→By l→VU l→VU (escIL l):=by
 intro n
 induction n with
 | zero=>intro l h _ _;rw [List.eq_nil_of_length_eq_zero (by omega:l.length=0)];exact VU.nil
 | succ n ih=>
  intro l hl hb hv
  cases l with
  | nil=>exact VU.nil
  | cons c t=>
   rw [List.length_cons] at hl
   by_cases hc:c<128
   ·rw [escIL_cons]
    exact VU.ascii (fun x hx=>(escI_low c hc x hx).2) (ih t (by omega) (fun x hx=>hb x (by simp [hx])) (hv.tail hc))
   ·obtain⟨h1,h2⟩:=hv.step (by simp)
    obtain⟨_,h3⟩:=decL_high hb hc h1
    have e:=enc_dec hb (by simp) h1
    have hr:=dec_range h1
    have hw:=VU.enc hr.1 hr.2
    rw [e] at hw
    have hk:=(decL_bd (c :: t)).2
    rw [←List.take_append_drop (decL (c :: t)).2 (c :: t),escIL_app,escIL_high h3]
    exact VU.app _ (ih _ (by rw [List.length_drop,List.length_cons];omega) (hb.dropped _) h2) _ _ (Nat.le_refl _) hw
theorem vu_app {a b:List Nat} (ha:VU a) (hb:VU b):VU (a ++ b):=VU.app b hb _ a (Nat.le_refl _) ha
theorem vu_cons {c:Nat} {b:List Nat} (hc:c<128) (hb:VU b):VU (c :: b):=VU.ascii (m:=[c]) (by simpa using hc) hb
theorem quoI_vu {l:List Nat} (hb:By l) (hv:VU l):VU (quoI l):=vu_cons (by decide) (vu_app (escIL_vu _ l (Nat.le_refl _) hb hv) (vu_cons (by decide) VU.nil))
theorem keyI_vu {l:List Nat} (hb:By l) (hv:VU l):VU (keyI l):=by unfold keyI;split;exact quoI_vu hb hv;exact hv
theorem valI_vu {l:List Nat} (hb:By l) (hv:VU l):VU (valI l):=by unfold valI;split;exact quoI_vu hb hv;exact hv
theorem quoI_by {l:List Nat} (hb:By l):By (quoI l):=By.cons (by decide) ((escIL_by hb).append (By.cons (by decide) By.nil))
theorem keyI_by {l:List Nat} (hb:By l):By (keyI l):=by unfold keyI;split;exact quoI_by hb;exact hb
theorem valI_by {l:List Nat} (hb:By l):By (valI l):=by unfold valI;split;exact quoI_by hb;exact hb
theorem quoI_len {l:List Nat} (hb:By l):l.length+2≤(quoI l).length∧(quoI l).length≤6*l.length+2:=by
 have h:=escIL_len hb
 unfold quoI
 rw [List.length_cons,List.length_append,List.length_singleton]
 omega
theorem keyI_len {l:List Nat} (hb:By l):1≤(keyI l).length∧(keyI l).length≤6*l.length+2:=by
 have h:=quoI_len hb
 unfold keyI
 split
 ·omega
 ·next hq=>
  have h0:l≠[]:=by rintro rfl;exact hq rfl
  have:=List.length_pos_iff.2 h0
  omega
theorem valI_len {l:List Nat} (hb:By l):1≤(valI l).length∧(valI l).length≤6*l.length+2:=by
 have h:=quoI_len hb
 unfold valI
 split
 ·omega
 ·next hq=>
  have h0:l≠[]:=by rintro rfl;exact hq rfl
  have:=List.length_pos_iff.2 h0
  omega
theorem srcI_vu {k v:List Nat} (hk:By k) (hv:By v) (uk:VU k) (uv:VU v):VU (srcI k v):=
 vu_cons (by decide) (vu_app (keyI_vu hk uk) (vu_cons (by decide) (vu_cons (by decide) (vu_app (keyI_vu hk uk) (vu_cons (by decide) (vu_cons (by decide) (vu_cons (by decide) (vu_app (valI_vu hv uv) (vu_cons (by decide) VU.nil)))))))))
theorem srcI_by {k v:List Nat} (hk:By k) (hv:By v):By (srcI k v):=
 By.cons (by decide) ((keyI_by hk).append (By.cons (by decide) (By.cons (by decide) ((keyI_by hk).append (By.cons (by decide) (By.cons (by decide) (By.cons (by decide) ((valI_by hv).append (By.cons (by decide) By.nil)))))))))
theorem quoI_seen {l:List Nat}:∀x∈quoI l,32≤x:=fun x hx=>by
 unfold quoI at hx
 simp only [List.mem_cons,List.mem_append,List.not_mem_nil,or_false] at hx
 rcases hx with rfl | hx | rfl
 ·decide
 ·exact escIL_seen x hx
 ·decide
theorem keyQ_no {l:List Nat} (h:keyQ l=false):l≠[]∧∀c∈l,bareI c=true:=by
 unfold keyQ at h
 simp only [Bool.or_eq_false_iff,List.any_eq_false] at h
 exact⟨by rintro rfl;simp at h,fun c hc=>by have:=h.2 c hc;simpa using this⟩
theorem bareI_is {c:Nat} (h:bareI c=true):45≤c∧c≤122∧c≠59∧c≠61∧c≠91∧c≠92∧c≠93:=by
 unfold bareI at h
 simp only [Bool.or_eq_true,Bool.and_eq_true,decide_eq_true_eq,beq_iff_eq] at h
 omega
theorem keyI_seen {l:List Nat}:∀x∈keyI l,32≤x:=fun x hx=>by
 unfold keyI at hx
 cases hq:keyQ l with
 | true=>rw [hq,if_pos rfl] at hx;exact quoI_seen x hx
 | false=>
  rw [hq,if_neg (by decide)] at hx
  have:=bareI_is ((keyQ_no hq).2 x hx)
  omega
theorem valQ_no {l:List Nat} (h:valQ l=false):l≠[]∧l.headD 0≠34∧l.headD 0≠32∧l.getLastD 0≠32∧∀c∈l,32≤c:=by
 unfold valQ at h
 simp only [Bool.or_eq_false_iff,List.any_eq_false,beq_eq_false_iff_ne] at h
 exact⟨by rintro rfl;simp at h,h.1.1.1.2,h.1.1.2,h.1.2,fun c hc=>by have:=h.2 c hc;simpa using this⟩
theorem valI_seen {l:List Nat}:∀x∈valI l,32≤x:=fun x hx=>by
 unfold valI at hx
 cases hq:valQ l with
 | true=>rw [hq,if_pos rfl] at hx;exact quoI_seen x hx
 | false=>rw [hq,if_neg (by decide)] at hx;exact(valQ_no hq).2.2.2.2 x hx
theorem srcI_seen {k v:List Nat}:∀x∈srcI k v,32≤x∨x=10:=fun x hx=>by
 unfold srcI at hx
 simp only [List.mem_cons,List.mem_append,List.not_mem_nil,or_false] at hx
 rcases hx with rfl | hx | rfl | rfl | hx | rfl | rfl | rfl | hx | rfl
 ·omega
 ·exact .inl (keyI_seen x hx)
 ·omega
 ·omega
 ·exact .inl (keyI_seen x hx)
 ·omega
 ·omega
 ·omega
 ·exact .inl (valI_seen x hx)
 ·omega
end Go.Proofs.YtnnnagnjikdnnaaGreatDoor
