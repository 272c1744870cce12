/- Plain: the graphs of awake's examples. No program is mentioned here. -/
import Derived.Test.YtgbkbgiogdhnaaaGreatDoorMAf
import Derived.Test.YtgbkbgiogdhnaaaGreatDoorMCa
import Derived.Test.YtgbkbgiogdhnaaaGreatDoorNDi
import Derived.Test.YtgbkbgiogdhnaaaGreatDoorMCf
import Derived.Test.YtgbkbgiogdhnaaaGreatDoorMAj
import Derived.Deep.RegionHeld3
set_option linter.unusedVariables false
set_option linter.unusedSimpArgs false
set_option linter.defProp false
set_option linter.constructorNameAsVariable false
namespace Go.Proofs.YtgbkbgiogdhnaaaGreatDoor
open Go.RowKit
def gInt:GNode:=⟨2,[49],false,[],[]⟩
def gDec:GNode:=⟨3,[49,53,101,45,49],false,[],[]⟩
def gText (c:Nat):GNode:=⟨5,[c],false,[],[]⟩
def gMap0:GNode:=⟨10,[],false,[],[]⟩
def gL:List GNode:=[⟨9,[],false,[],[1,2]⟩,gInt,gDec]
def gM:List GNode:=[⟨10,[],false,[1,5],[2,6]⟩,gText 98,⟨9,[],false,[],[3,4]⟩,gInt,gDec,gText 97,gMap0]
end Go.Proofs.YtgbkbgiogdhnaaaGreatDoor
namespace Go.Proofs.YtgbkbgiogdhnaaaGreatDoor
open Go.RowKit
structure TreeG (N:List GNode):Prop where
 chk:ChkOK N 0
 zero:chkV N 0=0
 cnt:∀k,(countsI N 0).getD k 0≤1
 sort:∀k,k<N.length→(ndAt N k).kind=10→SortN N (ndAt N k)
theorem by_dec {s:List Nat} (h:s.all (fun c=>decide (c<256))=true):By s:=fun c hc=>of_decide_eq_true (List.all_eq_true.1 h c hc)
theorem all_of {n:Nat} {p:Nat→Bool} (h:(List.range n).all p=true) {k:Nat} (hk:k<n):p k=true:=List.all_eq_true.1 h k (List.mem_range.2 hk)
def ndB (N:List GNode) (nd:GNode):Bool:=
 nd.text.all (fun c=>decide (c<256)) && (decide (nd.keys.length≤65536∧nd.items.length≤65536∧nd.text.length≤100000∧(nd.kind=0∨nd.kind=1∨nd.kind=2∨nd.kind=3∨nd.kind=5∨nd.kind=9∨nd.kind=10)) && nd.keys.all fun x=>decide ((ndAt N x.toNat).keys = []∧(ndAt N x.toNat).items = []))
def endB (N:List GNode):Bool:=match compV N 0 with
 | some s=>decide (s.inn.length=N.length∧s.sizes.length≤65536) && ((List.range N.length).all (fun i=>decide (0≤s.inn.getD i 0∧s.inn.getD i 0<(s.sizes.length:Int))) && s.sizes.all fun x=>decide (0≤x∧x≤65536))
 | none=>false
theorem endB_ok {N:List GNode} (h:endB N=true):∃s,compV N 0=some s∧EndT N s:=by
 unfold endB at h
 split at h
 ·rename_i s e
  rw [Bool.and_eq_true,Bool.and_eq_true] at h
  obtain⟨h1,h2,h3⟩:=h
  have h1:=of_decide_eq_true h1
  refine⟨s,e,h1.1,fun i hi=>of_decide_eq_true (all_of h2 hi),fun c=>?_,h1.2⟩
  rw [List.getD_eq_getElem?_getD]
  cases hc:s.sizes[c]? with
  | none=>simp
  | some x=>exact of_decide_eq_true (List.all_eq_true.1 h3 x (List.mem_of_getElem? hc))
 ·cases h
theorem ck_ok {N:List GNode} (h0:decide (0<N.length∧N.length≤4096)=true) (h1:(List.range N.length).all (fun i=>ndB N (ndAt N i))=true) (h2:endB N=true):ChkOK N 0:=by
 have h0:=of_decide_eq_true h0
 have hn:∀i,i<N.length→By (ndAt N i).text∧((ndAt N i).keys.length≤65536∧(ndAt N i).items.length≤65536∧(ndAt N i).text.length≤100000∧((ndAt N i).kind=0∨(ndAt N i).kind=1∨(ndAt N i).kind=2∨(ndAt N i).kind=3∨(ndAt N i).kind=5∨(ndAt N i).kind=9∨(ndAt N i).kind=10))∧∀x∈(ndAt N i).keys,Leaf (ndAt N x.toNat):=fun i hi=>by
  have h:=all_of h1 hi
  unfold ndB at h
  rw [Bool.and_eq_true,Bool.and_eq_true] at h
  exact⟨by_dec h.1,of_decide_eq_true h.2.1,fun x hx=>(show(ndAt N x.toNat).keys = []∧(ndAt N x.toNat).items = [] from of_decide_eq_true (List.all_eq_true.1 h.2.2 x hx))⟩
 exact {
  n0:=h0.1
  n1:=h0.2
  nl:=fun i hi=>⟨(hn i hi).2.1.1,(hn i hi).2.1.2.1⟩
  tw:={
   leaf:=fun i hi=>(hn i hi).2.2
   by_:=fun i hi=>(hn i hi).1
   wf:=fun i hi=>by rcases(hn i hi).2.1.2.2.2 with e | e | e | e | e | e | e <;> rw [e] <;> decide
   len:=fun i hi=>by have:=(hn i hi).2.1.2.2.1;rw [size_mks];unfold maxLen;omega }
  sc:=fun i hi=>by
   have hk:=(hn i hi).2.1.2.2.2
   have ht:=(hn i hi).1
   have hl:=(hn i hi).2.1.2.2.1
   generalize ndAt N i=nd at *
   refine⟨by omega,fun h9 h10=>?_⟩
   unfold scV
   rcases hk with e | e | e | e | e | e | e
   ·rw [e];exact scal_null _
   ·rw [e];exact scal_bool _ ht
   ·rw [e];exact scal_int _ ht
   ·rw [e];exact scal_dec _ ht (by omega)
   ·rw [e];exact scal_text _ (by omega)
   ·exact absurd e h9
   ·exact absurd e h10
  dp:=fun _ _=>endB_ok h2 }
def keyB (N:List GNode) (nd:GNode):Bool:=!(nd.kind == 10) || (nd.keys.length == nd.items.length && nd.keys.all fun x=>decide (0≤x∧x<(N.length:Int)) && (((List.range 1).all fun i=>ndB [ndAt N x.toNat] (ndAt [ndAt N x.toNat] i)) && (endB [ndAt N x.toNat] && decide ((ndAt N x.toNat).keys = []∧(ndAt N x.toNat).items = []∧(ndAt N x.toNat).kind=5∧(ndAt N x.toNat).ord=false))))
theorem tree_ok {N:List GNode} (h0:decide (0<N.length∧N.length≤4096)=true) (h1:(List.range N.length).all (fun i=>ndB N (ndAt N i))=true) (h2:endB N=true) (h3:chkV N 0=0) (h4:(countsI N 0).all (fun x=>decide (x≤1))=true) (h5:(List.range N.length).all (fun i=>keyB N (ndAt N i))=true):TreeG N where
 chk:=ck_ok h0 h1 h2
 zero:=h3
 cnt:=fun k=>by
  rw [List.getD_eq_getElem?_getD]
  cases hc:(countsI N 0)[k]? with
  | none=>simp
  | some x=>exact of_decide_eq_true (List.all_eq_true.1 h4 x (List.mem_of_getElem? hc))
 sort:=fun k hk h10=>by
  have h:=all_of h5 hk
  unfold keyB at h
  rw [h10] at h
  simp only [beq_self_eq_true,Bool.not_true,Bool.false_or] at h
  rw [Bool.and_eq_true] at h
  refine⟨by simpa using h.1,fun x hx=>?_⟩
  have h:=List.all_eq_true.1 h.2 x hx
  rw [Bool.and_eq_true,Bool.and_eq_true,Bool.and_eq_true] at h
  obtain⟨a,b,c,d⟩:=h
  have a:=of_decide_eq_true a
  obtain⟨d1,d2,d3,d4⟩:=of_decide_eq_true d
  exact⟨a.1,a.2,ck_ok (N:=[ndAt N x.toNat]) (by rfl) b c,d1,d2,d3,d4⟩
theorem treeInt:TreeG [gInt]:=tree_ok (by kernel_rfl) (by kernel_rfl) (by kernel_rfl) (by kernel_rfl) (by kernel_rfl) (by kernel_rfl)
theorem treeDec:TreeG [gDec]:=tree_ok (by kernel_rfl) (by kernel_rfl) (by kernel_rfl) (by kernel_rfl) (by kernel_rfl) (by kernel_rfl)
theorem treeA:TreeG [gText 97]:=tree_ok (by kernel_rfl) (by kernel_rfl) (by kernel_rfl) (by kernel_rfl) (by kernel_rfl) (by kernel_rfl)
theorem treeB:TreeG [gText 98]:=tree_ok (by kernel_rfl) (by kernel_rfl) (by kernel_rfl) (by kernel_rfl) (by kernel_rfl) (by kernel_rfl)
theorem treeM0:TreeG [gMap0]:=tree_ok (by kernel_rfl) (by kernel_rfl) (by kernel_rfl) (by kernel_rfl) (by kernel_rfl) (by kernel_rfl)
theorem treeL:TreeG gL:=tree_ok (by kernel_rfl) (by kernel_rfl) (by kernel_rfl) (by kernel_rfl) (by kernel_rfl) (by kernel_rfl)
theorem treeM:TreeG gM:=tree_ok (by kernel_rfl) (by kernel_rfl) (by kernel_rfl) (by kernel_rfl) (by kernel_rfl) (by kernel_rfl)
end Go.Proofs.YtgbkbgiogdhnaaaGreatDoor
namespace Go.Proofs.YtgbkbgiogdhnaaaGreatDoor
open Go.RowKit
def hslice (t:TypeId) (x:Operand) (lo hi mx:Option Operand):Op:=.slice t x lo hi mx
@[go_sem] theorem hslice_is (t:TypeId) (x:Operand) (lo hi mx:Option Operand):hslice t x lo hi mx=.slice t x lo hi mx:=rfl
theorem hslice_eq (t:TypeId) (x:Operand) (lo hi mx:Option Operand):Op.slice t x lo hi mx=hslice t x lo hi mx:=rfl
theorem read_15:∃x,readV [49,53,101,45,49]=some x∧x.1=false∧x.2.2 = -1∧x.2.1.length=2∧asc x.2.1 = [49,53]∧Ten x.2.1:=by
 have h:readV [49,53,101,45,49]=some (false,[1,5],-1):=by kernel_rfl
 refine⟨_,h,rfl,rfl,rfl,by kernel_rfl,?_⟩
 intro c hc
 simp at hc
 omega
set_option maxRecDepth 20000 in
set_option maxHeartbeats 8000000 in
theorem dtext_15 (w:World) (hw:LibE w):Calls Tryz.prog 73 #[.string ⟨#[49,53,101,45,49]⟩] w fun e w'=>e=.returned (.string ⟨#[49,46,53]⟩)∧Below w.heap.size w w':=by
 have DR:=Lib.hid (dread_any [49,53,101,45,49] (by intro c hc;simp at hc;omega) (by simp) w hw)
 unfold ReadO at DR
 obtain⟨⟨x1,xd,xe⟩,hx,h1,h2,h3,h4,h5⟩:=read_15
 rw [hx] at DR
 simp only at h1 h2 h3 h4 h5
 subst h1 h2
 have hv:validD [49,53,101,45,49]=true:=by kernel_rfl
 rw [hv] at DR
 have hDR:Hid (∀w,LibE w→Calls Tryz.prog 106 #[.string ⟨#[49,53,101,45,49]⟩] w fun e w'=>∃A n c,e=.returned (.tuple #[.agg #[.bool false,.slice A n c,.int .i64 (-1)],.bool true])∧Hid (n=xd.length)∧n≤c∧Rd w' A (B8 xd)∧Below w.heap.size w w'):=fun w hw=>by
  have h:=dread_any [49,53,101,45,49] (by intro c hc;simp at hc;omega) (by simp) w hw
  unfold ReadO at h
  rw [hx,hv] at h
  refine h.mono ?_
  rintro e w' ⟨hb,A,n,c,he,hn,hc,hr,_⟩
  exact⟨A,n,c,he,hn,hc,hr,hb⟩
 have H4:=Lib.hid h4
 have H5:=Lib.hid h5
 have H3:=Lib.hid h3
 have hsg:Hid (∀(A:Option Addr) (c:Nat) (w:World),Calls Tryz.prog 108 #[.agg #[.bool false,.slice A 2 c,.int .i64 (-1)]] w fun e w'=>e=.returned (.string ⟨#[]⟩)∧Below w.heap.size w w'):=fun A c w=>sign_any (false,xd,-1) A 2 c w
 clear DR hx hv h3 h4 h5
 go_enter Tryz.func73,Tryz.ntmps73
 go_upto_region 2 with(go_at_call 106;((with_reducible refine(hDR.out _ hw).mono ?_));rintro e w1 ⟨A,n,c,rfl,hn,hc,hr,hb1⟩)
 have hn2:n=2:=hn.out.trans H3.out
 subst hn2
 have hX:Hid (Arr (w1.alloc (.cells #[.bool false,.slice A 2 c,.int .i64 (-1)] 172)) w1.heap.size 172 [.bool false,.slice A 2 c,.int .i64 (-1)]):=Arr.new w1 _ _
 have hbx:Below w1.heap.size w1 (w1.alloc (.cells #[.bool false,.slice A 2 c,.int .i64 (-1)] 172)):=(Below.refl _ _).alloc (Nat.le_refl _) _
 have hr2:=Lib.hid (hr.keep hbx)
 have hB2:=Lib.hid (hb1.trans (hbx.mono hb1.size))
 have hs2:w.heap.size≤(w1.alloc (.cells #[.bool false,.slice A 2 c,.int .i64 (-1)] 172)).heap.size:=hB2.out.size
 clear hr hb1 hbx hn
 generalize w1.alloc (.cells #[.bool false,.slice A 2 c,.int .i64 (-1)] 172)=w2 at *
 generalize w1.heap.size=xb at *
 go_upto_region 4 with(fail)
 have x0:w2.drew.cell? ⟨xb,0,none⟩=some (.bool false):=hX.out.cell' (i:=0) rfl
 have x1:w2.drew.cell? ⟨xb,1,none⟩=some (.slice A 2 c):=hX.out.cell' (i:=1) rfl
 have x2:w2.drew.cell? ⟨xb,2,none⟩=some (.int .i64 (-1)):=hX.out.cell' (i:=2) rfl
 have DD:=Lib.hid (digits_any false xd (-1) A 2 c w2.drew H3.out.symm hr2.out H5.out (by omega))
 rw [H4.out] at DD
 go_region_held3 (fun w'=>w'.cell? ⟨xb,0,none⟩=some (.bool false)∧w'.cell? ⟨xb,1,none⟩=some (.slice A 2 c)∧w'.cell? ⟨xb,2,none⟩=some (.int .i64 (-1))) (first | exact⟨by assumption,by assumption,by assumption⟩ | go_keep) ((go_at_call 107;((with_reducible refine DD.out.mono ?_));rintro e w3 ⟨rfl,hb3⟩;have y0:=(hb3.cell (block_lt_of_cell x0)).trans x0;have y1:=(hb3.cell (block_lt_of_cell x1)).trans x1;have y2:=(hb3.cell (block_lt_of_cell x2)).trans x2))
 have hB3:Hid (Below w.heap.size w w3):=hB2.out.drew.trans (hb3.mono hs2)
 have hs3:=hB3.out.size
 clear hb3 x0 x1 x2 DD hr2 hB2 hX hs2
 have hsm:mks [49,53]=⟨#[49,53]⟩:=rfl
 rw [hsm]
 go_upto_region 10 with(fail)
 have z0:w3.drew.cell? ⟨xb,0,none⟩=some (.bool false):=y0
 have z1:w3.drew.cell? ⟨xb,1,none⟩=some (.slice A 2 c):=y1
 have z2:w3.drew.cell? ⟨xb,2,none⟩=some (.int .i64 (-1)):=y2
 have hwr:IntKind.i64.wrap (2 + -1)=1:=by rfl
 rw [hslice_eq 9 (.tmp 60),hslice_eq 9 (.tmp 68)]
 go_region_held3 (fun w'=>w'.cell? ⟨xb,0,none⟩=some (.bool false)∧w'.cell? ⟨xb,1,none⟩=some (.slice A 2 c)∧w'.cell? ⟨xb,2,none⟩=some (.int .i64 (-1))) (first | exact⟨by assumption,by assumption,by assumption⟩ | go_keep) ((go_at_call 108;((with_reducible refine(hsg.out _ _ _).mono ?_));rintro e w4 ⟨rfl,hb4⟩;have y0':=(hb4.cell (block_lt_of_cell z0)).trans z0;have y1':=(hb4.cell (block_lt_of_cell z1)).trans z1;have y2':=(hb4.cell (block_lt_of_cell z2)).trans z2))
 all_goals
  go_wp2_with (fail)
  go_ret
  exact⟨by rfl,hB3.out.drew.trans (hb4.mono hs3)⟩
end Go.Proofs.YtgbkbgiogdhnaaaGreatDoor
