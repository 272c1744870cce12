/- The walks of iniout's tree and Literal. -/
import Derived.Test.YtnnnagnjikdnnaaGreatDoorMBk
import Derived.Test.YtnnnagnjikdnnaaGreatDoorMBj
import Derived.Test.YtnnnagnjikdnnaaGreatDoorMBm
import Derived.Test.YtnnnagnjikdnnaaGreatDoorMAt
import Derived.Test.YtnnnagnjikdnnaaGreatDoorMAd
import Derived.Test.YtnnnagnjikdnnaaGreatDoorMAa
import Derived.Lib.FrozenHead2
import Derived.Test.YtnnnagnjikdnnaaGreatDoorMBh
import Derived.BigQuiet
import Derived.Test.YtnnnagnjikdnnaaGreatDoorMBg
set_option linter.unusedVariables false
set_option linter.unusedSimpArgs false
set_option linter.defProp false
set_option linter.constructorNameAsVariable false
namespace Go.Proofs.YtnnnagnjikdnnaaGreatDoor
open Go.RowKit
structure TreeI (nodes:List GNode) (r:Nat):Prop where
 chk:ChkOK nodes (r:Int)
 lt:r<nodes.length
 chk0:chkV nodes (r:Int)=0
 up:UpI nodes
 srt:∀k,k<nodes.length→(ndAt nodes k).kind=10→SortN nodes (ndAt nodes k)
 one:∀k,(countsI nodes (r:Int)).getD k 0≤1
set_option maxRecDepth 20000 in
set_option maxHeartbeats 8000000 in
theorem tree_bad {B g o c r n:Nat} {nodes:List GNode} (hn:nodes.length=n) (hO:ChkOK nodes (r:Int)) (h0:chkV nodes (r:Int)≠0) (w:World) (hw:LibE w) (hG:GRd w B g o nodes) :
  Calls Tryz.prog 12 #[.agg #[.slice (some ⟨g,o,none⟩) n c,.int .i64 (r:Int)]] w fun e w'=>e=.returned (.int .i64 3)∧Below w.heap.size w w':=by
 have D1:=Lib.hid (fun(w':World) (h:LibE w') (h':GRd w' B g o nodes)=>gcheck_any (c:=c) hO w' h h')
 rw [hn] at D1
 obtain⟨z,hz⟩:∃z,chkV nodes (r:Int)=z:=⟨_,rfl⟩
 rw [hz] at h0 D1
 have n0:((z:Int) == 0)=false:=by simp;exact h0
 have h1:Hid (Arr (w.alloc (.cells #[.slice (some ⟨g,o,none⟩) n c,.int .i64 (r:Int)] 26)) w.heap.size 26 [.slice (some ⟨g,o,none⟩) n c,.int .i64 (r:Int)]):=Arr.new w _ _
 have HB:Hid (Below w.heap.size w (w.alloc (.cells #[.slice (some ⟨g,o,none⟩) n c,.int .i64 (r:Int)] 26))):=(Below.refl _ _).alloc (Nat.le_refl _) _
 have hwW:=Lib.hid (hw.keep HB.out)
 have hGW:=Lib.hid (hG.below HB.out hG.2.1)
 clear hn hO h0 hw hG hz
 go_enter Tryz.func12,Tryz.ntmps12
 go_upto_region 1 with(fail)
 generalize (w.alloc (.cells #[.slice (some ⟨g,o,none⟩) n c,.int .i64 (r:Int)] 26))=W at *
 have x0:=h1.out.cell' (i:=0) rfl
 have x1:=h1.out.cell' (i:=1) rfl
 go_wp2_with (go_at_call 26;((with_reducible refine(D1.out _ hwW.out hGW.out).mono ?_));rintro e w1 ⟨rfl,hb1⟩)
 go_ret
 exact⟨rfl,HB.out.trans (hb1.mono HB.out.size)⟩
set_option maxRecDepth 20000 in
set_option maxHeartbeats 8000000 in
theorem tree_ok {B g o c r n:Nat} {nodes:List GNode} (hn:nodes.length=n) (hO:TreeI nodes r) (w:World) (hw:LibE w) (hG:GRd w B g o nodes) :
  Calls Tryz.prog 12 #[.agg #[.slice (some ⟨g,o,none⟩) n c,.int .i64 (r:Int)]] w fun e w'=>e=.returned (.int .i64 0)∧Below w.heap.size w w':=by
 have D1:=Lib.hid (fun(w':World) (h:LibE w') (h':GRd w' B g o nodes)=>gcheck_any (c:=c) hO.chk w' h h')
 have D2:=Lib.hid (fun(w':World) (h:LibE w') (h':GRd w' B g o nodes)=>cyclic_no (c:=c) r hO.lt hO.chk hO.chk0 hO.up hO.srt w' h h')
 have D3:=Lib.hid (fun(w':World) (h:LibE w') (h':GRd w' B g o nodes)=>tree_true (c:=c) r hO.lt hO.chk hO.chk0 hO.srt hO.one w' h h')
 rw [hO.chk0,hn] at D1
 rw [hn] at D2 D3
 have h1:Hid (Arr (w.alloc (.cells #[.slice (some ⟨g,o,none⟩) n c,.int .i64 (r:Int)] 26)) w.heap.size 26 [.slice (some ⟨g,o,none⟩) n c,.int .i64 (r:Int)]):=Arr.new w _ _
 have HB:Hid (Below w.heap.size w (w.alloc (.cells #[.slice (some ⟨g,o,none⟩) n c,.int .i64 (r:Int)] 26))):=(Below.refl _ _).alloc (Nat.le_refl _) _
 have hwW:=Lib.hid (hw.keep HB.out)
 have hGW:=Lib.hid (hG.below HB.out hG.2.1)
 clear hn hO hw hG
 go_enter Tryz.func12,Tryz.ntmps12
 go_upto_region 1 with(fail)
 generalize (w.alloc (.cells #[.slice (some ⟨g,o,none⟩) n c,.int .i64 (r:Int)] 26))=W at *
 have x0:=h1.out.cell' (i:=0) rfl
 have x1:=h1.out.cell' (i:=1) rfl
 go_upto_region 3 with(go_at_call 26;((with_reducible refine(D1.out _ hwW.out hGW.out).mono ?_));rintro e w1 ⟨rfl,hb1⟩)
 clear x0 x1 D1
 have h1a:=Lib.hid (h1.out.keep hb1)
 have HB1:=Lib.hid (HB.out.trans (hb1.mono HB.out.size))
 have hw1:=Lib.hid (hwW.out.keep hb1)
 have hG1:=Lib.hid (hGW.out.below hb1 hGW.out.2.1)
 clear h1 HB hwW hGW hb1
 have x0:=h1a.out.cell' (i:=0) rfl
 have x1:=h1a.out.cell' (i:=1) rfl
 go_upto_region 6 with(go_at_call 33;((with_reducible refine(D2.out _ hw1.out hG1.out).mono ?_));rintro e w2 ⟨rfl,hb1⟩)
 clear x0 x1 D2
 have h1b:=Lib.hid (h1a.out.keep hb1)
 have HB2:=Lib.hid (HB1.out.trans (hb1.mono HB1.out.size))
 have hw2:=Lib.hid (hw1.out.keep hb1)
 have hG2:=Lib.hid (hG1.out.below hb1 hG1.out.2.1)
 clear h1a HB1 hw1 hG1 hb1
 have x0:=h1b.out.cell' (i:=0) rfl
 have x1:=h1b.out.cell' (i:=1) rfl
 go_wp2_with (go_at_call 34;((with_reducible refine(D3.out _ hw2.out hG2.out).mono ?_));rintro e w3 ⟨rfl,hb1⟩)
 go_ret
 exact⟨rfl,HB2.out.trans (hb1.mono HB2.out.size)⟩
theorem t1_tree {s:List Nat} (hs:By s) (hl:s.length≤1000) (hv:VU s):TreeI [tN s] 0 where
 chk:=t1_ck hs hl
 lt:=by simp
 chk0:=t1_yes hv
 up:=fun k hk x hx=>by rw [nd_t1 hk] at hx;simp [tN] at hx
 srt:=fun k hk h=>by rw [nd_t1 hk] at h;simp [tN] at h
 one:=fun k=>by
  have h:countsI [tN s] 0 = [1]:=by rfl
  show(countsI [tN s] 0).getD k 0≤1
  rw [h]
  match k with
  | 0=>simp
  | n+1=>simp
set_option maxRecDepth 20000 in
set_option maxHeartbeats 8000000 in
theorem literal_ok {B g o c:Nat} {s:List Nat} (hs:By s) (hl:s.length≤1000) (hv:VU s) (w:World) (hw:LibE w) (hd:DB16 w) (hG:GRd w B g o [tN s]) :
  Calls Tryz.prog 8 #[.agg #[.slice (some ⟨g,o,none⟩) 1 c,.int .i64 0]] w fun e w'=>e=.returned (.tuple #[.string (mks (valI s)),.int .i64 0])∧Below w.heap.size w w':=by
 have D1:=Lib.hid (fun(w':World) (h:LibE w') (h':GRd w' B g o [tN s])=>tree_ok (c:=c) (n:=1) (r:=0) rfl (t1_tree hs hl hv) w' h h')
 have D2:=Lib.hid (fun(w':World) (h:DB16 w')=>valueForm_cb hs (by omega:s.length≤10000) w' h)
 have D3:=Lib.hid (fun(w':World)=>bounded_cb (t:=valI s) (by have:=(valI_len hs).2;omega) w')
 have h1:Hid (Arr (w.alloc (.cells #[.slice (some ⟨g,o,none⟩) 1 c,.int .i64 0] 26)) w.heap.size 26 [.slice (some ⟨g,o,none⟩) 1 c,.int .i64 0]):=Arr.new w _ _
 have HB:Hid (Below w.heap.size w (w.alloc (.cells #[.slice (some ⟨g,o,none⟩) 1 c,.int .i64 0] 26))):=(Below.refl _ _).alloc (Nat.le_refl _) _
 have hwW:=Lib.hid (hw.keep HB.out)
 have hdW:=Lib.hid (hd.keep HB.out)
 have hGW:=Lib.hid (hG.below HB.out hG.2.1)
 have i0:((0:Nat):Int)=0:=rfl
 rw [i0] at D1
 clear hs hl hv hw hd hG i0
 generalize mks (valI s)=R at *
 go_enter Tryz.func8,Tryz.ntmps8
 go_upto_region 1 with(fail)
 generalize (w.alloc (.cells #[.slice (some ⟨g,o,none⟩) 1 c,.int .i64 0] 26))=W at *
 have x0:=h1.out.cell' (i:=0) rfl
 have x1:=h1.out.cell' (i:=1) rfl
 go_upto_region 4 with(go_at_call 12;((with_reducible refine(D1.out _ hwW.out hGW.out).mono ?_));rintro e w1 ⟨rfl,hb1⟩)
 clear x0 x1 D1
 have h1a:=Lib.hid (h1.out.keep hb1)
 have HB1:=Lib.hid (HB.out.trans (hb1.mono HB.out.size))
 have hd1:=Lib.hid (hdW.out.keep hb1)
 have hG1:=Lib.hid (hGW.out.below hb1 hGW.out.2.1)
 clear h1 HB hwW hGW hdW hb1
 have x0:=h1a.out.cell' (i:=0) rfl
 have x1:=h1a.out.cell' (i:=1) rfl
 obtain⟨K,ck,I,ci,c0,c1,c2,c3,c4,_,_⟩:=hG1.out.2.2 0 (tN s) rfl
 rw [Nat.zero_mul,Nat.add_zero] at c0 c1 c2 c3 c4
 have k5:(tN s).kind=5:=rfl
 have kt:(tN s).text=s:=rfl
 rw [k5] at c0
 rw [kt] at c1
 clear k5 kt c2 c3 c4
 go_wp2_with (first | (go_at_call 21;((with_reducible refine(D2.out _ hd1.out).mono ?_));rintro e w2 ⟨rfl,hb2⟩;have HB2:=Lib.hid (HB1.out.trans (hb2.mono HB1.out.size));clear hb2) | (go_at_call 19;((with_reducible refine(D3.out _).mono ?_));rintro e w3 ⟨rfl,hb3⟩))
 go_ret2
 exact⟨rfl,HB2.out.trans (hb3.mono HB2.out.size)⟩
set_option maxRecDepth 20000 in
set_option maxHeartbeats 8000000 in
theorem literal_bad {B g o c:Nat} {s:List Nat} (hs:By s) (hl:s.length≤1000) (hv:¬VU s) (w:World) (hw:LibE w) (hG:GRd w B g o [tN s]) :
  Calls Tryz.prog 8 #[.agg #[.slice (some ⟨g,o,none⟩) 1 c,.int .i64 0]] w fun e w'=>e=.returned (.tuple #[.string ⟨#[]⟩,.int .i64 3])∧Below w.heap.size w w':=by
 have D1:=Lib.hid (fun(w':World) (h:LibE w') (h':GRd w' B g o [tN s])=>tree_bad (c:=c) (n:=1) (r:=0) rfl (t1_ck hs hl) (by rw [show((0:Nat):Int)=0 from rfl,t1_no hv];decide) w' h h')
 have h1:Hid (Arr (w.alloc (.cells #[.slice (some ⟨g,o,none⟩) 1 c,.int .i64 0] 26)) w.heap.size 26 [.slice (some ⟨g,o,none⟩) 1 c,.int .i64 0]):=Arr.new w _ _
 have HB:Hid (Below w.heap.size w (w.alloc (.cells #[.slice (some ⟨g,o,none⟩) 1 c,.int .i64 0] 26))):=(Below.refl _ _).alloc (Nat.le_refl _) _
 have hwW:=Lib.hid (hw.keep HB.out)
 have hGW:=Lib.hid (hG.below HB.out hG.2.1)
 have i0:((0:Nat):Int)=0:=rfl
 rw [i0] at D1
 clear hs hl hv hw hG i0
 go_enter Tryz.func8,Tryz.ntmps8
 go_upto_region 1 with(fail)
 generalize (w.alloc (.cells #[.slice (some ⟨g,o,none⟩) 1 c,.int .i64 0] 26))=W at *
 have x0:=h1.out.cell' (i:=0) rfl
 have x1:=h1.out.cell' (i:=1) rfl
 go_wp2_with (go_at_call 12;((with_reducible refine(D1.out _ hwW.out hGW.out).mono ?_));rintro e w1 ⟨rfl,hb1⟩)
 go_ret2
 exact⟨rfl,HB.out.trans (hb1.mono HB.out.size)⟩
end Go.Proofs.YtnnnagnjikdnnaaGreatDoor
namespace Go.Proofs.YtnnnagnjikdnnaaGreatDoor
open Go.RowKit
section
variable {B b:Nat} {p n r l:Value} {bs:List Value} {w:World}
end
end Go.Proofs.YtnnnagnjikdnnaaGreatDoor
namespace Go.Proofs.YtnnnagnjikdnnaaGreatDoor
open Go.RowKit
section
variable {P:Program} {w:World} {ops:Array Oper} {o:Oper} {a:Act} {K:Act→World→Prop} {E:Prop} {Q:Exit→Act→World→Prop}
end
end Go.Proofs.YtnnnagnjikdnnaaGreatDoor
namespace Go.Proofs.YtnnnagnjikdnnaaGreatDoor
open Go.RowKit
end Go.Proofs.YtnnnagnjikdnnaaGreatDoor
namespace Go.Proofs.YtnnnagnjikdnnaaGreatDoor
open Go.RowKit
theorem str_B8 {ys:List Nat} (h:By ys):Lib.strCells (mks ys)=B8 ys:=by
 unfold Lib.strCells mks B8
 rw [List.map_map]
 refine List.map_congr_left (fun c hc=>?_)
 have:=h c hc
 show Value.int .u8 (((UInt8.ofNat c).toNat:Nat):Int)=_
 have e:(UInt8.ofNat c).toNat=c:=by simp;omega
 rw [e]
end Go.Proofs.YtnnnagnjikdnnaaGreatDoor
namespace Go.Proofs.YtnnnagnjikdnnaaGreatDoor
open Go.RowKit
def itmI (nodes:List GNode) (nd:GNode) (i:Int):GNode:=ndAt nodes (nd.items.getD i.toNat 0).toNat
def isTx (nodes:List GNode) (nd:GNode) (i:Int):Bool:=(itmI nodes nd i).kind == 5
def lineI (nodes:List GNode) (nd:GNode) (i:Int):List Nat:=keyI (keyT nodes nd i) ++ [32,61,32] ++ valI (itmI nodes nd i).text ++ [10]
def entsT (nodes:List GNode) (nd:GNode) (l:List Int):List Nat:=(l.filter (isTx nodes nd)).flatMap (lineI nodes nd)
def rstI (nodes:List GNode) (nd:GNode) (l:List Int):List Int:=l.filter (fun i=>!isTx nodes nd i)
theorem entsT_tx {nodes:List GNode} {nd:GNode} {l:List Int} {x:Int} (h:isTx nodes nd x=true):entsT nodes nd (l ++ [x])=entsT nodes nd l ++ lineI nodes nd x:=by
 simp [entsT,List.filter_append,List.flatMap_append,h]
theorem entsT_no {nodes:List GNode} {nd:GNode} {l:List Int} {x:Int} (h:isTx nodes nd x=false):entsT nodes nd (l ++ [x])=entsT nodes nd l:=by
 simp [entsT,List.filter_append,h]
theorem rstI_tx {nodes:List GNode} {nd:GNode} {l:List Int} {x:Int} (h:isTx nodes nd x=true):rstI nodes nd (l ++ [x])=rstI nodes nd l:=by
 simp [rstI,List.filter_append,h]
theorem rstI_no {nodes:List GNode} {nd:GNode} {l:List Int} {x:Int} (h:isTx nodes nd x=false):rstI nodes nd (l ++ [x])=rstI nodes nd l ++ [x]:=by
 simp [rstI,List.filter_append,h]
theorem rstI_in {nodes:List GNode} {nd:GNode} {l:List Int} {m:Nat} (h:InR m l):InR m (rstI nodes nd l):=fun x hx=>h x (List.mem_filter.1 hx).1
def IpS (B b:Nat) (n r:Value) (w wr:World) (a:List Nat):Prop:=IpF B b n r (B8 a) wr∧Below B w wr∧Others b w wr
section
variable {B b:Nat} {n r:Value} {w wr w2:World} {a a2:List Nat} {bs:List Value}
theorem IpF.below (h:IpF B b n r bs w) (hb:Below w.heap.size w w2):IpF B b n r bs w2:=h.elim (fun h=>.inl (IpAt.below h hb)) (fun h=>.inr (IpAt.below h hb))
theorem IpF.lt (h:IpF B b n r bs w):b<w.heap.size:=h.elim IpAt.lt IpAt.lt
theorem IpF.le (h:IpF B b n r bs w):B≤b:=h.elim (fun h=>h.1) (fun h=>h.1)
theorem IpF.cells (h:IpF B b n r bs w):w.cell? ⟨b,2,none⟩=some n∧w.cell? ⟨b,3,none⟩=some r:=h.elim (fun h=>(IpAt.cells h).2) (fun h=>(IpAt.cells h).2)
theorem IpS.start (h:IpF B b n r (B8 a) w):IpS B b n r w w a:=⟨h,Below.refl _ _,Lib.OthersKept.refl _ _ _⟩
theorem IpS.trans (h:IpS B b n r w wr a) (h2:IpS B b n r wr w2 a2):IpS B b n r w w2 a2:=⟨h2.1,h.2.1.trans h2.2.1,Lib.OthersKept.trans h.2.2 h2.2.2⟩
theorem IpS.calm (h:IpS B b n r w wr a) (hb:Below wr.heap.size wr w2):IpS B b n r w w2 a:=
 ⟨h.1.below hb,h.2.1.trans (hb.mono (by have:=h.1.le;have:=h.1.lt;omega)),Lib.OthersKept.trans h.2.2 (fun q _ hq _ _=>(hb.block q (Array.getElem?_eq_some_iff.1 hq).1).trans hq)⟩
theorem IpS.wrote (h:IpS B b n r w wr a) (h2:IpU B b n r (B8 a ++ Lib.strCells (mks a2)) w2) (hb:Below B wr w2) (ho:Others b wr w2) (hy:By a2):IpS B b n r w w2 (a ++ a2):=
 ⟨.inr (by rw [B8_append,←str_B8 hy];exact h2),h.2.1.trans hb,Lib.OthersKept.trans h.2.2 ho⟩
theorem Arr.othersI {k:Nat} {t:TypeId} {xs:List Value} (h:Arr w k t xs) (ho:Others b w wr) (hk:k≠b) (ht:t≠5):Arr wr k t xs:=
 ho k _ h (fun e=>hk (Option.some.inj e)) (fun c fz e=>by injection e with _ e2;exact ht e2)
theorem own_othersI {z k:Nat} {v:Value} {m:Nat} {xs:List Value} (h:w.ownsRow z 3 k v m xs) (ho:Others b w wr) (hb:v.ownBlock≠some b):wr.ownsRow z 3 k v m xs:=
 own_same h fun g hg=>by
  obtain⟨C,fz,hc⟩:=own_kind h hg
  rw [hc]
  exact ho g _ hc (fun e=>hb (hg.trans e)) (fun c fz e=>by injection e with _ e2;exact absurd e2 (by decide))
end
end Go.Proofs.YtnnnagnjikdnnaaGreatDoor
