/- The walks of what jsonout's content and node call: the comparison and the test of keys, SortFunc of nothing, ContainsFunc. -/
import Derived.Test.YtgbkbgiogdhnaaaGreatDoorMCg
import Derived.Test.YtgbkbgiogdhnaaaGreatDoorMCi
import Derived.Test.YtgbkbgiogdhnaaaGreatDoorMCh
import Derived.Test.YtgbkbgiogdhnaaaGreatDoorMCc
set_option linter.unusedVariables false
set_option linter.unusedSimpArgs false
set_option linter.defProp false
set_option linter.constructorNameAsVariable false
namespace Go.Proofs.YtgbkbgiogdhnaaaGreatDoor
open Go.RowKit
set_option maxRecDepth 100000 in
set_option maxHeartbeats 4000000 in
theorem sortz_c {A:Option Addr} {c x y:Nat} (w:World) :
  Calls Tryz.prog 110 #[.slice A 0 c,.func (.func 111) #[] #[.pointer (some ⟨x,0,none⟩),.pointer (some ⟨y,0,none⟩)]] w fun e w'=>e=.returned (.tuple #[])∧w=w':=by
 have h1:Hid (∀w,Calls Tryz.prog 186 #[.slice A 0 c,.int .i64 0,.int .i64 0,.func (.func 111) #[] #[.pointer (some ⟨x,0,none⟩),.pointer (some ⟨y,0,none⟩)]] w fun e w'=>e=.returned (.tuple #[])∧w=w'):=fun w=>by
  go_enter Tryz.func186,Tryz.ntmps186
  go_wp2_with (fail)
  go_loop [8] (fun v=>v=.int .i64 1) (fun _=>0)
  case atStart=>rfl
  case round=>
   obtain rfl:=hrel
   go_wp2_with (fail)
   go_end0
   exact⟨rfl,rfl⟩
 have h2:Hid (∀lim w,Calls Tryz.prog 149 #[.slice A 0 c,.int .i64 0,.int .i64 0,.int .i64 lim,.func (.func 111) #[] #[.pointer (some ⟨x,0,none⟩),.pointer (some ⟨y,0,none⟩)]] w fun e w'=>e=.returned (.tuple #[])∧w=w'):=fun lim w=>by
  go_enter Tryz.func149,Tryz.ntmps149
  go_wp2_with (fail)
  refine wp_loop_rounds 1 ?_
  rw [rounds_succ]
  go_wp2_with (go_at_call 186;((with_reducible refine(h1.out _).mono ?_));rintro e w5 ⟨rfl,rfl⟩)
  (try simp only [Exit.inBlock,Exit.then])
  refine bodyPost_ret (results_none rfl _ _ _) rfl ?_
  exact⟨rfl,rfl⟩
 have h3:Hid (∀w,Calls Tryz.prog 150 #[.int .u64 0] w fun e w'=>e=.returned (.int .i64 (Lib.bitLen 0))∧w=w'):=fun w=>bits_len 0 (by omega) w
 generalize Lib.bitLen 0=bl at *
 go_enter Tryz.func110,Tryz.ntmps110
 go_wp2_with (first | (go_at_call 150;((with_reducible refine(h3.out _).mono ?_));rintro e w5 ⟨rfl,rfl⟩) | (go_at_call 149;((with_reducible refine(h2.out _ _).mono ?_));rintro e w6 ⟨rfl,rfl⟩))
 go_end0
 exact⟨rfl,rfl⟩
def cmpC (nodes:List GNode) (nd:GNode) (a b:Int):Int:=Lib.compareBytes (mks (keyT nodes nd a)).data.toList (mks (keyT nodes nd b)).data.toList
set_option maxRecDepth 20000 in
set_option maxHeartbeats 8000000 in
theorem content1_any {B g o c b x y a a2 n:Nat} {nodes:List GNode} {nd:GNode} {K:Option Addr} {ck:Nat} (hn:nodes.length=n) (ha:a<nd.keys.length) (ha2:a2<nd.keys.length) (hI:∀z∈nd.keys,0≤z∧z<(n:Int)) (w:World) (hG:GRd w B g o nodes) (hK:Rd w K (I64 nd.keys))
  (hx:w.cell? ⟨x,0,none⟩=some (.pointer (some ⟨b,0,none⟩))) (hy:w.cell? ⟨y,3,none⟩=some (.slice K nd.keys.length ck)) (hb:w.cell? ⟨b,2,none⟩=some (.slice (some ⟨g,o,none⟩) n c)) :
  Calls Tryz.prog 111 #[.int .i64 (a:Int),.int .i64 (a2:Int),.pointer (some ⟨x,0,none⟩),.pointer (some ⟨y,0,none⟩)] w (RetQ (cmpC nodes nd (a:Int) (a2:Int)) w):=by
 obtain⟨ka,hka⟩:∃z,nd.keys[a]? = some z:=⟨_,List.getElem?_eq_getElem ha⟩
 obtain⟨kb,hkb⟩:∃z,nd.keys[a2]? = some z:=⟨_,List.getElem?_eq_getElem ha2⟩
 obtain⟨qa,qa2⟩:=hI ka (List.mem_of_getElem? hka)
 obtain⟨qb,qb2⟩:=hI kb (List.mem_of_getElem? hkb)
 obtain⟨ia,rfl⟩:∃z:Nat,ka=(z:Int):=⟨ka.toNat,by omega⟩
 obtain⟨ib,rfl⟩:∃z:Nat,kb=(z:Int):=⟨kb.toNat,by omega⟩
 have eab:cmpC nodes nd (a:Int) (a2:Int)=Lib.compareBytes (mks (ndAt nodes ia).text).data.toList (mks (ndAt nodes ib).text).data.toList:=by
  unfold cmpC keyT
  rw [Int.toNat_natCast,Int.toNat_natCast,List.getD_eq_getElem?_getD,List.getD_eq_getElem?_getD,hka,hkb]
  rfl
 rw [eab]
 obtain⟨_,_,_,_,_,t1,_⟩:=hG.of_at (i:=ia) (by omega)
 obtain⟨_,_,_,_,_,t2,_⟩:=hG.of_at (i:=ib) (by omega)
 generalize mks (ndAt nodes ia).text=sx at *
 generalize mks (ndAt nodes ib).text=sy at *
 have D:=Lib.hid (Tryz.strings_Compare sx sy)
 generalize Lib.compareBytes sx.data.toList sy.data.toList=r at *
 obtain⟨ad,rfl,hca⟩:=hK.at_ (I64_get hka)
 obtain⟨ad',had',hcb⟩:=hK.at_ (I64_get hkb)
 obtain rfl:=Option.some.inj had'
 obtain⟨lk,hlk⟩:∃z,nd.keys.length=z:=⟨_,rfl⟩
 rw [hlk] at hy
 have a0:(0:Int)≤a:=by omega
 have a1:(a:Int)<lk:=by omega
 have b0:(0:Int)≤a2:=by omega
 have b1:(a2:Int)<lk:=by omega
 clear hG hK hka hkb hlk eab ha ha2 had' hn hI
 go_enter Tryz.func111,Tryz.ntmps111
 go_upto_region 1 with(fail)
 go_quiet (((go_at_call 112;exact Calls.quiet_of_same (D.out _))))
 go_wp2_with (fail)
 go_ret
 exact⟨rfl,nq,rfl⟩
set_option maxRecDepth 20000 in
set_option maxHeartbeats 8000000 in
theorem node1_any {B g o c b x k n:Nat} {nodes:List GNode} (hn:nodes.length=n) (hk:k<n) (h5:(ndAt nodes k).kind=5) (w:World) (hG:GRd w B g o nodes)
  (hx:w.cell? ⟨x,0,none⟩=some (.pointer (some ⟨b,0,none⟩))) (hb:w.cell? ⟨b,2,none⟩=some (.slice (some ⟨g,o,none⟩) n c)) :
  Calls Tryz.prog 76 #[.int .i64 (k:Int),.pointer (some ⟨x,0,none⟩)] w fun e w'=>e=.returned (.bool false)∧w=w':=by
 obtain⟨_,_,_,_,t1,_⟩:=hG.of_at (i:=k) (by omega)
 rw [h5] at t1
 have k0:(0:Int)≤k:=by omega
 have k1:(k:Int)<n:=by omega
 clear hG hn h5
 go_enter Tryz.func76,Tryz.ntmps76
 go_wp2_with (fail)
 go_ret
 exact⟨rfl,rfl⟩
set_option maxRecDepth 20000 in
set_option maxHeartbeats 8000000 in
theorem contains_no {B g o c b x n ck:Nat} {nodes:List GNode} {K:Option Addr} {ks:List Int} (hn:nodes.length=n) (hl:ks.length≤65536) (h5:∀z∈ks,0≤z∧z<(n:Int)∧(ndAt nodes z.toNat).kind=5) (w:World) (hG:GRd w B g o nodes) (hK:Rd w K (I64 ks))
  (hx:w.cell? ⟨x,0,none⟩=some (.pointer (some ⟨b,0,none⟩))) (hb:w.cell? ⟨b,2,none⟩=some (.slice (some ⟨g,o,none⟩) n c)) :
  Calls Tryz.prog 75 #[.slice K ks.length ck,.func (.func 76) #[] #[.pointer (some ⟨x,0,none⟩)]] w fun e w'=>e=.returned (.bool false)∧w=w':=by
 have D:=Lib.hid (fun(k:Nat) (hk:k<n) (h:(ndAt nodes k).kind=5)=>node1_any (c:=c) hn hk h w hG hx hb)
 have HK:=Lib.hid hK
 have H5:=Lib.hid h5
 obtain⟨m,hm⟩:∃m,ks.length=m:=⟨_,rfl⟩
 have hml:m≤65536:=by omega
 have HM:=Lib.hid hm
 have hix:Hid (Calls Tryz.prog 114 #[.slice K m ck,.func (.func 76) #[] #[.pointer (some ⟨x,0,none⟩)]] w fun e w'=>e=.returned (.int .i64 (-1))∧w=w'):=by
  clear hG hK hx hb h5 hn hm
  go_enter Tryz.func114,Tryz.ntmps114
  go_wp2_with (fail)
  go_loop [8] (fun v=>∃i:Nat,i≤m∧v=.int .i64 (i:Int)) (fun v=>m - (intOf v).toNat)
  case atStart=>exact⟨0,Nat.zero_le _,rfl⟩
  case round=>
   obtain⟨i,hi,rfl⟩:=hrel
   by_cases him:i=m
   ·have hi':¬(i:Int)<m:=by omega
    go_wp2_with (fail)
    go_ret
    exact⟨rfl,rfl⟩
   ·have hi':(i:Int)<m:=by omega
    have i0:(0:Int)≤i:=by omega
    obtain⟨z,hz⟩:∃z,ks[i]? = some z:=⟨_,List.getElem?_eq_getElem (by have:=HM.out;omega)⟩
    obtain⟨z0,z1,z5⟩:=H5.out z (List.mem_of_getElem? hz)
    obtain⟨ad,rfl,hc⟩:=HK.out.at_ (I64_get hz)
    obtain⟨k,rfl⟩:∃k:Nat,z=(k:Int):=⟨z.toNat,by omega⟩
    rw [Int.toNat_natCast] at z5
    have Dk:=Lib.hid (D.out k (by omega) z5)
    clear hz z5
    go_wp2_with (go_at_call 76;((with_reducible refine Dk.out.mono ?_));rintro e w2 ⟨rfl,rfl⟩)
    go_round
    case rel=>exact⟨i+1,by omega,i64e (by omega)⟩
    case measure=>simp [intOf];omega
 rw [hm]
 clear hG hK hx hb h5 hn hm D
 go_enter Tryz.func75,Tryz.ntmps75
 go_wp2_with (go_at_call 114;((with_reducible refine hix.out.mono ?_));rintro e w2 ⟨rfl,rfl⟩)
 go_ret
 exact⟨rfl,rfl⟩
end Go.Proofs.YtgbkbgiogdhnaaaGreatDoor
namespace Go.Proofs.YtgbkbgiogdhnaaaGreatDoor
open Go.RowKit
def ordP (nodes:List GNode) (k:Nat):List Int:=
 if (ndAt nodes k).kind=10 then insS (fun a b=>decide (cmpC nodes (ndAt nodes k) a b<0)) (rngI (ndAt nodes k).items.length) else rngI (ndAt nodes k).items.length
theorem ordP_len (nodes:List GNode) (k:Nat):(ordP nodes k).length=(ndAt nodes k).items.length:=by
 unfold ordP
 split
 ·rw [insS_len,rngI_len]
 ·rw [rngI_len]
theorem ordP_in (nodes:List GNode) (k:Nat):InR (ndAt nodes k).items.length (ordP nodes k):=by
 unfold ordP
 split
 ·exact fun x hx=>rngI_in _ x (insS_mem _ _ x hx)
 ·exact rngI_in _
section
variable {B b:Nat} {n r l:Value} {w wr w2:World} {a a2:List Nat}
theorem PrI.trans (h:PrI B b n r l w wr a) (h2:PrI B b n r l wr w2 a2):PrI B b n r l w w2 a2:=⟨h2.1,h.2.1.trans h2.2.1,h.2.2.1.trans h2.2.2.1,h2.2.2.2⟩
theorem PrF.kept {bs:List Value} (h:PrF B b n r l bs w) (hb:Below w.heap.size w wr):PrF B b n r l bs wr:=h.elim (fun h=>.inl (h.below hb)) (fun h=>.inr (PrAt.below h hb))
theorem PrF.lt {bs:List Value} (h:PrF B b n r l bs w):b<w.heap.size:=h.elim PrAt.lt PrAt.lt
theorem PrF.cells {bs:List Value} (h:PrF B b n r l bs w):w.cell? ⟨b,2,none⟩=some n∧w.cell? ⟨b,3,none⟩=some r∧w.cell? ⟨b,4,none⟩=some l:=h.elim (fun h=>h.cells.2) (fun h=>PrAt.cells h |>.2)
theorem PrF.kind {bs:List Value} (h:PrF B b n r l bs w):∃C fz,w.heap[b]? = some (.cells C 64 fz):=by
 rcases h with h | h
 ·obtain⟨_,v,hb,_⟩:=h;exact⟨_,_,hb⟩
 ·obtain⟨_,v,hb,_⟩:=h;exact⟨_,_,hb⟩
theorem Arr.others {k:Nat} {t:TypeId} {xs:List Value} (h:Arr w k t xs) (ho:Others b w wr) (hk:k≠b) (ht:t≠5):Arr wr k t xs:=
 ho k _ h (fun e=>hk (Option.some.inj e)) (fun c fz e=>by injection e with _ e2;exact ht e2)
theorem own_others {z k:Nat} {v:Value} {m:Nat} {xs:List Value} (h:w.ownsRow z 3 k v m xs) (ho:Others b w wr) (hb:v.ownBlock≠some b):wr.ownsRow z 3 k v m xs:=
 own_same h fun g hg=>by
  obtain⟨C,fz,hc⟩:=own_kind h hg
  rw [hc]
  exact ho g _ hc (fun e=>hb (hg.trans e)) (fun c fz e=>by injection e with _ e2;exact absurd e2 (by decide))
theorem PrI.byte {x:Nat} {bs:List Value} (h:PrI B b n r l w wr a) (h2:PrU B b n r l (B8 a ++ [.int .u8 (x:Int)]) w2) (hb:Below B wr w2) (ho:Others b wr w2):PrI B b n r l w w2 (a ++ [x]):=h.next h2 hb ho (by rw [B8_append];rfl)
end
theorem line_int {B b:Nat} {n r:Value} {lit:Bool} {op:Nat} {z:Int} (hz:z=(op:Int)) (hop:op≤2) {xs:List Nat} (hxl:xs.length≤4294967296) (w:World) (h:PrU B b n r (.bool lit) (B8 xs) w) (hBw:B≤w.heap.size) :
  Calls Tryz.prog 113 #[.pointer (some ⟨b,0,none⟩),.int .i64 z] w fun e w'=>e=.returned (.tuple #[])∧PrI B b n r (.bool lit) w w' (xs ++ gapV lit op):=by
 subst hz
 exact line_any B b n r lit op hop xs hxl w h hBw
def ConS (w6:World) (z ob m cap:Nat) (l:List Int) (W:World):Prop:=w6.grownBy W (some ob)∧W.ownsRow z 3 1 (.slice (some ⟨ob,0,none⟩) m cap) m (I64 l)∧InR m l∧l.length=m
theorem ConS.swap {w6 W:World} {z ob m cap:Nat} {l:List Int} {j:Nat} (h:ConS w6 z ob m cap l W) (hj:j+1<m):ConS w6 z ob m cap (swp l j) ((W.setCell ⟨ob,j+1,none⟩ (.int .i64 (l.getD j 0))).setCell ⟨ob,j,none⟩ (.int .i64 (l.getD (j+1) 0))):=by
 obtain⟨h1,h2,h4,h5⟩:=h
 refine⟨grown_trans (grown_trans h1 (grown_set W ⟨ob,j+1,none⟩ _)) (grown_set _ ⟨ob,j,none⟩ _),?_,fun x hx=>h4 x (swp_mem (by omega) hx),by rw [swp_len];exact h5⟩
 have h:=own_set1 (own_set1 h2 (j+1) (.int .i64 (l.getD j 0))) j (.int .i64 (l.getD (j+1) 0))
 rw [I64_set,I64_set] at h
 exact h
structure PrtOK (nodes:List GNode):Prop where
 idx:Idx nodes
 nl:NL 65536 nodes
 len:nodes.length≤4096
 txt:∀k,k<nodes.length→By (ndAt nodes k).text∧(ndAt nodes k).text.length≤100000
 few:∀k,k<nodes.length→(ndAt nodes k).kind=10→(ndAt nodes k).items.length≤12∧(ndAt nodes k).keys.length=(ndAt nodes k).items.length
def ContR (Bp b:Nat) (nS rV:Value) (lit:Bool) (w:World) (t:List Nat) (e:Ending) (w':World):Prop:=e=.returned (.int .i64 0)∧PrI Bp b nS rV (.bool lit) w w' t
def NodeP (w0:World) (Bp b g o c:Nat) (nodes:List GNode) (root:Int) (lit:Bool) (dec:List Nat→List Nat) (f:Nat):Prop:=∀(k op:Nat) (a t:List Nat) (w:World),k<nodes.length→op+f≤3→printP nodes dec (ordP nodes) lit f (k:Int) op=.ok t→a.length+t.length≤4294967296→Below Bp w0 w→GRd w Bp g o nodes →
 PrF Bp b (.slice (some ⟨g,o,none⟩) nodes.length c) (.int .i64 root) (.bool lit) (B8 a) w→Calls Tryz.prog 44 #[.pointer (some ⟨b,0,none⟩),.int .i64 (k:Int),.int .i64 (op:Int)] w (ContR Bp b (.slice (some ⟨g,o,none⟩) nodes.length c) (.int .i64 root) lit w (a ++ t))
theorem itemsP_cons {v:Int→Except Int (List Nat)} {nodes:List GNode} {nd:GNode} {lit:Bool} {op:Nat} {i:Int} {r:List Int} {k:Nat} {t:List Nat} (h:itemsP v nodes nd lit op (i :: r) k=.ok t) :
  ∃x y,v (nd.items.getD i.toNat 0)=.ok x∧itemsP v nodes nd lit op r (k+1)=.ok y∧t=sepV lit k ++ gapV lit (op+1) ++ keyV2 nodes nd i ++ x ++ y:=by
 unfold itemsP at h
 cases hx:v (nd.items.getD i.toNat 0) with
 | error e=>rw [hx] at h;cases h
 | ok x=>
  rw [hx] at h
  simp only at h
  cases hy:itemsP v nodes nd lit op r (k+1) with
  | error e=>rw [hy] at h;cases h
  | ok y=>
   rw [hy] at h
   injection h with h
   exact⟨x,y,rfl,rfl,h.symm⟩
theorem contP_ok {v:Int→Except Int (List Nat)} {nodes:List GNode} {nd:GNode} {lit:Bool} {op:Nat} {order:List Int} {x y:Nat} {t:List Nat} (h:contP v nodes nd lit op order x y=.ok t) :
  ∃z,itemsP v nodes nd lit op order 0=.ok z∧t = [x] ++ z ++ (if order = [] then [] else gapV lit op) ++ [y]:=by
 unfold contP at h
 cases hz:itemsP v nodes nd lit op order 0 with
 | error e=>rw [hz] at h;cases h
 | ok z=>
  rw [hz] at h
  injection h with h
  exact⟨z,rfl,h.symm⟩
end Go.Proofs.YtgbkbgiogdhnaaaGreatDoor
namespace Go.Proofs.YtgbkbgiogdhnaaaGreatDoor
open Go.RowKit
theorem con_sort {B g o c b pb nb zz k m c1 ck:Nat} {nodes:List GNode} {A1 K:Option Addr} {rest:List Value} (hkd:(ndAt nodes k).kind=10) (hm:(ndAt nodes k).items.length=m) (hm12:m≤12) (hkm:(ndAt nodes k).keys.length=m) (hI:∀z∈(ndAt nodes k).keys,0≤z∧z<(nodes.length:Int))
  (w:World) (hG:GRd w B g o nodes) (hK:Rd w K (I64 (ndAt nodes k).keys)) (hKb:∀ad,K=some ad→ad.block<B) (hB:B≤zz) (hp:w.cell? ⟨pb,0,none⟩=some (.pointer (some ⟨b,0,none⟩))) (hn:w.cell? ⟨nb,3,none⟩=some (.slice K m ck)) (hb:w.cell? ⟨b,2,none⟩=some (.slice (some ⟨g,o,none⟩) nodes.length c)) (hpz:pb<zz) (hnz:nb<zz) (hbz:b<zz) (hzw:zz≤w.heap.size)
  (hO:w.ownsRow zz 3 1 (.slice A1 m c1) m (I64 (rngI m))) :
  Calls Tryz.prog 110 #[.slice A1 m c1,.func (.func 111) #[] #[.pointer (some ⟨pb,0,none⟩),.pointer (some ⟨nb,0,none⟩)]] w fun e w'=>e=.returned (.tuple #[])∧Below zz w w'∧w'.ownsRow zz 3 1 (.slice A1 m c1) m (I64 (ordP nodes k)):=by
 have hord:ordP nodes k=insS (fun a b=>decide (cmpC nodes (ndAt nodes k) a b<0)) (rngI m):=by unfold ordP;rw [if_pos hkd,hm]
 by_cases hm0:m=0
 ·subst hm0
  refine(sortz_c (A:=A1) (c:=c1) (x:=pb) (y:=nb) w).mono ?_
  rintro e w' ⟨rfl,rfl⟩
  refine⟨rfl,Below.refl _ _,?_⟩
  rw [hord]
  exact hO
 ·obtain⟨ob,cap,hv,hc1,hc2⟩:=own_some hO (by omega)
  injection hv with e1 e2 e3
  subst e1 e3
  have hoz:zz≤ob:=(hO.lt ob rfl).1
  have hSort:SortS ob m 111 pb nb (cmpC nodes (ndAt nodes k)) (ConS w zz ob m c1):={
   len:=fun l W h=>h.2.2.2
   cell:=fun l W i h hi=>own_cell1 h.2.1 (I64_getD (by have:=h.2.2.2;omega))
   swap:=fun l W j h hj=>h.swap hj
   drew:=fun l W q h=>⟨⟨h.1.os,h.1.tape,h.1.output,h.1.size,h.1.block⟩,h.2.1,h.2.2⟩
   cmp:=fun l W j h hj=>by
    obtain⟨g1,g2,g4,g5⟩:=h
    obtain⟨a,ha,ham⟩:=InR_get g4 (k:=j+1) (by omega)
    obtain⟨b',hb',hbm⟩:=InR_get g4 (k:=j) (by omega)
    have ea:l.getD (j+1) 0=(a:Int):=by rw [List.getD_eq_getElem?_getD,ha];rfl
    have eb:l.getD j 0=(b':Int):=by rw [List.getD_eq_getElem?_getD,hb'];rfl
    rw [ea,eb]
    refine(content1_any (n:=nodes.length) (c:=c) (ck:=ck) (nd:=ndAt nodes k) (K:=K) rfl (by omega) (by omega) hI W (hG.grown g1 (by omega)) (hK.grown g1 fun ad e=>some_ne (by have:=hKb ad e;omega)) (g1.cell hp (some_ne (Nat.ne_of_lt (Nat.lt_of_lt_of_le hpz hoz)))) (by rw [hkm];exact g1.cell hn (some_ne (Nat.ne_of_lt (Nat.lt_of_lt_of_le hnz hoz)))) (g1.cell hb (some_ne (Nat.ne_of_lt (Nat.lt_of_lt_of_le hbz hoz))))).mono ?_
    rintro e w' ⟨rfl,q,rfl⟩
    exact⟨rfl,⟨g1.os,g1.tape,g1.output,g1.size,g1.block⟩,g2,g4,g5⟩ }
  refine(sortf_c (c:=c1) hSort hm12 (rngI m) w ⟨World.grownBy.refl _ _,hO,rngI_in m,rngI_len m⟩).mono ?_
  rintro e w' ⟨rfl,g1,g2,g4,g5⟩
  refine⟨rfl,below_of_grown g1 hzw (fun q e=>by injection e with e;omega),?_⟩
  rw [hord]
  exact g2
end Go.Proofs.YtgbkbgiogdhnaaaGreatDoor
