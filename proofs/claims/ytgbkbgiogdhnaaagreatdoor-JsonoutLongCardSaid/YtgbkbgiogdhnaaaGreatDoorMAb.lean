/- The walks of trim and small of integer. -/
import Derived.Test.YtgbkbgiogdhnaaaGreatDoorProg
import Derived.Test.YtgbkbgiogdhnaaaGreatDoorMAa
set_option linter.unusedVariables false
set_option linter.unusedSimpArgs false
set_option linter.defProp false
set_option linter.constructorNameAsVariable false
namespace Go.Proofs.YtgbkbgiogdhnaaaGreatDoor
open Go.RowKit
theorem Tryz.info5:(Tryz.prog.info? 5).map (fun i=>(i.zero,i.size,i.bytes))=some (some (.int .u8 0),1,1):=by kernel_rfl
theorem Tryz.size5:(Tryz.prog.info? 5).map (·.size)=some 1:=by kernel_rfl
theorem Tryz.sz180:(Tryz.prog.info? 180).map (·.size)=some 2:=by kernel_rfl
theorem Tryz.info3:(Tryz.prog.info? 3).map (fun i=>(i.zero,i.size,i.bytes))=some (some (.int .i64 0),1,8):=by kernel_rfl
theorem rd_trim {w:World} {A:Option Addr} {ds:List Nat} (h:Rd w A (B8 ds)) (ht:Ten ds):Rd w A (B8 (dg (val ds))):=by
 rw [dg_val ht]
 have:=h.take (tlen ds)
 unfold B8 at this ⊢
 rwa [←List.map_take] at this
def TrimPost (ds:List Nat) (A:Option Addr) (c:Nat) (w:World) (e:Ending) (w':World):Prop:=
 ∃k,e=.returned (.slice A k c)∧Hid (k=(dg (val ds)).length)∧k≤ds.length∧Rd w A (B8 (dg (val ds)))∧w=w'
theorem trim_end {w:World} {A:Option Addr} {ds:List Nat} {k c:Nat} {n:Nat} (hr:Rd w A (B8 ds)) (hd:Ten ds) (hn:n=ds.length) (hk:k≤n) (ht:tlen (ds.take k)=tlen ds)
  (he:tlen (ds.take k)=k):TrimPost ds A c w (.returned (.slice A k c)) w:=by
 refine⟨k,rfl,?_,by omega,rd_trim hr hd,rfl⟩
 show k=_
 rw [dg_val hd,List.length_take]
 have:=tlen_le ds
 omega
set_option maxHeartbeats 400000 in
theorem trim_any (A:Option Addr) (n c:Nat) (ds:List Nat) (w:World) (hn:Hid (n=ds.length)) (hr:Rd w A (B8 ds)) (hd:Ten ds) (hc:n≤c) (hm:n≤maxLen) :
  Calls Tryz.prog 152 #[.slice A n c] w (TrimPost ds A c w):=by
 unfold maxLen at hm
 go_enter Tryz.func152,Tryz.ntmps152
 go_wp2
 go_loop [0] (fun v=>∃k:Nat,k≤n∧Hid (tlen (ds.take k)=tlen ds)∧v=.slice A k c) (fun v=>match v with | .slice _ k _=>k | _=>0)
 case atStart=>exact⟨n,Nat.le_refl _,by show _=_;rw [List.take_of_length_le (by have:=hn.out;omega)],rfl⟩
 case round=>
  obtain⟨k,hk,ht,rfl⟩:=hrel
  by_cases h0:k=0
  ·subst h0
   go_wp2
   go_ret
   exact trim_end hr hd hn.out hk ht.out (by simp [tlen])
  ·have hk1:0<k:=by omega
   have hk2:k - 1<ds.length:=by have:=hn.out;omega
   obtain⟨d,hdd⟩:∃d,ds[k-1]? = some d:=⟨_,List.getElem?_eq_getElem hk2⟩
   obtain⟨ad,rfl,hcell⟩:=hr.at_ (B8_get hdd)
   have hs:=tlen_take_succ hdd
   rw [show k - 1+1=k by omega] at hs
   have HS:=Lib.hid hs;clear hs
   have HD:=Lib.hid hdd;clear hdd
   have e1:((k:Int) - 1).toNat=k - 1:=by omega
   by_cases hz:d=0
   ·subst hz
    go_wp2
    refine⟨⟨k - 1,by omega,?_,rfl⟩,?_⟩
    ·have h1:=HS.out
     rw [if_pos rfl] at h1
     exact h1.symm.trans ht.out
    ·show k - 1<k
     omega
   ·have hz':((d:Int) == 0)=false:=by simp;omega
    go_wp2
    go_ret
    have h1:=HS.out
    rw [if_neg hz] at h1
    exact trim_end hr hd hn.out hk ht.out (by omega)
end Go.Proofs.YtgbkbgiogdhnaaaGreatDoor
namespace Go.Proofs.YtgbkbgiogdhnaaaGreatDoor
open Go.RowKit
def runL:List Nat→Nat
 | []=>0
 | c :: l=>if 48≤c∧c≤57 then runL l+1 else 0
def AllD (l:List Nat):Prop:=∀c∈l,48≤c∧c≤57
theorem AllD.get {a:List Nat} (h:AllD a) {k d:Nat} (hk:a[k]? = some d):48≤d∧d≤57:=h d (List.mem_of_getElem? hk)
theorem drop_cons {l:List Nat} {k c:Nat} (h:l[k]? = some c):l.drop k=c :: l.drop (k+1):=by
 have h2:=List.getElem?_eq_some_iff.1 h
 rw [List.drop_eq_getElem_cons h2.1,h2.2]
def smallV:List Nat→Nat→Nat
 | [],n=>n
 | c :: l,n=>smallV l (if 1099511627776<10*n+(c - 48) then 1099511627776 else 10*n+(c - 48))
def hasP (p s:List Nat):Bool:=decide (s.take p.length=p)
theorem dec_set {b:List Nat} {k c:Nat} (hd:b[k]? = some c):((dec (b.take k) ++ List.replicate (b.length - k) 0).set k (c - 48))=dec (b.take (k+1)) ++ List.replicate (b.length - (k+1)) 0:=by
 have h:=List.getElem?_eq_some_iff.1 hd
 have hk:=h.1
 have e1:List.replicate (b.length - k) 0=0 :: List.replicate (b.length - (k+1)) 0:=by
  rw [←List.replicate_succ];congr 1;have:=h.1;omega
 rw [e1,set_mid (by simp [dec];omega),List.take_succ_eq_append_getElem h.1,h.2]
 simp [dec]
set_option maxHeartbeats 1000000 in
theorem bytes_any (b:List Nat) (hs:AllD b) (w:World) (hl:b.length<4294967296):Calls Tryz.prog 145 #[.string (mks b)] w fun e w'=>
  ∃g,e=.returned (.slice (some ⟨g,0,none⟩) b.length b.length)∧Hid (g=w.heap.size)∧Hid (Arr w' g 5 (B8 (dec b)))∧Below w.heap.size w w':=by
 go_enter Tryz.func145,Tryz.ntmps145
 go_wp2_with (at_make;go_loud (refine wpList_mk rfl _ _ 50 rfl 5 _ _ Tryz.underlying50 Tryz.info5 rfl _ _ _ _ rfl rfl (b.length) (b.length) (by omega) (by omega) (by omega) (by omega) (by unfold maxLen;omega) ?_;intro g w1 hg harr hbl hsz))
 have hS1:Hid (Arr w1 g 5 (B8 (dec (b.take 0) ++ List.replicate (b.length - 0) 0))):=by
  have h:=harr.out
  show Arr _ _ _ _
  have e:B8 (dec (b.take 0) ++ List.replicate (b.length - 0) 0)=List.replicate b.length (.int .u8 0):=by simp [dec,B8]
  rw [e];exact h
 clear harr hsz
 go_loopw [10] (fun iv wr=>∃k:Nat,k≤b.length∧iv=.int .i64 (k:Int)∧Hid (Arr wr g 5 (B8 (dec (b.take k) ++ List.replicate (b.length - k) 0)))∧Below w.heap.size w wr) (fun iv _=>b.length - (intOf iv).toNat)
 case atStart=>exact⟨0,by omega,rfl,hS1,hbl⟩
 case round=>
  clear hS1 hbl
  obtain⟨k,hk,rfl,ha,hb⟩:=hrel
  by_cases hlt:k<b.length
  ·obtain⟨c,hc⟩:∃c,b[k]? = some c:=⟨_,List.getElem?_eq_getElem hlt⟩
   have cb:=hs.get hc
   have gc:=get_mks hc (by omega) (by rw [size_mks];omega)
   have hget:(dec (b.take k) ++ List.replicate (b.length - k) 0)[k]? = some 0:=by
    rw [List.getElem?_append_right (by simp [dec];omega),List.getElem?_replicate,if_pos (by simp [dec];omega)]
   have hc2:=ha.out.cell' (B8_get hget)
   have hfr:=ha.out.frozen k
   have hst:=ha.out.store k (.int .u8 ((c - 48:Nat):Int))
   rw [B8_set,dec_set hc] at hst
   have ecast:((c - 48:Nat):Int)=(c:Int) - 48:=by omega
   rw [ecast] at hst
   have HST:=Lib.hid hst
   have hB2:=hb.setCell (p:=⟨g,k,none⟩) (by have:=hg.out;show w.heap.size≤g;omega) (.int .u8 ((c:Int) - 48))
   clear hst ecast hget hc
   go_wp2
   go_roundw
   case rel=>exact⟨k+1,by omega,by go_num,HST,hB2⟩
   case measure=>simp [intOf];omega
  ·obtain rfl:k=b.length:=by omega
   have hst:=ha.out
   rw [List.take_length,Nat.sub_self,List.replicate_zero,List.append_nil] at hst
   have HST:=Lib.hid hst
   clear hst ha
   go_wp2
   go_ret
   exact⟨g,rfl,hg,HST,hb⟩
end Go.Proofs.YtgbkbgiogdhnaaaGreatDoor
namespace Go.Proofs.YtgbkbgiogdhnaaaGreatDoor
open Go.RowKit
def knownB (b:Int):Bool:=decide (b=2∨b=8∨b=10∨b=16)
def digV (c:Nat):Nat:=if 48≤c∧c≤57 then c - 48 else if 97≤c∧c≤102 then c - 97+10 else if 65≤c∧c≤70 then c - 65+10 else 99
end Go.Proofs.YtgbkbgiogdhnaaaGreatDoor
namespace Go.Proofs.YtgbkbgiogdhnaaaGreatDoor
open Go.RowKit
end Go.Proofs.YtgbkbgiogdhnaaaGreatDoor
namespace Go.Proofs.YtgbkbgiogdhnaaaGreatDoor
open Go.RowKit
end Go.Proofs.YtgbkbgiogdhnaaaGreatDoor
namespace Go.Proofs.YtgbkbgiogdhnaaaGreatDoor
open Go.RowKit
end Go.Proofs.YtgbkbgiogdhnaaaGreatDoor
namespace Go.Proofs.YtgbkbgiogdhnaaaGreatDoor
open Go.RowKit
end Go.Proofs.YtgbkbgiogdhnaaaGreatDoor
namespace Go.Proofs.YtgbkbgiogdhnaaaGreatDoor
open Go.RowKit
end Go.Proofs.YtgbkbgiogdhnaaaGreatDoor
