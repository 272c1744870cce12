/- The walks of the small functions of jsonlex: letter, numeric, unit. -/
import Derived.Test.YtijoollonkibfaaGreatDoorProg
import Derived.Test.YtijoollonkibfaaGreatDoorMNum
import Derived.Laws.BitsAllLaws
namespace Go.Proofs.YtijoollonkibfaaGreatDoor
open Go.RowKit
def letB (c:Nat):Bool:=decide (97≤c∧c≤122∨65≤c∧c≤90∨c=95)
def numB (c:Nat):Bool:=decide (48≤c∧c≤57∨c=46∨c=43∨c=45)
theorem ret_b {a b:Bool} (h:a=b):Ending.returned (.bool a)=.returned (.bool b):=by rw [h]
theorem ret_i {a b:Int} (h:a=b):Ending.returned (.int .i64 a)=.returned (.int .i64 b):=by rw [h]
set_option maxHeartbeats 1000000 in
theorem letter_any (c:Nat) (hc:c<256) (w:World):Calls Tryz.prog 49 #[.int .u8 (c:Int)] w fun e w'=>e=.returned (.bool (letB c))∧w=w':=by
 go_enter Tryz.func49,Tryz.ntmps49
 go_wp2
 all_goals
  go_ret
  refine⟨ret_b ?_,rfl⟩
  unfold letB
  rw [Bool.eq_iff_iff]
  simp
  try omega
set_option maxHeartbeats 1000000 in
theorem numeric_any (c:Nat) (hc:c<256) (w:World):Calls Tryz.prog 50 #[.int .u8 (c:Int)] w fun e w'=>e=.returned (.bool (numB c))∧w=w':=by
 go_enter Tryz.func50,Tryz.ntmps50
 go_wp2
 all_goals
  go_ret
  refine⟨ret_b ?_,rfl⟩
  unfold numB
  rw [Bool.eq_iff_iff]
  simp
  try omega
end Go.Proofs.YtijoollonkibfaaGreatDoor
namespace Go.Proofs.YtijoollonkibfaaGreatDoor
open Go.RowKit
theorem i64_or_nat (a b:Nat) (ha:a<9223372036854775808) (hb:b<9223372036854775808):bits .or .i64 (a:Int) (b:Int)=((a ||| b:Nat):Int):=by
  have h:a ||| b<9223372036854775808:=Nat.or_lt_two_pow (n:=63) ha hb
  have hA:(BitVec.ofInt IntKind.i64.bits (a:Int)).toNat=a:=by show(BitVec.ofInt 64 (a:Int)).toNat=a;simp;omega
  have hB:(BitVec.ofInt IntKind.i64.bits (b:Int)).toNat=b:=by show(BitVec.ofInt 64 (b:Int)).toNat=b;simp;omega
  unfold bits
  simp only [BitVec.toNat_or,hA,hB]
  rw [IntKind.wrap_i64]
  omega
theorem i64_or16 (n d:Nat) (hn:n<65536) (hd:d<16):bits .or .i64 ((n:Int)*16) (d:Int)=((16*n+d:Nat):Int):=by
  have e:((n:Int)*16)=((n*16:Nat):Int):=by omega
  rw [e,i64_or_nat _ _ (by omega) (by omega)]
  congr 1
  rw [←Nat.shiftLeft_eq n 4,←Nat.shiftLeft_add_eq_or_of_lt (by omega:d<2 ^ 4),Nat.shiftLeft_eq]
  omega
def hexD (c:Nat):Option Nat:=if 48≤c∧c≤57 then some (c - 48) else if 97≤c∧c≤102 then some (c - 87) else if 65≤c∧c≤70 then some (c - 55) else none
def hexN:List Nat→Nat→Int
  | [],n=>n
  | c :: l,n=>match hexD c with
    | some d=>hexN l (16*n+d)
    | none=>-1
def unitV (s:List Nat):Int:=if 6≤s.length∧s[0]? = some 92∧s[1]? = some 117 then hexN ((s.take 6).drop 2) 0 else -1
set_option maxHeartbeats 2000000 in
theorem unit_any (s:List Nat) (hs:By s) (w:World):Calls Tryz.prog 92 #[.string (mks s)] w fun e w'=>e=.returned (.int .i64 (unitV s))∧w=w':=by
  by_cases hl:6≤s.length
  · obtain⟨c0,h0⟩:∃c,s[0]? = some c:=⟨_,List.getElem?_eq_getElem (by omega)⟩
    obtain⟨c1,h1⟩:∃c,s[1]? = some c:=⟨_,List.getElem?_eq_getElem (by omega)⟩
    have g0:=get_mks h0 (hs.get h0) (by rw [size_mks];omega)
    have g1:=get_mks h1 (hs.get h1) (by rw [size_mks];omega)
    have b0:=hs.get h0
    have b1:=hs.get h1
    have hl':¬(s.length:Int)<6:=by omega
    have b2:(0:Int)<s.length:=by omega
    have b3:(1:Int)<s.length:=by omega
    by_cases hc:c0=92∧c1=117
    · obtain⟨rfl,rfl⟩:=hc
      have hu:unitV s=hexN ((s.take 6).drop 2) 0:=by unfold unitV;rw [if_pos ⟨hl,h0,h1⟩]
      rw [hu]
      generalize hv:hexN ((s.take 6).drop 2) 0=v
      have HV:=Lib.hid hv
      clear hv hu h0 h1
      go_enter Tryz.func92,Tryz.ntmps92
      go_wp2
      go_loopw [3,4] (fun nv iv wr=>∃k n:Nat,k≤4∧n<65536∧n<16 ^ k∧nv=.int .i64 n∧iv=.int .i64 ((k+2:Nat):Int)∧Hid (hexN ((s.take 6).drop (k+2)) n=v)∧w=wr) (fun _ iv _=>6 - (intOf iv).toNat)
      case atStart=>exact⟨0,0,by omega,by omega,by omega,rfl,rfl,HV,rfl⟩
      case round=>
        obtain⟨k,n,hk,hn,hnk,rfl,rfl,hv,rfl⟩:=hrel
        by_cases hk4:k<4
        · obtain⟨c,hc⟩:∃c,s[k+2]? = some c:=⟨_,List.getElem?_eq_getElem (by omega)⟩
          have cb:=hs.get hc
          have gc:=get_mks hc cb (by rw [size_mks];omega)
          have h6:((k+2:Nat):Int)<6:=by omega
          have h6':((k+2:Nat):Int)<s.length:=by omega
          have h6n:k+2<s.length:=by omega
          have hdr:(s.take 6).drop (k+2)=c :: (s.take 6).drop (k+1+2):=by
            have h1:(s.take 6)[k+2]? = some c:=by rw [List.getElem?_take,if_pos (by omega)];exact hc
            have h2:=List.getElem?_eq_some_iff.1 h1
            rw [List.drop_eq_getElem_cons h2.1,h2.2]
          rw [hdr,hexN] at hv
          clear hdr hc
          go_wp2
          all_goals first
            | (go_ret
               refine⟨ret_i ?_,rfl⟩
               have h1:=hv.out
               have h2:hexD c=none:=by unfold hexD;(repeat' split) <;> first | rfl | omega
               rw [h2] at h1
               exact h1)
            | (obtain ⟨d, hd, hd1, hd2⟩ : ∃ d, hexD c = some d ∧ d < 16 ∧ (48 ≤ c ∧ c ≤ 57 ∧ d = c - 48 ∨ 97 ≤ c ∧ c ≤ 102 ∧ d = c - 87 ∨ 65 ≤ c ∧ c ≤ 70 ∧ d = c - 55) := by
                 unfold hexD
                 (repeat' split) <;> first | exact⟨_,rfl,by omega,by omega⟩ | (exfalso;omega)
               rw [hd] at hv
               refine⟨⟨k+1,16*n+d,by omega,?_,?_,i64e ?_,i64e (by omega),hv,trivial⟩,by simp [intOf];omega⟩
               · have:16 ^ k≤16 ^ 3:=Nat.pow_le_pow_right (by omega) (by omega)
                 omega
               · rw [Nat.pow_succ];omega
               · rw [←i64_or16 n d hn hd1]
                 congr 1
                 omega)
        · obtain rfl:k=4:=by omega
          have h6:¬((4+2:Nat):Int)<6:=by omega
          have hd:(s.take 6).drop (4+2) = []:=List.drop_eq_nil_of_le (by rw [List.length_take];omega)
          rw [hd,hexN] at hv
          clear hd
          go_wp2
          go_ret
          exact⟨ret_i hv.out,rfl⟩
    · have hu : unitV s = -1 := by
        unfold unitV
        rw [if_neg]
        rintro⟨_,h0',h1'⟩
        rw [h0] at h0'
        rw [h1] at h1'
        exact hc ⟨Option.some.inj h0',Option.some.inj h1'⟩
      rw [hu]
      clear hu
      by_cases hc0:c0=92
      · subst hc0
        have hn:((c1:Int) == 117)=false:=by simp;omega
        have hn':¬(c1:Int)=117:=by omega
        clear h0 h1
        go_enter Tryz.func92,Tryz.ntmps92
        go_wp2
        go_ret
        exact⟨rfl,rfl⟩
      · have hn:((c0:Int) == 92)=false:=by simp;omega
        have hn':¬(c0:Int)=92:=by omega
        clear h0 h1
        go_enter Tryz.func92,Tryz.ntmps92
        go_wp2
        go_ret
        exact⟨rfl,rfl⟩
  · have hu:unitV s = -1:=by unfold unitV;rw [if_neg (fun h=>hl h.1)]
    rw [hu]
    have hl':(s.length:Int)<6:=by omega
    go_enter Tryz.func92,Tryz.ntmps92
    go_wp2
    go_ret
    exact⟨rfl,rfl⟩
end Go.Proofs.YtijoollonkibfaaGreatDoor
namespace Go.Proofs.YtijoollonkibfaaGreatDoor
open Go.RowKit
def meanV (c:Nat):Nat:=if c=34 then 34 else if c=92 then 92 else if c=47 then 47 else if c=98 then 8 else if c=102 then 12 else if c=110 then 10 else if c=114 then 13 else if c=116 then 9 else 0
def meanL:List Nat:=(List.range 256).map meanV
theorem Tryz.sz134:(Tryz.prog.info? 134).map (·.size)=some 256:=by kernel_rfl
theorem meanT_eq:((((((((Tryz.zeroCells134.setIfInBounds 34 (Value.int IntKind.u8 34)).setIfInBounds 92 (Value.int IntKind.u8 92)).setIfInBounds 47 (Value.int IntKind.u8 47)).setIfInBounds 98 (Value.int IntKind.u8 8)).setIfInBounds
  102 (Value.int IntKind.u8 12)).setIfInBounds 110 (Value.int IntKind.u8 10)).setIfInBounds 114 (Value.int IntKind.u8 13)).setIfInBounds 116 (Value.int IntKind.u8 9))=(B8 meanL).toArray:=by kernel_rfl
theorem meanL_len:meanL.length=256:=by simp [meanL]
set_option maxRecDepth 20000 in
set_option maxHeartbeats 2000000 in
theorem meanings_any (w:World):Calls Tryz.prog 93 #[] w fun e w'=>e=.returned (.agg (B8 meanL).toArray)∧Below w.heap.size w w':=by
 have HX:Hid (Arr (w.alloc (.cells Tryz.zeroCells134 134)) w.heap.size 134 Tryz.zeroCells134.toList):=Arr.new w 134 Tryz.zeroCells134.toList
 have HBd:Below w.heap.size w (w.alloc (.cells Tryz.zeroCells134 134)):=(Below.refl _ _).alloc (Nat.le_refl _) _
 have HE:=meanT_eq
 have hl:(B8 meanL).length=256:=by rw [length_B8,meanL_len]
 have h1:(B8 meanL).all (·.oneCell')=true:=by rw [List.all_eq_true];exact fun u hu=>B8_one _ u hu
 have HL:=Lib.hid hl
 have H1:=Lib.hid h1
 clear hl h1
 generalize B8 meanL=us at *
 go_enter Tryz.func93,Tryz.ntmps93
 go_upto_region 1 with(fail)
 generalize (w.alloc (.cells Tryz.zeroCells134 134))=W at *
 go_wp2_with (refine wpList_sr rfl rfl 134 (.tmp 0) (.tmp 1) rfl w.heap.size us rfl rfl 134 _ HX.out 256 Tryz.sz134 HL.out (by kernel_rfl) H1.out ?_;intro w5 hr5 hg5 hz5)
 have hsz2:us.toArray.size=256:=by rw [List.size_toArray];exact HL.out
 exact bodyPost_ret (v:=.agg us.toArray) (results_cell_row (d:=.array 256 5) Tryz.results93 _ _ _ _ us.toArray (0,0) rfl hr5.out (by rw [Tryz.underlying134]) rfl (by rw [hsz2];exact Tryz.sz134)) rfl
  ⟨rfl,HBd.grown hg5 HBd.size (fun k e=>by have h:w.heap.size=k:=Option.some.inj e;omega)⟩
end Go.Proofs.YtijoollonkibfaaGreatDoor
namespace Go.Proofs.YtijoollonkibfaaGreatDoor
open Go.RowKit
theorem Tryz.info5:(Tryz.prog.info? 5).map (fun i=>(i.zero,i.size,i.bytes))=some (some (.int .u8 0),1,1):=by kernel_rfl
theorem Tryz.size5:(Tryz.prog.info? 5).map (·.size)=some 1:=by kernel_rfl
theorem Tryz.sz121:(Tryz.prog.info? 121).map (·.size)=some 2:=by kernel_rfl
theorem Tryz.info3:(Tryz.prog.info? 3).map (fun i=>(i.zero,i.size,i.bytes))=some (some (.int .i64 0),1,8):=by kernel_rfl
theorem rd_trim {w:World} {A:Option Addr} {ds:List Nat} (h:Rd w A (B8 ds)) (ht:Ten ds):Rd w A (B8 (dg (val ds))):=by
 rw [dg_val ht]
 have:=h.take (tlen ds)
 unfold B8 at this ⊢
 rwa [←List.map_take] at this
def TrimPost (ds:List Nat) (A:Option Addr) (c:Nat) (w:World) (e:Ending) (w':World):Prop:=
 ∃k,e=.returned (.slice A k c)∧Hid (k=(dg (val ds)).length)∧k≤ds.length∧Rd w A (B8 (dg (val ds)))∧w=w'
theorem trim_end {w:World} {A:Option Addr} {ds:List Nat} {k c:Nat} {n:Nat} (hr:Rd w A (B8 ds)) (hd:Ten ds) (hn:n=ds.length) (hk:k≤n) (ht:tlen (ds.take k)=tlen ds)
  (he:tlen (ds.take k)=k):TrimPost ds A c w (.returned (.slice A k c)) w:=by
 refine⟨k,rfl,?_,by omega,rd_trim hr hd,rfl⟩
 show k=_
 rw [dg_val hd,List.length_take]
 have:=tlen_le ds
 omega
set_option maxHeartbeats 400000 in
theorem trim_any (A:Option Addr) (n c:Nat) (ds:List Nat) (w:World) (hn:Hid (n=ds.length)) (hr:Rd w A (B8 ds)) (hd:Ten ds) (hc:n≤c) (hm:n≤maxLen) :
  Calls Tryz.prog 124 #[.slice A n c] w (TrimPost ds A c w):=by
 unfold maxLen at hm
 go_enter Tryz.func124,Tryz.ntmps124
 go_wp2
 go_loop [0] (fun v=>∃k:Nat,k≤n∧Hid (tlen (ds.take k)=tlen ds)∧v=.slice A k c) (fun v=>match v with | .slice _ k _=>k | _=>0)
 case atStart=>exact⟨n,Nat.le_refl _,by show _=_;rw [List.take_of_length_le (by have:=hn.out;omega)],rfl⟩
 case round=>
  obtain⟨k,hk,ht,rfl⟩:=hrel
  by_cases h0:k=0
  ·subst h0
   go_wp2
   go_ret
   exact trim_end hr hd hn.out hk ht.out (by simp [tlen])
  ·have hk1:0<k:=by omega
   have hk2:k - 1<ds.length:=by have:=hn.out;omega
   obtain⟨d,hdd⟩:∃d,ds[k-1]? = some d:=⟨_,List.getElem?_eq_getElem hk2⟩
   obtain⟨ad,rfl,hcell⟩:=hr.at_ (B8_get hdd)
   have hs:=tlen_take_succ hdd
   rw [show k - 1+1=k by omega] at hs
   have HS:=Lib.hid hs;clear hs
   have HD:=Lib.hid hdd;clear hdd
   have e1:((k:Int) - 1).toNat=k - 1:=by omega
   by_cases hz:d=0
   ·subst hz
    go_wp2
    refine⟨⟨k - 1,by omega,?_,rfl⟩,?_⟩
    ·have h1:=HS.out
     rw [if_pos rfl] at h1
     exact h1.symm.trans ht.out
    ·show k - 1<k
     omega
   ·have hz':((d:Int) == 0)=false:=by simp;omega
    go_wp2
    go_ret
    have h1:=HS.out
    rw [if_neg hz] at h1
    exact trim_end hr hd hn.out hk ht.out (by omega)
end Go.Proofs.YtijoollonkibfaaGreatDoor
namespace Go.Proofs.YtijoollonkibfaaGreatDoor
open Go.RowKit
def runL:List Nat→Nat
  | []=>0
  | c :: l=>if 48≤c∧c≤57 then runL l+1 else 0
theorem runL_le (l:List Nat):runL l≤l.length:=by
  induction l with
  | nil=>exact Nat.le_refl _
  | cons c l ih=>unfold runL;split <;> simp <;> omega
def AllD (l:List Nat):Prop:=∀c∈l,48≤c∧c≤57
theorem AllD.get {a:List Nat} (h:AllD a) {k d:Nat} (hk:a[k]? = some d):48≤d∧d≤57:=h d (List.mem_of_getElem? hk)
theorem runL_all (l:List Nat):AllD (l.take (runL l)):=by
  induction l with
  | nil=>intro c h;simp at h
  | cons c l ih=>
    unfold runL
    split
    · intro x hx
      rw [List.take_succ_cons] at hx
      rcases List.mem_cons.1 hx with rfl | hx
      · assumption
      · exact ih x hx
    · intro x hx;simp at hx
theorem drop_cons {l:List Nat} {k c:Nat} (h:l[k]? = some c):l.drop k=c :: l.drop (k+1):=by
  have h2:=List.getElem?_eq_some_iff.1 h
  rw [List.drop_eq_getElem_cons h2.1,h2.2]
set_option maxHeartbeats 1000000 in
theorem run_any (s:List Nat) (hs:By s) (w:World) (hl:s.length<4294967296):Calls Tryz.prog 100 #[.string (mks s)] w fun e w'=>e=.returned (.int .i64 ((runL s:Nat):Int))∧w=w':=by
  generalize hv:runL s=v
  have HV:Hid (0+runL (s.drop 0)=v):=by show _=_;simpa using hv
  clear hv
  go_enter Tryz.func100,Tryz.ntmps100
  go_wp2
  go_loopw [3] (fun iv wr=>∃k:Nat,k≤s.length∧iv=.int .i64 (k:Int)∧Hid (k+runL (s.drop k)=v)∧w=wr) (fun iv _=>s.length - (intOf iv).toNat)
  case atStart=>exact⟨0,by omega,rfl,HV,rfl⟩
  case round=>
    obtain⟨k,hk,rfl,hv,rfl⟩:=hrel
    by_cases hlt:k<s.length
    · obtain⟨c,hc⟩:∃c,s[k]? = some c:=⟨_,List.getElem?_eq_getElem hlt⟩
      have cb:=hs.get hc
      have gc:=get_mks hc cb (by rw [size_mks];omega)
      have hd:=drop_cons hc
      rw [hd,runL] at hv
      clear hd hc
      go_wp2
      all_goals first
        | (go_ret
           refine⟨ret_i ?_,rfl⟩
           have h1:=hv.out
           rw [if_neg (by omega)] at h1
           omega)
        | (refine ⟨⟨k + 1, by omega, i64e (by omega), ?_, trivial⟩, by simp [intOf]; omega⟩
           have h1:=hv.out
           rw [if_pos (by omega)] at h1
           show _=_
           omega)
    · obtain rfl:k=s.length:=by omega
      have hd:s.drop s.length = []:=List.drop_eq_nil_of_le (Nat.le_refl _)
      rw [hd,runL] at hv
      clear hd
      go_wp2
      go_ret
      exact⟨ret_i (by have:=hv.out;omega),rfl⟩
def smallV:List Nat→Nat→Nat
  | [],n=>n
  | c :: l,n=>smallV l (if 1099511627776<10*n+(c - 48) then 1099511627776 else 10*n+(c - 48))
set_option maxHeartbeats 1000000 in
theorem dsmall_any (s:List Nat) (hs:AllD s) (w:World) (hl:s.length<4294967296):Calls Tryz.prog 102 #[.string (mks s)] w fun e w'=>e=.returned (.int .i64 ((smallV s 0:Nat):Int))∧w=w':=by
  generalize hv:smallV s 0=v
  have HV:Hid (smallV (s.drop 0) 0=v):=by show _=_;simpa using hv
  clear hv
  go_enter Tryz.func102,Tryz.ntmps102
  go_wp2
  go_loopw [3,7] (fun nv iv wr=>∃k n:Nat,k≤s.length∧n≤1099511627776∧nv=.int .i64 (n:Int)∧iv=.int .i64 (k:Int)∧Hid (smallV (s.drop k) n=v)∧w=wr) (fun _ iv _=>s.length - (intOf iv).toNat)
  case atStart=>exact⟨0,0,by omega,by omega,rfl,rfl,HV,rfl⟩
  case round=>
    obtain⟨k,n,hk,hn,rfl,rfl,hv,rfl⟩:=hrel
    by_cases hlt:k<s.length
    · obtain⟨c,hc⟩:∃c,s[k]? = some c:=⟨_,List.getElem?_eq_getElem hlt⟩
      have cb:=hs.get hc
      have gc:=get_mks hc (by omega) (by rw [size_mks];omega)
      have hd:=drop_cons hc
      rw [hd,smallV] at hv
      clear hd hc
      go_wp2
      all_goals
        refine⟨⟨k+1,_,by omega,?_,i64e ?_,i64e (by omega),hv,trivial⟩,by simp [intOf];omega⟩
        · split <;> omega
        · split <;> split <;> omega
    · obtain rfl:k=s.length:=by omega
      have hd:s.drop s.length = []:=List.drop_eq_nil_of_le (Nat.le_refl _)
      rw [hd,smallV] at hv
      clear hd
      go_wp2
      go_ret
      exact⟨ret_i (by have:=hv.out;omega),rfl⟩
def hasP (p s:List Nat):Bool:=decide (s.take p.length=p)
set_option maxHeartbeats 1000000 in
theorem prefix_any (s p:List Nat) (hs:By s) (hp:By p) (w:World):Calls Tryz.prog 46 #[.string (mks s),.string (mks p)] w fun e w'=>e=.returned (.bool (hasP p s))∧w=w':=by
  by_cases hl:p.length≤s.length
  · have hl':(p.length:Int)≤s.length:=by omega
    have he:=eq_mks (a:=s.take p.length) (b:=p) (hs.take _) hp
    have hh:decide (s.take p.length=p)=hasP p s:=rfl
    rw [hh] at he
    go_enter Tryz.func46,Tryz.ntmps46
    go_wp2
    go_ret
    exact⟨rfl,rfl⟩
  · have hl':¬(p.length:Int)≤s.length:=by omega
    have hh:hasP p s=false:=by unfold hasP;rw [decide_eq_false_iff_not];intro h;have:=congrArg List.length h;rw [List.length_take] at this;omega
    rw [hh]
    go_enter Tryz.func46,Tryz.ntmps46
    go_wp2
    go_ret
    exact⟨rfl,rfl⟩
theorem dec_set {b:List Nat} {k c:Nat} (hd:b[k]? = some c):((dec (b.take k) ++ List.replicate (b.length - k) 0).set k (c - 48))=dec (b.take (k+1)) ++ List.replicate (b.length - (k+1)) 0:=by
  have h:=List.getElem?_eq_some_iff.1 hd
  have hk:=h.1
  have e1:List.replicate (b.length - k) 0=0 :: List.replicate (b.length - (k+1)) 0:=by
    rw [←List.replicate_succ];congr 1;have:=h.1;omega
  rw [e1,set_mid (by simp [dec];omega),List.take_succ_eq_append_getElem h.1,h.2]
  simp [dec]
set_option maxHeartbeats 1000000 in
theorem bytes_any (b : List Nat) (hs : AllD b) (w : World) (hl : b.length < 4294967296) : Calls Tryz.prog 101 #[.string (mks b)] w fun e w' =>
    ∃g,e=.returned (.slice (some ⟨g,0,none⟩) b.length b.length)∧Hid (g=w.heap.size)∧Hid (Arr w' g 5 (B8 (dec b)))∧Below w.heap.size w w':=by
  go_enter Tryz.func101,Tryz.ntmps101
  go_wp2_with (at_make;go_loud (refine wpList_mk rfl _ _ 108 rfl 5 _ _ Tryz.underlying108 Tryz.info5 rfl _ _ _ _ rfl rfl (b.length) (b.length) (by omega) (by omega) (by omega) (by omega) (by unfold maxLen;omega) ?_;intro g w1 hg harr hbl hsz))
  have hS1:Hid (Arr w1 g 5 (B8 (dec (b.take 0) ++ List.replicate (b.length - 0) 0))):=by
    have h:=harr.out
    show Arr _ _ _ _
    have e:B8 (dec (b.take 0) ++ List.replicate (b.length - 0) 0)=List.replicate b.length (.int .u8 0):=by simp [dec,B8]
    rw [e];exact h
  clear harr hsz
  go_loopw [10] (fun iv wr=>∃k:Nat,k≤b.length∧iv=.int .i64 (k:Int)∧Hid (Arr wr g 5 (B8 (dec (b.take k) ++ List.replicate (b.length - k) 0)))∧Below w.heap.size w wr) (fun iv _=>b.length - (intOf iv).toNat)
  case atStart=>exact⟨0,by omega,rfl,hS1,hbl⟩
  case round=>
    clear hS1 hbl
    obtain⟨k,hk,rfl,ha,hb⟩:=hrel
    by_cases hlt:k<b.length
    · obtain⟨c,hc⟩:∃c,b[k]? = some c:=⟨_,List.getElem?_eq_getElem hlt⟩
      have cb:=hs.get hc
      have gc:=get_mks hc (by omega) (by rw [size_mks];omega)
      have hget:(dec (b.take k) ++ List.replicate (b.length - k) 0)[k]? = some 0:=by
        rw [List.getElem?_append_right (by simp [dec];omega),List.getElem?_replicate,if_pos (by simp [dec];omega)]
      have hc2:=ha.out.cell' (B8_get hget)
      have hfr:=ha.out.frozen k
      have hst:=ha.out.store k (.int .u8 ((c - 48:Nat):Int))
      rw [B8_set,dec_set hc] at hst
      have ecast:((c - 48:Nat):Int)=(c:Int) - 48:=by omega
      rw [ecast] at hst
      have HST:=Lib.hid hst
      have hB2:=hb.setCell (p:=⟨g,k,none⟩) (by have:=hg.out;show w.heap.size≤g;omega) (.int .u8 ((c:Int) - 48))
      clear hst ecast hget hc
      go_wp2
      go_roundw
      case rel=>exact⟨k+1,by omega,by go_num,HST,hB2⟩
      case measure=>simp [intOf];omega
    · obtain rfl:k=b.length:=by omega
      have hst:=ha.out
      rw [List.take_length,Nat.sub_self,List.replicate_zero,List.append_nil] at hst
      have HST:=Lib.hid hst
      clear hst ha
      go_wp2
      go_ret
      exact⟨g,rfl,hg,HST,hb⟩
end Go.Proofs.YtijoollonkibfaaGreatDoor
namespace Go.Proofs.YtijoollonkibfaaGreatDoor
open Go.RowKit
def knownB (b:Int):Bool:=decide (b=2∨b=8∨b=10∨b=16)
theorem knownB_true {b:Int}:knownB b=true↔b=2∨b=8∨b=10∨b=16:=by simp [knownB]
theorem knownB_false {b:Int}:knownB b=false↔¬(b=2∨b=8∨b=10∨b=16):=by simp [knownB]
def digV (c:Nat):Nat:=if 48≤c∧c≤57 then c - 48 else if 97≤c∧c≤102 then c - 97+10 else if 65≤c∧c≤70 then c - 65+10 else 99
theorem digV_le (c:Nat):digV c≤99:=by unfold digV;(repeat' split) <;> omega
theorem ret_bool {a b:Bool} (h:a=b):Ending.returned (.bool a)=.returned (.bool b):=by rw [h]
theorem ret_i64 {a b:Int} (h:a=b):Ending.returned (.int .i64 a)=.returned (.int .i64 b):=by rw [h]
set_option maxHeartbeats 400000 in
theorem known_any (b:Int) (w:World):Calls Tryz.prog 71 #[.int .i64 b] w fun e w'=>e=.returned (.bool (knownB b))∧w=w':=by
 by_cases h:b=2∨b=8∨b=10∨b=16
 ·have hk:=knownB_true.2 h
  have HK:=Lib.hid hk;clear hk
  rcases h with rfl | rfl | rfl | rfl
  all_goals
   go_enter Tryz.func71,Tryz.ntmps71
   go_wp2
   go_ret
   exact⟨ret_bool HK.out.symm,rfl⟩
 ·have hk:=knownB_false.2 h
  have HK:=Lib.hid hk;clear hk
  have h2:(b == 2)=false:=by simp;omega
  have h8:(b == 8)=false:=by simp;omega
  have h10:(b == 10)=false:=by simp;omega
  have h16:(b == 16)=false:=by simp;omega
  clear h
  go_enter Tryz.func71,Tryz.ntmps71
  go_wp2
  go_ret
  exact⟨ret_bool HK.out.symm,rfl⟩
set_option maxHeartbeats 1000000 in
theorem digit_any (c:Int) (h0:0≤c) (h1:c<256) (w:World):Calls Tryz.prog 72 #[.int .u8 c] w fun e w'=>e=.returned (.int .i64 (digV c.toNat:Nat))∧w=w':=by
 go_enter Tryz.func72,Tryz.ntmps72
 go_wp2
 all_goals
  go_ret
  refine⟨ret_i64 ?_,rfl⟩
  unfold digV
  (repeat' split) <;> omega
end Go.Proofs.YtijoollonkibfaaGreatDoor
