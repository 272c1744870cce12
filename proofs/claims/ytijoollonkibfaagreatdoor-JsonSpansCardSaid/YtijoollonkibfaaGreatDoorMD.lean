/- numeral of decimal, whole; its limit, its digits. -/
import Derived.Test.YtijoollonkibfaaGreatDoorMDb
import Derived.Test.YtijoollonkibfaaGreatDoorMA
import Derived.Test.YtijoollonkibfaaGreatDoorMC
import Derived.Lib.MapLaws
import Derived.Lib.IndexMore
import Derived.Lib.ItoaNum
import Derived.Test.YtijoollonkibfaaGreatDoorShelf
import Derived.Lib.ItoaLen
import Derived.Lib.AppendIntMem
namespace Go.Proofs.YtijoollonkibfaaGreatDoor
open Go.RowKit
theorem numeral_body (neg:Bool) (s b:List Nat) (w:World) (hb:By b) (hl:b.length<4294967295) (hs:neg=true∧s=45 :: b∨neg=false∧s=b∧hasP [45] b=false) :
  Calls Tryz.prog 76 #[.string (mks s)] w (NumO w (bodyV neg b)):=by
 by_cases hbad:runL b=0∨(1<runL b∧b[0]? = some 48)
 ·have hv:bodyV neg b=none:=by unfold bodyV;rw [if_pos hbad]
  rw [hv]
  rcases hs with⟨_,rfl⟩ | ⟨_,rfl,h⟩
  ·exact numeral_badN b w hb hl hbad
  ·exact numeral_badP s w hb hl h hbad
 ·have hn0:runL b≠0:=fun h=>hbad (.inl h)
  have hn1:¬(1<runL b∧b[0]? = some 48):=fun h=>hbad (.inr h)
  cases hf:hasP [46] (b.drop (runL b)) with
  | false=>
   rcases hs with⟨rfl,rfl⟩ | ⟨rfl,rfl,h⟩
   ·exact numeral_noFN b w hb hl hn0 hn1 hf
   ·exact numeral_noFP s w hb hl h hn0 hn1 hf
  | true=>
   obtain⟨f,hf⟩:=hasP_one hf
   rcases hs with⟨rfl,rfl⟩ | ⟨rfl,rfl,h⟩
   ·exact numeral_FN b w hb hl hn0 hn1 f hf
   ·exact numeral_FP s w hb hl h hn0 hn1 f hf
theorem numeral_any (s:List Nat) (w:World) (hs:By s) (hl:s.length<4294967295):Calls Tryz.prog 76 #[.string (mks s)] w (NumO w (numeralV s)):=by
 unfold numeralV
 cases h:hasP [45] s with
 | true=>
  obtain⟨t,rfl⟩:=hasP_one h
  exact numeral_body true (45 :: t) t w hs.tail (by simp at hl;omega) (.inl ⟨rfl,rfl⟩)
 | false=>exact numeral_body false s s w hs hl (.inr ⟨rfl,rfl,h⟩)
end Go.Proofs.YtijoollonkibfaaGreatDoor
namespace Go.Proofs.YtijoollonkibfaaGreatDoor
open Go.RowKit
theorem mks_u8 (l:List UInt8):(⟨l.toArray⟩:ByteArray)=mks (l.map UInt8.toNat):=by
 unfold mks
 rw [List.map_map]
 have:(UInt8.ofNat ∘ UInt8.toNat)=id:=by funext x;simp
 rw [this,List.map_id]
theorem By.u8 (l:List UInt8):By (l.map UInt8.toNat):=by
 intro c hc
 obtain⟨x,_,rfl⟩:=List.mem_map.1 hc
 exact x.toNat_lt
def u8s (l:List Nat):List UInt8:=l.map UInt8.ofNat
def decL (l:List Nat):Nat×Nat:=Lib.decodeL (u8s l)
def encL (r:Int):List Nat:=(Lib.encodeRune r).map UInt8.toNat
def escV (s:List Nat):Int×Int×Int:=
 if unitV s<0 then (if 1<s.length∧0<meanV (s.getD 1 0) then ((meanV (s.getD 1 0):Nat),2,0) else (0,0,4))
 else if unitV s<55296∨57343<unitV s then (unitV s,6,0)
 else if 56319<unitV s∨unitV (s.drop 6)<56320∨57343<unitV (s.drop 6) then (0,0,11)
 else (65536+(unitV s - 55296)*1024+unitV (s.drop 6) - 56320,12,0)
def quotG:Nat→List Nat→Nat→Nat→List Nat→List Nat×Nat×Nat
 | 0,_,_,_,_=>([],0,4)
 | f+1,l,at_,next,acc=>
  if l = [] then ([],0,4)
  else if at_<next then quotG f (l.drop (decL l).2) (at_+(decL l).2) next acc
  else if (decL l).1=34 then (acc,at_+1,0)
  else if (decL l).1<32 then ([],at_,4)
  else if (decL l).1=92 then
   (if (escV l).2.2=0 then quotG f (l.drop (decL l).2) (at_+(decL l).2) (at_+(escV l).2.1.toNat) (acc ++ encL (escV l).1) else ([],at_,(escV l).2.2.toNat))
  else quotG f (l.drop (decL l).2) (at_+(decL l).2) (at_+(Lib.runeLen ((decL l).1:Int)).toNat) (acc ++ encL ((decL l).1:Int))
def quotV (l:List Nat):List Nat×Nat×Nat:=quotG l.length l 0 1 []
def itoaL (n:Int):List Nat:=(Lib.itoa n).map UInt8.toNat
def textV (x:Bool×List Nat×Int):List Nat:=coefL x.1 x.2.1 ++ [101] ++ itoaL x.2.2
def resV (x:Bool×List Nat×Int):List Nat×Int:=if limV x=0 then (textV x,0) else ([],limV x)
def parseDV (s:List Nat):List Nat×Int:=match numeralV s with | none=>([],3) | some x=>resV x
def seqN:List Nat→Nat
 | []=>0
 | c :: l=>if letB c || numB c then seqN l+1 else 0
structure JTok where
 kind:Nat
 from_:Nat
 to_:Nat
 text:List Nat
structure JNote where
 from_:Nat
 to_:Nat
 text:List Nat
def litTrue:List Nat:=[116,114,117,101]
def litFalse:List Nat:=[102,97,108,115,101]
def litNull:List Nat:=[110,117,108,108]
def noTok:JTok:=⟨0,0,0,[]⟩
def seqV (s:List Nat):JTok×Nat:=
 if numB (s.getD 0 0) then (if (numeralV (s.take (seqN s))).isNone then (noTok,12) else (⟨3,0,seqN s,s.take (seqN s)⟩,0))
 else if s.take (seqN s)=litTrue∨s.take (seqN s)=litFalse∨s.take (seqN s)=litNull then (⟨4,0,seqN s,s.take (seqN s)⟩,0)
 else (noTok,4)
def idxB (c:Nat):List Nat→Option Nat
 | []=>none
 | x :: l=>if x=c then some 0 else (idxB c l).map (· + 1)
def idxP (a b:Nat):List Nat→Option Nat
 | []=>none
 | x :: l=>if x=a∧l.head? = some b then some 0 else (idxP a b l).map (· + 1)
def commV (s:List Nat):Int:=
 if hasP [47,47] s then (match idxB 10 s with | some n=>(n:Int) | none=>(s.length:Int))
 else if hasP [47,42] s then (match idxP 42 47 (s.drop 2) with | some n=>((n+4:Nat):Int) | none=>-1)
 else 0
def isPunct (c:Nat):Bool:=decide (c=123∨c=125∨c=91∨c=93∨c=58∨c=44)
def isBlank (c:Nat):Bool:=decide (c=32∨c=9∨c=13∨c=10)
def tokV (s:List Nat):JTok×Nat:=
 if isPunct (s.getD 0 0) then (⟨1,0,1,s.take 1⟩,0)
 else if s.getD 0 0=34 then (⟨2,0,(quotV s).2.1,(quotV s).1⟩,(quotV s).2.2)
 else if letB (s.getD 0 0) || numB (s.getD 0 0) then seqV s
 else (noTok,4)
structure Scanned where
 toks:List JTok
 notes:List JNote
 at_:Nat
 err:Nat
def scanG:Nat→Nat→List Nat→List JTok→List JNote→Scanned
 | 0,_,_,ts,ns=>⟨ts,ns,0,0⟩
 | f+1,at_,l,ts,ns=>
  if l = [] then ⟨ts,ns,0,0⟩
  else if isBlank (l.getD 0 0) then scanG f (at_+1) (l.drop 1) ts ns
  else if commV l<0 then ⟨[],[],at_,4⟩
  else if 0<commV l then scanG f (at_+(commV l).toNat) (l.drop (commV l).toNat) ts (ns ++ [⟨at_,at_+(commV l).toNat,l.take (commV l).toNat⟩])
  else if (tokV l).2=0 then scanG f (at_+(tokV l).1.to_) (l.drop (tokV l).1.to_) (ts ++ [⟨(tokV l).1.kind,at_,at_+(tokV l).1.to_,(tokV l).1.text⟩]) ns
  else ⟨[],[],at_+(tokV l).1.to_,(tokV l).2⟩
def checkG:Nat→Nat→List Nat→Option Nat
 | 0,_,_=>none
 | f+1,at_,l=>if l = [] then none else if decL l=(65533,1) then some at_ else checkG f (at_+(decL l).2) (l.drop (decL l).2)
def checkV (s:List Nat):Option Nat:=checkG s.length 0 s
def scanV (s:List Nat):Scanned:=
 if 65536<s.length then ⟨[],[],0,6⟩ else match checkV s with
  | some k=>⟨[],[],k,11⟩
  | none=>scanG s.length 0 s [] []
end Go.Proofs.YtijoollonkibfaaGreatDoor
namespace Go.Proofs.YtijoollonkibfaaGreatDoor
open Go.RowKit
def Pow10 (w:World):Prop:=Lib.TabIs Tryz.prog w "internal/strconv.uint64pow10" .u64 Lib.pow10Tab
theorem Pow10.keep {w w':World} (h:Pow10 w) (hb:Below w.heap.size w w'):Pow10 w':=Lib.tabBelow_of_tabIs h w' hb
theorem itoa_any (n:Int) (h0:-9223372036854775808≤n) (h1:n≤9223372036854775807) (w:World) (ht:Pow10 w) :
  Calls Tryz.prog 123 #[.int .i64 n] w fun e w'=>e=.returned (.string (mks (itoaL n)))∧Below w.heap.size w w':=by
 refine(Tryz.strconv_Itoa n h0 h1 w ht).mono ?_
 rintro e w' ⟨rfl,k,os,rfl⟩
 exact⟨by rw [mks_u8];rfl,Lib.below_grow _ w (Nat.le_refl _) k os⟩
theorem itoaL_len (n:Int) (h0:-9223372036854775808≤n) (h1:n≤9223372036854775807):(itoaL n).length≤21:=by
 unfold itoaL;rw [List.length_map];exact Lib.itoa_length_le n h0 h1
theorem coefL_len (neg:Bool) (d:List Nat):(coefL neg d).length≤d.length+1:=by
 unfold coefL signL
 split
 ·simp
 ·split <;> simp [asc] <;> omega
set_option maxRecDepth 8000 in
set_option maxHeartbeats 2000000 in
theorem dtext_any (neg:Bool) (d:List Nat) (ex:Int) (A:Option Addr) (n c:Nat) (w:World) (hn:Hid (n=d.length)) (hr:Rd w A (B8 d)) (ht:Ten d) (hm:n≤4294967296)
  (h0:-9223372036854775808≤ex) (h1:ex≤9223372036854775807) (hp:Pow10 w) :
  Calls Tryz.prog 105 #[.agg #[.bool neg,.slice A n c,.int .i64 ex]] w fun e w'=>e=.returned (.string (mks (textV (neg,d,ex))))∧Below w.heap.size w w':=by
 have hT:textV (neg,d,ex)=coefL neg d ++ [101] ++ itoaL ex:=rfl
 rw [hT]
 have hl1:=coefL_len neg d
 have hl2:=itoaL_len ex h0 h1
 generalize hcl:coefL neg d=cl at *
 generalize hil:itoaL ex=il at *
 have HCL:=Lib.hid hcl
 have HIL:=Lib.hid hil
 clear hcl hil hT
 have HX:=Lib.hid (Arr.new w 126 [.bool neg,.slice A n c,.int .i64 ex])
 have HBd:Below w.heap.size w (w.alloc (.cells #[.bool neg,.slice A n c,.int .i64 ex] 126)):=(Below.refl _ _).alloc (Nat.le_refl _) _
 have hrW:=hr.keep HBd
 have hpW:=hp.keep HBd
 go_enter Tryz.func105,Tryz.ntmps105
 go_upto_region 1 with(fail)
 have hlow:w.heap.size<(w.alloc (.cells #[.bool neg,.slice A n c,.int .i64 ex] 126)).heap.size:=HX.out.lt
 generalize (w.alloc (.cells #[.bool neg,.slice A n c,.int .i64 ex] 126))=W at *
 obtain⟨zz,hzz⟩:∃zz,Hid (W.heap.size=zz):=⟨_,rfl⟩
 have hz1:w.heap.size<zz:=by have:=hzz.out;omega
 have hz2:zz≤W.heap.size:=by have:=hzz.out;omega
 have RX:∀w',Below zz W w'→Rd w' A (B8 d):=fun w' h=>hrW.keep (by rw [hzz.out];exact h)
 have RP:∀w',Below zz W w'→Pow10 w':=fun w' h=>hpW.keep (by rw [hzz.out];exact h)
 have q0:∀w',Below zz W w'→w'.cell? ⟨w.heap.size,0,none⟩=some (.bool neg):=fun w' h=>(Arr.below (w:=W) HX.out h (by omega)).cell' (i:=0) rfl;have qf0:∀w',Below zz W w'→w'.frozen? ⟨w.heap.size,0,none⟩=false:=fun w' h=>(Arr.below (w:=W) HX.out h (by omega)).frozen 0;have q1:∀w',Below zz W w'→w'.cell? ⟨w.heap.size,1,none⟩=some (.slice A n c):=fun w' h=>(Arr.below (w:=W) HX.out h (by omega)).cell' (i:=1) rfl;have qf1:∀w',Below zz W w'→w'.frozen? ⟨w.heap.size,1,none⟩=false:=fun w' h=>(Arr.below (w:=W) HX.out h (by omega)).frozen 1;have q2:∀w',Below zz W w'→w'.cell? ⟨w.heap.size,2,none⟩=some (.int .i64 ex):=fun w' h=>(Arr.below (w:=W) HX.out h (by omega)).cell' (i:=2) rfl;have qf2:∀w',Below zz W w'→w'.frozen? ⟨w.heap.size,2,none⟩=false:=fun w' h=>(Arr.below (w:=W) HX.out h (by omega)).frozen 2
 have E1:Hid (∀w,Below zz W w→Calls Tryz.prog 122 #[.agg #[.bool neg,.slice A n c,.int .i64 ex]] w fun e w'=>e=.returned (.string (mks cl))∧Below w.heap.size w w'):=fun w h=>by rw [←HCL.out];exact coef_any neg d ex A n c w hn (RX w h) ht hm
 have E2:Hid (∀w,Below zz W w→Calls Tryz.prog 123 #[.int .i64 ex] w fun e w'=>e=.returned (.string (mks il))∧Below w.heap.size w w'):=fun w h=>by rw [←HIL.out];exact itoa_any ex h0 h1 w (RP w h)
 have HS:Below zz W W:=Below.refl _ _
 have HSd:Below zz W W.drew:=Below.drew HS
 have hz3:zz≤W.drew.heap.size:=hz2
 have hdn:d.length≤4294967296:=by have:=hn.out;omega
 have e101:(ByteArray.mk #[101]:ByteArray)=mks [101]:=mks_lit1 101
 have hl3:¬9223372036854775807<cl.length+1:=by omega
 have hl4:¬9223372036854775807<cl.length+1+il.length:=by omega
 have hl5:(([101]:List Nat)).length=1:=rfl
 clear RX RP hr hrW hp hpW
 go_region_held3 (fun w'=>Below zz W w') (assumption) (first | (go_at_call 122;((with_reducible refine(E1.out _ (by assumption)).mono ?_));(all_goals try (fail));rintro e w5 ⟨rfl,hb5⟩;have z5:=hb5.size;(try simp at z5);have hS5_0:Below zz W w5:=Below.trans (by first | assumption | exact Below.alloc (by assumption) (by first | omega | (simp;omega)) _ | exact Below.allocDrew (by assumption) (by first | omega | (simp;omega)) _) (hb5.mono (by first | omega | (simp;omega)))) | (go_at_call 123;((with_reducible refine(E2.out _ (by assumption)).mono ?_));(all_goals try (fail));rintro e w6 ⟨rfl,hb6⟩;have z6:=hb6.size;(try simp at z6);have hS6_0:Below zz W w6:=Below.trans (by first | assumption | exact Below.alloc (by assumption) (by first | omega | (simp;omega)) _ | exact Below.allocDrew (by assumption) (by first | omega | (simp;omega)) _) (hb6.mono (by first | omega | (simp;omega)))))
 all_goals
  go_wp2
  go_ret
  refine⟨by simp,HBd.trans ?_⟩
  have hdw:W.drew.heap.size=W.heap.size:=rfl
  have hW:Below w.heap.size W W.drew:=Below.drew (Below.refl _ _)
  first
   | exact(hW.trans (hb5.mono (by omega))).trans (hb6.mono (by omega))
   | exact(hW.trans (hb6.mono (by omega))).trans (hb5.mono (by omega))
end Go.Proofs.YtijoollonkibfaaGreatDoor
namespace Go.Proofs.YtijoollonkibfaaGreatDoor
open Go.RowKit
theorem lead_sub (l:List Nat):∀x∈lead 0 l,x∈l:=by
 induction l with
 | nil=>intro x h;exact h
 | cons c l ih=>
  intro x h
  by_cases hc:c=0
  ·subst hc;rw [lead_eq] at h;exact List.mem_cons_of_mem _ (ih x h)
  ·rw [lead_ne hc] at h;exact h
theorem ten_decD {l:List Nat} (h:AllD l):Ten (dec l):=by
 intro x hx
 obtain⟨c,hc,rfl⟩:=List.mem_map.1 hx
 have:=h c hc
 omega
def NumB (m:Nat) (x:Bool×List Nat×Int):Prop:=Ten x.2.1∧x.2.1.length≤m∧-1099511627776 - m≤x.2.2∧x.2.2≤1099511627776+m
theorem normV_ok {neg:Bool} {d:List Nat} {ex:Int} (h:Ten d) (m:Nat) (h1:-1099511627776 - m≤ex) (h2:ex+d.length≤1099511627776+m) (h3:d.length≤m):NumB m (normV neg d ex):=by
 have hl:=lead_le 0 d
 unfold normV NumB
 split
 ·exact⟨Ten.nil,by simp,by simp only;omega,by simp only;omega⟩
 ·refine⟨fun x hx=>h x (lead_sub d x (List.mem_of_mem_take hx)),?_,?_,?_⟩
  ·simp only [List.length_take];omega
  ·simp only;omega
  ·simp only;omega
theorem expV_ok {r:List Nat} {k:Int} (h:expV r=some k):-1099511627776≤k∧k≤1099511627776:=by
 rcases exp_cases r with⟨_,he⟩ | ⟨c,t,_,_,_,he⟩ | ⟨c,t,u,mi,pl,_,_,_,_,_,hu⟩
 ·rw [he] at h;have:=Option.some.inj h;omega
 ·rw [he] at h;cases h
 ·have:=smallV_le u 0 (by omega)
  rcases hu with⟨_,he⟩ | ⟨_,_,he⟩ | ⟨_,_,he⟩
  ·rw [he] at h;cases h
  ·rw [he] at h;cases h
  ·rw [he] at h
   have:=Option.some.inj h
   split at this <;> omega
theorem bodyV_ok {neg:Bool} {b:List Nat} {x:Bool×List Nat×Int} (h:bodyV neg b=some x):NumB b.length x:=by
 have hrl:=runL_le b
 have t1:Ten (dec (b.take (runL b))):=ten_decD (runL_all b)
 have l1:(dec (b.take (runL b))).length=runL b:=by simp [dec];omega
 unfold bodyV at h
 split at h
 ·cases h
 ·unfold fracV at h
  by_cases hp:hasP [46] (b.drop (runL b))=true
  ·rw [if_pos hp] at h
   by_cases h0:runL ((b.drop (runL b)).drop 1)=0
   ·rw [if_pos h0] at h;cases h
   ·rw [if_neg h0] at h
    simp only at h
    have hr2:=runL_le ((b.drop (runL b)).drop 1)
    have t2:Ten (dec (((b.drop (runL b)).drop 1).take (runL ((b.drop (runL b)).drop 1)))):=ten_decD (runL_all _)
    have l2:(dec (((b.drop (runL b)).drop 1).take (runL ((b.drop (runL b)).drop 1)))).length=runL ((b.drop (runL b)).drop 1):=by rw [dec,List.length_map,List.length_take];omega
    rw [List.length_drop,List.length_drop] at hr2
    cases he:expV ((b.drop (runL b)).drop (runL ((b.drop (runL b)).drop 1)+1)) with
    | none=>rw [he] at h;cases h
    | some k=>
     rw [he] at h
     have hk:=expV_ok he
     obtain rfl:=Option.some.inj h
     refine normV_ok (t1.append t2) _ (by omega) ?_ ?_
     ·rw [List.length_append,l1,l2];omega
     ·rw [List.length_append,l1,l2];omega
  ·rw [if_neg hp] at h
   simp only at h
   cases he:expV (b.drop (runL b)) with
   | none=>rw [he] at h;cases h
   | some k=>
    rw [he] at h
    have hk:=expV_ok he
    obtain rfl:=Option.some.inj h
    refine normV_ok (t1.append Ten.nil) _ (by omega) ?_ ?_
    ·rw [List.length_append,l1];simp;omega
    ·rw [List.length_append,l1];simp;omega
theorem NumB.mono {m n:Nat} {x:Bool×List Nat×Int} (h:NumB m x) (hm:m≤n):NumB n x:=⟨h.1,by have:=h.2.1;omega,by have:=h.2.2.1;omega,by have:=h.2.2.2;omega⟩
theorem numeralV_ok {s:List Nat} {x:Bool×List Nat×Int} (h:numeralV s=some x):NumB s.length x:=by
 unfold numeralV at h
 refine(bodyV_ok h).mono ?_
 split
 ·rw [List.length_drop];omega
 ·exact Nat.le_refl _
def StrE (w:World) (x:List Nat×Int) (e:Ending) (w':World):Prop:=e=.returned (.tuple #[.string (mks x.1),.int .i64 x.2])∧Below w.heap.size w w'
theorem limV_bd (x:Bool×List Nat×Int):0≤limV x∧limV x≤6:=by unfold limV;(repeat' split) <;> omega
set_option maxRecDepth 8000 in
set_option maxHeartbeats 2000000 in
theorem result_any (neg:Bool) (d:List Nat) (ex:Int) (A:Option Addr) (n c:Nat) (w:World) (hn:Hid (n=d.length)) (hr:Rd w A (B8 d)) (ht:Ten d) (hm:n≤4294967296)
  (h0:-9223372036854775808≤ex) (h1:ex≤9223372036854775807) (hp:Pow10 w) :
  Calls Tryz.prog 77 #[.agg #[.bool neg,.slice A n c,.int .i64 ex]] w (StrE w (resV (neg,d,ex))):=by
 have hlb:=limV_bd (neg,d,ex)
 have DL:Hid (∀w,Calls Tryz.prog 104 #[.agg #[.bool neg,.slice A n c,.int .i64 ex]] w fun e w'=>e=.returned (.int .i64 (limV (neg,d,ex)))∧Below w.heap.size w w'):=fun w=>limit_any (neg,d,ex) A n c w hn
 have DT:Hid (∀w,Rd w A (B8 d)→Pow10 w→Calls Tryz.prog 105 #[.agg #[.bool neg,.slice A n c,.int .i64 ex]] w fun e w'=>e=.returned (.string (mks (textV (neg,d,ex))))∧Below w.heap.size w w'):=fun w hr hp=>dtext_any neg d ex A n c w hn hr ht hm h0 h1 hp
 have hv:resV (neg,d,ex)=if limV (neg,d,ex)=0 then (textV (neg,d,ex),0) else ([],limV (neg,d,ex)):=rfl
 rw [hv]
 clear hv
 generalize limV (neg,d,ex)=lv at *
 generalize textV (neg,d,ex)=tv at *
 have HX:=Lib.hid (Arr.new w 126 [.bool neg,.slice A n c,.int .i64 ex])
 have HBd:Below w.heap.size w (w.alloc (.cells #[.bool neg,.slice A n c,.int .i64 ex] 126)):=(Below.refl _ _).alloc (Nat.le_refl _) _
 by_cases hl:lv=0
 ·subst hl
  rw [if_pos rfl]
  go_enter Tryz.func77,Tryz.ntmps77
  go_upto_region 1 with(fail)
  have hlow:w.heap.size<(w.alloc (.cells #[.bool neg,.slice A n c,.int .i64 ex] 126)).heap.size:=HX.out.lt
  have hrW:=hr.keep HBd
  have hpW:=hp.keep HBd
  generalize (w.alloc (.cells #[.bool neg,.slice A n c,.int .i64 ex] 126))=W at *
  go_upto_region 2 with(first | ((with_reducible show wpList _ _ _ (Oper.mk _ (Op.load 126 (Operand.tmp 1)) _ _ _ _ :: _) _ _);go_loud (refine wpList_lr rfl 126 (.tmp 1) rfl (w.heap.size) [.bool neg,.slice A n c,.int .i64 ex] rfl 126 HX.out _ Tryz.underlying126 (by simp) _ Tryz.sz126 (by first | rfl | simp) ?_)) | (go_at_call 104;((with_reducible refine(DL.out _).mono ?_));rintro e w5 ⟨rfl,hb5⟩;have HX5:=HX.out.keep hb5;have hr5:=hrW.keep hb5;have hp5:=hpW.keep hb5))
  go_wp2_with (first | ((with_reducible show wpList _ _ _ (Oper.mk _ (Op.load 126 (Operand.tmp 1)) _ _ _ _ :: _) _ _);go_loud (refine wpList_lr rfl 126 (.tmp 1) rfl (w.heap.size) [.bool neg,.slice A n c,.int .i64 ex] rfl 126 HX5 _ Tryz.underlying126 (by simp) _ Tryz.sz126 (by first | rfl | simp) ?_)) | (go_at_call 105;((with_reducible refine(DT.out _ hr5 hp5).mono ?_));rintro e w6 ⟨rfl,hb6⟩))
  go_ret2
  exact⟨rfl,(HBd.trans (hb5.mono (by omega))).trans (hb6.mono (by have:=hb5.size;omega))⟩
 ·rw [if_neg hl]
  have hl':(lv != 0)=true:=by simpa using hl
  go_enter Tryz.func77,Tryz.ntmps77
  go_upto_region 1 with(fail)
  have hlow:w.heap.size<(w.alloc (.cells #[.bool neg,.slice A n c,.int .i64 ex] 126)).heap.size:=HX.out.lt
  generalize (w.alloc (.cells #[.bool neg,.slice A n c,.int .i64 ex] 126))=W at *
  go_wp2_with (first | ((with_reducible show wpList _ _ _ (Oper.mk _ (Op.load 126 (Operand.tmp 1)) _ _ _ _ :: _) _ _);go_loud (refine wpList_lr rfl 126 (.tmp 1) rfl (w.heap.size) [.bool neg,.slice A n c,.int .i64 ex] rfl 126 HX.out _ Tryz.underlying126 (by simp) _ Tryz.sz126 (by first | rfl | simp) ?_)) | (go_at_call 104;((with_reducible refine(DL.out _).mono ?_));rintro e w5 ⟨rfl,hb5⟩))
  go_ret2
  exact⟨rfl,HBd.trans (hb5.mono (by omega))⟩
theorem numeral_h (s:List Nat) (hs:By s) (hl:s.length<4294967295):Hid (∀w,Calls Tryz.prog 76 #[.string (mks s)] w (NumO w (numeralV s))):=fun w=>numeral_any s w hs hl
theorem parseDV_none {s:List Nat} (h:numeralV s=none):parseDV s=([],3):=by unfold parseDV;rw [h]
theorem parseDV_some {s:List Nat} {x:Bool×List Nat×Int} (h:numeralV s=some x):parseDV s=resV x:=by unfold parseDV;rw [h]
set_option maxRecDepth 8000 in
set_option maxHeartbeats 2000000 in
theorem parseD_any (s:List Nat) (w:World) (hs:By s) (hl:s.length<4294967295) (hp:Pow10 w):Calls Tryz.prog 54 #[.string (mks s)] w (StrE w (parseDV s)):=by
 have DN:=numeral_h s hs hl
 cases hx:numeralV s with
 | none=>
  rw [parseDV_none hx]
  rw [hx] at DN
  clear hx
  go_enter Tryz.func54,Tryz.ntmps54
  go_upto_region 2 with(first | (go_at_call 76;((with_reducible refine(DN.out _).mono ?_));rintro e w5 ⟨hb5,rfl⟩;have hX0:=Lib.hid (Arr.new w5 126 [.bool false,.slice none 0 0,.int .i64 0]);have hB0:Below w5.heap.size w5 (w5.alloc (.cells #[.bool false,.slice none 0 0,.int .i64 0] 126)):=(Below.refl _ _).alloc (Nat.le_refl _) _) | ((with_reducible show wpList _ _ _ (Oper.mk none (Op.store 126 (Operand.tmp 4) (Operand.tmp 9)) _ _ _ _ :: _) _ _);go_loud (refine wpList_sr rfl rfl 126 (.tmp 4) (.tmp 9) rfl (w5.heap.size) [.bool false,.slice none 0 0,.int .i64 0] rfl rfl 126 _ hX0.out _ Tryz.sz126 (by first | rfl | simp) (by first | rfl | simp) (by first | rfl | simp [Value.oneCell']) ?_;intro w6 hr6 hg6 hz6)))
  go_wp2
  go_ret2
  exact⟨rfl,Below.grown (hb5.trans (hB0.mono (by have:=hb5.size;omega))) hg6 (by have:=hb5.size;simp;omega) (fun k e=>by have:=Option.some.inj e;have:=hb5.size;omega)⟩
 | some x=>
  have hok:=numeralV_ok hx
  obtain⟨neg,d,ex⟩:=x
  obtain⟨ht,hdl,he1,he2⟩:=hok
  simp only at ht hdl he1 he2
  rw [parseDV_some hx]
  rw [hx] at DN
  have DR:Hid (∀A n c w,Hid (n=d.length)→Rd w A (B8 d)→Pow10 w→Calls Tryz.prog 77 #[.agg #[.bool neg,.slice A n c,.int .i64 ex]] w (StrE w (resV (neg,d,ex)))):=
   fun A n c w hn hr hp=>result_any neg d ex A n c w hn hr ht (by have:=hn.out;omega) (by omega) (by omega) hp
  clear hx
  generalize resV (neg,d,ex)=v at *
  go_enter Tryz.func54,Tryz.ntmps54
  go_upto_region 2 with(first | (go_at_call 76;((with_reducible refine(DN.out _).mono ?_));rintro e w5 ⟨hb5,A,n,c,rfl,hn,hc,hr,hf⟩;have hX0:=Lib.hid (Arr.new w5 126 [.bool false,.slice none 0 0,.int .i64 0]);have hB0:Below w5.heap.size w5 (w5.alloc (.cells #[.bool false,.slice none 0 0,.int .i64 0] 126)):=(Below.refl _ _).alloc (Nat.le_refl _) _) | ((with_reducible show wpList _ _ _ (Oper.mk none (Op.store 126 (Operand.tmp 4) (Operand.tmp 9)) _ _ _ _ :: _) _ _);go_loud (refine wpList_sr rfl rfl 126 (.tmp 4) (.tmp 9) rfl (w5.heap.size) [.bool neg,.slice A n c,.int .i64 ex] rfl rfl 126 _ hX0.out _ Tryz.sz126 (by first | rfl | simp) (by first | rfl | simp) (by first | rfl | simp [Value.oneCell']) ?_;intro w6 hr6 hg6 hz6)))
  have hB6:Below w.heap.size w w6:=Below.grown (hb5.trans (hB0.mono (by have:=hb5.size;omega))) hg6 (by have:=hb5.size;simp;omega) (fun k e=>by have:=Option.some.inj e;have:=hb5.size;omega)
  have hrd6:Rd w6 A (B8 d):=hr.keep (Below.grown hB0 hg6 (by simp) (fun k e=>by have:=Option.some.inj e;omega))
  have hp6:=hp.keep hB6
  go_wp2_with (first | ((with_reducible show wpList _ _ _ (Oper.mk _ (Op.load 126 (Operand.tmp 4)) _ _ _ _ :: _) _ _);go_loud (refine wpList_lr rfl 126 (.tmp 4) rfl (w5.heap.size) [.bool neg,.slice A n c,.int .i64 ex] rfl 126 hr6.out _ Tryz.underlying126 (by simp) _ Tryz.sz126 (by first | rfl | simp) ?_)) | (go_at_call 77;((with_reducible refine(DR.out _ _ _ _ hn hrd6 hp6).mono ?_));rintro e w7 ⟨rfl,hb7⟩))
  go_ret2
  exact⟨rfl,hB6.trans (hb7.mono hB6.size)⟩
end Go.Proofs.YtijoollonkibfaaGreatDoor
