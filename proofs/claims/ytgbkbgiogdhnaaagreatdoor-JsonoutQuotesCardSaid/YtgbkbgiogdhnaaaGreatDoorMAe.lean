/- The walks of text, result and Parse of decimal. -/
import Derived.Test.YtgbkbgiogdhnaaaGreatDoorShelf
import Derived.Test.YtgbkbgiogdhnaaaGreatDoorMAd
import Derived.Lib.ItoaLen
import Derived.Lib.AppendIntMem
import Derived.Lib.OthersKept
import Derived.Lib.Builder
import Derived.Laws.Externs
set_option linter.unusedVariables false
set_option linter.unusedSimpArgs false
set_option linter.defProp false
set_option linter.constructorNameAsVariable false
namespace Go.Proofs.YtgbkbgiogdhnaaaGreatDoor
open Go.RowKit
def Pow10 (w:World):Prop:=Lib.TabIs Tryz.prog w "internal/strconv.uint64pow10" .u64 Lib.pow10Tab
theorem Pow10.keep {w w':World} (h:Pow10 w) (hb:Below w.heap.size w w'):Pow10 w':=Lib.tabBelow_of_tabIs h w' hb
theorem itoa_any (n:Int) (h0:-9223372036854775808≤n) (h1:n≤9223372036854775807) (w:World) (ht:Pow10 w) :
  Calls Tryz.prog 109 #[.int .i64 n] w fun e w'=>e=.returned (.string (mks (itoaL n)))∧Below w.heap.size w w':=by
 refine(Tryz.strconv_Itoa n h0 h1 w ht).mono ?_
 rintro e w' ⟨rfl,k,os,rfl⟩
 exact⟨by rw [mks_u8];rfl,Lib.below_grow _ w (Nat.le_refl _) k os⟩
theorem itoaL_len (n:Int) (h0:-9223372036854775808≤n) (h1:n≤9223372036854775807):(itoaL n).length≤21:=by
 unfold itoaL;rw [List.length_map];exact Lib.itoa_length_le n h0 h1
theorem coefL_len (neg:Bool) (d:List Nat):(coefL neg d).length≤d.length+1:=by
 unfold coefL signL
 split
 ·simp
 ·split <;> simp [asc] <;> omega
set_option maxRecDepth 8000 in
set_option maxHeartbeats 2000000 in
theorem dtext_any (neg:Bool) (d:List Nat) (ex:Int) (A:Option Addr) (n c:Nat) (w:World) (hn:Hid (n=d.length)) (hr:Rd w A (B8 d)) (ht:Ten d) (hm:n≤4294967296)
  (h0:-9223372036854775808≤ex) (h1:ex≤9223372036854775807) (hp:Pow10 w) :
  Calls Tryz.prog 147 #[.agg #[.bool neg,.slice A n c,.int .i64 ex]] w fun e w'=>e=.returned (.string (mks (textV (neg,d,ex))))∧Below w.heap.size w w':=by
 have hT:textV (neg,d,ex)=coefL neg d ++ [101] ++ itoaL ex:=rfl
 rw [hT]
 have hl1:=coefL_len neg d
 have hl2:=itoaL_len ex h0 h1
 generalize hcl:coefL neg d=cl at *
 generalize hil:itoaL ex=il at *
 have HCL:=Lib.hid hcl
 have HIL:=Lib.hid hil
 clear hcl hil hT
 have HX:=Lib.hid (Arr.new w 172 [.bool neg,.slice A n c,.int .i64 ex])
 have HBd:Below w.heap.size w (w.alloc (.cells #[.bool neg,.slice A n c,.int .i64 ex] 172)):=(Below.refl _ _).alloc (Nat.le_refl _) _
 have hrW:=hr.keep HBd
 have hpW:=hp.keep HBd
 go_enter Tryz.func147,Tryz.ntmps147
 go_upto_region 1 with(fail)
 have hlow:w.heap.size<(w.alloc (.cells #[.bool neg,.slice A n c,.int .i64 ex] 172)).heap.size:=HX.out.lt
 generalize (w.alloc (.cells #[.bool neg,.slice A n c,.int .i64 ex] 172))=W at *
 obtain⟨zz,hzz⟩:∃zz,Hid (W.heap.size=zz):=⟨_,rfl⟩
 have hz1:w.heap.size<zz:=by have:=hzz.out;omega
 have hz2:zz≤W.heap.size:=by have:=hzz.out;omega
 have RX:∀w',Below zz W w'→Rd w' A (B8 d):=fun w' h=>hrW.keep (by rw [hzz.out];exact h)
 have RP:∀w',Below zz W w'→Pow10 w':=fun w' h=>hpW.keep (by rw [hzz.out];exact h)
 have q0:∀w',Below zz W w'→w'.cell? ⟨w.heap.size,0,none⟩=some (.bool neg):=fun w' h=>(Arr.below (w:=W) HX.out h (by omega)).cell' (i:=0) rfl;have qf0:∀w',Below zz W w'→w'.frozen? ⟨w.heap.size,0,none⟩=false:=fun w' h=>(Arr.below (w:=W) HX.out h (by omega)).frozen 0;have q1:∀w',Below zz W w'→w'.cell? ⟨w.heap.size,1,none⟩=some (.slice A n c):=fun w' h=>(Arr.below (w:=W) HX.out h (by omega)).cell' (i:=1) rfl;have qf1:∀w',Below zz W w'→w'.frozen? ⟨w.heap.size,1,none⟩=false:=fun w' h=>(Arr.below (w:=W) HX.out h (by omega)).frozen 1;have q2:∀w',Below zz W w'→w'.cell? ⟨w.heap.size,2,none⟩=some (.int .i64 ex):=fun w' h=>(Arr.below (w:=W) HX.out h (by omega)).cell' (i:=2) rfl;have qf2:∀w',Below zz W w'→w'.frozen? ⟨w.heap.size,2,none⟩=false:=fun w' h=>(Arr.below (w:=W) HX.out h (by omega)).frozen 2
 have E1:Hid (∀w,Below zz W w→Calls Tryz.prog 184 #[.agg #[.bool neg,.slice A n c,.int .i64 ex]] w fun e w'=>e=.returned (.string (mks cl))∧Below w.heap.size w w'):=fun w h=>by rw [←HCL.out];exact coef_any neg d ex A n c w hn (RX w h) ht hm
 have E2:Hid (∀w,Below zz W w→Calls Tryz.prog 109 #[.int .i64 ex] w fun e w'=>e=.returned (.string (mks il))∧Below w.heap.size w w'):=fun w h=>by rw [←HIL.out];exact itoa_any ex h0 h1 w (RP w h)
 have HS:Below zz W W:=Below.refl _ _
 have HSd:Below zz W W.drew:=Below.drew HS
 have hz3:zz≤W.drew.heap.size:=hz2
 have hdn:d.length≤4294967296:=by have:=hn.out;omega
 have e101:(ByteArray.mk #[101]:ByteArray)=mks [101]:=mks_lit1 101
 have hl3:¬9223372036854775807<cl.length+1:=by omega
 have hl4:¬9223372036854775807<cl.length+1+il.length:=by omega
 have hl5:(([101]:List Nat)).length=1:=rfl
 clear RX RP hr hrW hp hpW
 go_region_held3 (fun w'=>Below zz W w') (assumption) (first | (go_at_call 184;((with_reducible refine(E1.out _ (by assumption)).mono ?_));(all_goals try (fail));rintro e w5 ⟨rfl,hb5⟩;have z5:=hb5.size;(try simp at z5);have hS5_0:Below zz W w5:=Below.trans (by first | assumption | exact Below.alloc (by assumption) (by first | omega | (simp;omega)) _ | exact Below.allocDrew (by assumption) (by first | omega | (simp;omega)) _) (hb5.mono (by first | omega | (simp;omega)))) | (go_at_call 109;((with_reducible refine(E2.out _ (by assumption)).mono ?_));(all_goals try (fail));rintro e w6 ⟨rfl,hb6⟩;have z6:=hb6.size;(try simp at z6);have hS6_0:Below zz W w6:=Below.trans (by first | assumption | exact Below.alloc (by assumption) (by first | omega | (simp;omega)) _ | exact Below.allocDrew (by assumption) (by first | omega | (simp;omega)) _) (hb6.mono (by first | omega | (simp;omega)))))
 all_goals
  go_wp2
  go_ret
  refine⟨by simp,HBd.trans ?_⟩
  have hdw:W.drew.heap.size=W.heap.size:=rfl
  have hW:Below w.heap.size W W.drew:=Below.drew (Below.refl _ _)
  first
   | exact(hW.trans (hb5.mono (by omega))).trans (hb6.mono (by omega))
   | exact(hW.trans (hb6.mono (by omega))).trans (hb5.mono (by omega))
end Go.Proofs.YtgbkbgiogdhnaaaGreatDoor
namespace Go.Proofs.YtgbkbgiogdhnaaaGreatDoor
open Go.RowKit
theorem lead_sub (l:List Nat):∀x∈lead 0 l,x∈l:=by
 induction l with
 | nil=>intro x h;exact h
 | cons c l ih=>
  intro x h
  by_cases hc:c=0
  ·subst hc;rw [lead_eq] at h;exact List.mem_cons_of_mem _ (ih x h)
  ·rw [lead_ne hc] at h;exact h
theorem ten_decD {l:List Nat} (h:AllD l):Ten (dec l):=by
 intro x hx
 obtain⟨c,hc,rfl⟩:=List.mem_map.1 hx
 have:=h c hc
 omega
def NumB (m:Nat) (x:Bool×List Nat×Int):Prop:=Ten x.2.1∧x.2.1.length≤m∧-1099511627776 - m≤x.2.2∧x.2.2≤1099511627776+m
theorem normV_ok {neg:Bool} {d:List Nat} {ex:Int} (h:Ten d) (m:Nat) (h1:-1099511627776 - m≤ex) (h2:ex+d.length≤1099511627776+m) (h3:d.length≤m):NumB m (normV neg d ex):=by
 have hl:=lead_le 0 d
 unfold normV NumB
 split
 ·exact⟨Ten.nil,by simp,by simp only;omega,by simp only;omega⟩
 ·refine⟨fun x hx=>h x (lead_sub d x (List.mem_of_mem_take hx)),?_,?_,?_⟩
  ·simp only [List.length_take];omega
  ·simp only;omega
  ·simp only;omega
theorem NumB.mono {m n:Nat} {x:Bool×List Nat×Int} (h:NumB m x) (hm:m≤n):NumB n x:=⟨h.1,by have:=h.2.1;omega,by have:=h.2.2.1;omega,by have:=h.2.2.2;omega⟩
end Go.Proofs.YtgbkbgiogdhnaaaGreatDoor
namespace Go.Proofs.YtgbkbgiogdhnaaaGreatDoor
open Go.RowKit
theorem data_mks (l:List Nat):(mks l).data.toList=u8s l:=by simp [mks,u8s]
structure LibOK (w:World):Prop where
 pow:Pow10 w
 max:∃m,w.cell? ⟨0,0,none⟩=some (.int .i64 m)
 tabs:Lib.Utf8Tabs 1 2 w
theorem LibOK.keep {w w':World} (h:LibOK w) (hb:Below w.heap.size w w'):LibOK w':=by
 obtain⟨m,hm⟩:=h.max
 exact⟨h.pow.keep hb,⟨m,(hb.cell (block_lt_of_cell hm)).trans hm⟩,Utf8Tabs_below h.tabs hb⟩
def ixBV (c:Nat) (l:List Nat):Int:=match idxB c l with | some n=>(n:Int) | none=>-1
def ixPV (a b:Nat) (l:List Nat):Int:=match idxP a b l with | some n=>(n:Int) | none=>-1
theorem u8_beq {a b:Nat} (ha:a<256) (hb:b<256):(UInt8.ofNat a == UInt8.ofNat b)=decide (a=b):=by
 by_cases h:a=b
 ·subst h;simp
 ·rw [decide_eq_false h,beq_eq_false_iff_ne]
  exact fun e=>h (ofNat_inj ha hb e)
theorem ixB_eq {l:List Nat} (hl:By l) {c:Nat} (hc:c<256):Lib.indexByte (u8s l) (UInt8.ofNat c)=ixBV c l:=by
 induction l with
 | nil=>rfl
 | cons x l ih=>
  have h:=ih hl.tail
  unfold u8s at h ⊢
  rw [List.map_cons,Lib.indexByte,u8_beq hl.head hc,h]
  unfold ixBV
  rw [idxB]
  by_cases hx:x=c
  ·simp [hx]
  ·simp only [hx,decide_false,Bool.false_eq_true,if_false]
   cases idxB c l with
   | none=>rfl
   | some n=>
    have:((n:Int) == -1)=false:=by rw [beq_eq_false_iff_ne];omega
    simp [this]
theorem ixP_eq {l:List Nat} (hl:By l) {a b:Nat} (ha:a<256) (hb:b<256):Lib.index (u8s l) [UInt8.ofNat a,UInt8.ofNat b]=ixPV a b l:=by
 induction l with
 | nil=>rfl
 | cons x l ih=>
  have h:=ih hl.tail
  have hp:List.isPrefixOf [UInt8.ofNat a,UInt8.ofNat b] (UInt8.ofNat x :: u8s l)=decide (x=a∧l.head? = some b):=by
   rw [List.isPrefixOf,u8_beq ha hl.head]
   cases l with
   | nil=>simp [u8s]
   | cons y l=>
    show(decide (a=x) && List.isPrefixOf [UInt8.ofNat b] (UInt8.ofNat y :: u8s l))=_
    rw [List.isPrefixOf,u8_beq hb hl.tail.head]
    rw [Bool.eq_iff_iff]
    simp
    omega
  unfold u8s at h hp ⊢
  rw [List.map_cons,Lib.index,hp,h]
  unfold ixPV
  rw [idxP]
  by_cases hx:x=a∧l.head? = some b
  ·simp [hx]
  ·simp only [hx,decide_false,Bool.false_eq_true,if_false]
   cases idxP a b l with
   | none=>rfl
   | some n=>
    have:((n:Int) == -1)=false:=by rw [beq_eq_false_iff_ne];omega
    simp [this]
theorem idxB_lt {c n:Nat} {l:List Nat} (h:idxB c l=some n):n<l.length:=by
 induction l generalizing n with
 | nil=>cases h
 | cons x l ih=>
  rw [idxB] at h
  split at h
  ·have:=Option.some.inj h;simp;omega
  ·cases hx:idxB c l with
   | none=>rw [hx] at h;cases h
   | some m=>rw [hx] at h;simp only [Option.map_some,Option.some.injEq] at h;have:=ih hx;simp;omega
theorem idxP_lt {a b n:Nat} {l:List Nat} (h:idxP a b l=some n):n+2≤l.length:=by
 induction l generalizing n with
 | nil=>cases h
 | cons x l ih=>
  rw [idxP] at h
  split at h
  ·rename_i hx
   have:=Option.some.inj h
   cases l with
   | nil=>cases hx.2
   | cons y l=>simp;omega
  ·cases hx:idxP a b l with
   | none=>rw [hx] at h;cases h
   | some m=>rw [hx] at h;simp only [Option.map_some,Option.some.injEq] at h;have:=ih hx;simp;omega
theorem ixBV_bd (c:Nat) (l:List Nat):-1≤ixBV c l∧ixBV c l<l.length:=by
 unfold ixBV
 cases h:idxB c l with
 | none=>simp only;omega
 | some n=>have:=idxB_lt h;simp only;omega
theorem ixPV_bd (a b:Nat) (l:List Nat):-1≤ixPV a b l∧ixPV a b l+2≤l.length+1∧(0≤ixPV a b l→ixPV a b l+2≤l.length):=by
 unfold ixPV
 cases h:idxP a b l with
 | none=>simp only;omega
 | some n=>have:=idxP_lt h;simp only;omega
theorem indexByte_h (l:List Nat) (hl:By l) (c:Nat) (hc:c<256):Hid (∀w,Calls Tryz.prog 50 #[.string (mks l),.int .u8 (c:Int)] w fun e w'=>e=.returned (.int .i64 (ixBV c l))∧w=w'):=fun w=>
 (Tryz.strings_IndexByte (mks l) (c:Int) w).mono fun _ _ ⟨h1,h2⟩=>by
  rw [data_mks] at h1
  exact⟨h1.trans (ret_i (ixB_eq hl hc)),h2.symm⟩
theorem index2_h (l:List Nat) (hl:By l) (a b:UInt8) (hn:l.length<4294967281):Hid (∀w,LibOK w→Calls Tryz.prog 85 #[.string (mks l),.string ⟨#[a,b]⟩] w fun e w'=>e=.returned (.int .i64 (ixPV a.toNat b.toNat l))∧w=w'):=fun w hw=>by
 obtain⟨m,hm⟩:=hw.max
 refine(Tryz.strings_Index (mks l) ⟨#[a,b]⟩ m w (by rw [size_mks];exact hn) hm).mono ?_
 rintro e w' ⟨rfl,rfl⟩
 refine⟨ret_i ?_,rfl⟩
 rw [data_mks,←ixP_eq hl a.toNat_lt b.toNat_lt]
 simp
theorem mks_lit2 (a b:UInt8):(ByteArray.mk #[a,b]:ByteArray)=mks [a.toNat,b.toNat]:=by simp [mks]
theorem prefix2_h (s:List Nat) (a b:UInt8) (hs:By s):Hid (∀w,Calls Tryz.prog 14 #[.string (mks s),.string ⟨#[a,b]⟩] w fun e w'=>e=.returned (.bool (hasP [a.toNat,b.toNat] s))∧w=w'):=by
 intro w
 rw [mks_lit2]
 exact prefix_any s [a.toNat,b.toNat] hs (By.cons a.toNat_lt (By.cons b.toNat_lt By.nil)) w
theorem commV_line {s:List Nat} (h:hasP [47,47] s=true):commV s=if 0≤ixBV 10 s then ixBV 10 s else (s.length:Int):=by
 unfold commV ixBV
 rw [if_pos h]
 cases idxB 10 s with
 | none=>rfl
 | some n=>simp
theorem commV_star {s:List Nat} (h:hasP [47,47] s=false) (h2:hasP [47,42] s=true):commV s=if ixPV 42 47 (s.drop 2)<0 then -1 else ixPV 42 47 (s.drop 2)+4:=by
 unfold commV ixPV
 rw [if_neg (by simp [h]),if_pos h2]
 cases idxP 42 47 (s.drop 2) with
 | none=>rfl
 | some n=>simp only;rw [if_neg (by omega)];push_cast;rfl
theorem commV_none {s:List Nat} (h:hasP [47,47] s=false) (h2:hasP [47,42] s=false):commV s=0:=by
 unfold commV
 rw [if_neg (by simp [h]),if_neg (by simp [h2])]
theorem hasP_len {p s:List Nat} (h:hasP p s=true):p.length≤s.length:=by
 unfold hasP at h
 have:=congrArg List.length (of_decide_eq_true h)
 rw [List.length_take] at this
 omega
set_option maxRecDepth 8000 in
set_option maxHeartbeats 2000000 in
theorem comment_any (s:List Nat) (hs:By s) (hl:s.length<4294967281) (w:World) (hw:LibOK w):Calls Tryz.prog 51 #[.string (mks s)] w fun e w'=>e=.returned (.int .i64 (commV s))∧w=w':=by
 have D1:=prefix2_h s 47 47 hs
 have D2:=prefix2_h s 47 42 hs
 have D3:Hid (∀w,Calls Tryz.prog 50 #[.string (mks s),.int .u8 10] w fun e w'=>e=.returned (.int .i64 (ixBV 10 s))∧w=w'):=indexByte_h s hs 10 (by omega)
 have D4:=index2_h (s.drop 2) (hs.drop 2) 42 47 (by rw [List.length_drop];omega)
 have hb1:=ixBV_bd 10 s
 have hb2:=ixPV_bd 42 47 (s.drop 2)
 rw [List.length_drop] at hb2
 simp only [UInt8.toNat_ofNat,Nat.reduceMod,Nat.reducePow] at D1 D2 D4
 have HW:=Lib.hid hw
 clear hw
 cases h:hasP [47,47] s with
 | true=>
  rw [commV_line h]
  rw [h] at D1
  clear h hs
  generalize ixBV 10 s=n at *
  go_enter Tryz.func51,Tryz.ntmps51
  go_wp2_with (first | (go_at_call 14;((with_reducible refine(D1.out _).mono ?_));rintro e wn ⟨rfl,rfl⟩) | (go_at_call 50;((with_reducible refine(D3.out _).mono ?_));rintro e wn ⟨rfl,rfl⟩))
  ·go_ret
   exact⟨ret_i (by first | rfl | rw [if_pos (by omega)] | rw [if_neg (by omega)]),rfl⟩
  ·go_ret
   exact⟨ret_i (by first | rfl | rw [if_pos (by omega)] | rw [if_neg (by omega)]),rfl⟩
 | false=>
  cases h':hasP [47,42] s with
  | true=>
   have hl2:=hasP_len h'
   simp only [List.length_cons,List.length_nil] at hl2
   have hl2':(2:Int)≤s.length:=by omega
   rw [commV_star h h']
   rw [h] at D1
   rw [h'] at D2
   clear h h' hs
   generalize ixPV 42 47 (s.drop 2)=n at *
   go_enter Tryz.func51,Tryz.ntmps51
   go_wp2_with (first | (go_at_call 14;((with_reducible refine(D1.out _).mono ?_));rintro e wn ⟨rfl,rfl⟩) | (go_at_call 14;((with_reducible refine(D2.out _).mono ?_));rintro e wn ⟨rfl,rfl⟩) | (go_at_call 85;((with_reducible refine(D4.out _ HW.out).mono ?_));rintro e wn ⟨rfl,rfl⟩))
   ·go_ret
    exact⟨ret_i (by first | rfl | rw [if_pos (by omega)] | rw [if_neg (by omega)]),rfl⟩
   ·go_ret
    exact⟨ret_i (by first | rfl | rw [if_pos (by omega)] | rw [if_neg (by omega)]),rfl⟩
  | false=>
   rw [commV_none h h']
   rw [h] at D1
   rw [h'] at D2
   clear h h' hs
   go_enter Tryz.func51,Tryz.ntmps51
   go_wp2_with (first | (go_at_call 14;((with_reducible refine(D1.out _).mono ?_));rintro e wn ⟨rfl,rfl⟩) | (go_at_call 14;((with_reducible refine(D2.out _).mono ?_));rintro e wn ⟨rfl,rfl⟩))
   go_ret
   exact⟨rfl,rfl⟩
end Go.Proofs.YtgbkbgiogdhnaaaGreatDoor
namespace Go.Proofs.YtgbkbgiogdhnaaaGreatDoor
open Go.RowKit
theorem hexN_bd (l:List Nat) (n:Nat):hexN l n = -1∨(0≤hexN l n∧hexN l n<((n+1)*16 ^ l.length:Nat)):=by
 induction l generalizing n with
 | nil=>right;simp [hexN];omega
 | cons c l ih=>
  unfold hexN
  cases hd:hexD c with
  | none=>exact .inl rfl
  | some d=>
   have hd16:d<16:=by
    unfold hexD at hd
    (repeat' split at hd) <;> first | (have:=Option.some.inj hd;omega) | cases hd
   rcases ih (16*n+d) with h | ⟨h1,h2⟩
   ·exact .inl h
   ·refine .inr ⟨h1,?_⟩
    have:(16*n+d+1)*16 ^ l.length≤(n+1)*16 ^ (l.length+1):=by
     rw [Nat.pow_succ,Nat.mul_comm (16 ^ l.length) 16,←Nat.mul_assoc]
     exact Nat.mul_le_mul_right _ (by omega)
    rw [List.length_cons]
    simp only
    omega
theorem unitV_bd (s:List Nat):-1≤unitV s∧unitV s<65536:=by
 unfold unitV
 split
 ·have h:=hexN_bd ((s.take 6).drop 2) 0
  have hl:((s.take 6).drop 2).length=4:=by simp;omega
  rw [hl] at h
  omega
 ·omega
theorem unitV_len (s:List Nat) (h:0≤unitV s):6≤s.length:=by
 unfold unitV at h
 split at h
 ·rename_i h1;exact h1.1
 ·omega
theorem meanV_lt (c:Nat):meanV c<256:=by unfold meanV;(repeat' split) <;> omega
theorem meanL_get (c:Nat) (hc:c<256):meanL[c]? = some (meanV c):=by simp [meanL,hc]
theorem mean_ix (c:Nat) (hc:c<256) (w:World):(Instr.index 149 (.agg (B8 meanL).toArray) (.int .u8 (c:Int))).run Tryz.prog w=.ok (.int .u8 ((meanV c:Nat):Int)) w:=by
 have hg:(B8 meanL).toArray[c]? = some (.int .u8 ((meanV c:Nat):Int)):=by
  rw [List.getElem?_toArray];exact B8_get (meanL_get c hc)
 have ha:(isAgg 5).run Tryz.prog w=.ok false w:=by kernel_rfl
 have hs:(sizeOf 5).run Tryz.prog w=.ok 1 w:=by kernel_rfl
 have h1:(0:Int)≤(c:Int)∧(c:Int)<((256:Nat):Int):=by omega
 simp only [Instr.index,asIntOf,Sem.run_bind,Sem.run_pure,Result.andThen_ok,run_underlying Tryz.underlying149,if_pos h1,part,ha,hs]
 simp [hg]
theorem unit_h (s:List Nat) (hs:By s):Hid (∀w,Calls Tryz.prog 170 #[.string (mks s)] w fun e w'=>e=.returned (.int .i64 (unitV s))∧w=w'):=fun w=>unit_any s hs w
theorem ret_esc {a b x x' y y':Int} (h:a=b) (hx:x=x') (hy:y=y'):Ending.returned (.tuple #[.int .i32 a,.int .i64 x,.int .i64 y])=.returned (.tuple #[.int .i32 b,.int .i64 x',.int .i64 y']):=by rw [h,hx,hy]
def EscR (w:World) (x:Int×Int×Int) (e:Ending) (w':World):Prop:=e=.returned (.tuple #[.int .i32 x.1,.int .i64 x.2.1,.int .i64 x.2.2])∧Below w.heap.size w w'
theorem escV_bad1 {s:List Nat} (h:unitV s<0) (h1:¬(1<s.length∧0<meanV (s.getD 1 0))):escV s=(0,0,4):=by unfold escV;rw [if_pos h,if_neg h1]
theorem escV_mean {s:List Nat} (h:unitV s<0) (h1:1<s.length) (h2:0<meanV (s.getD 1 0)):escV s=(((meanV (s.getD 1 0):Nat):Int),2,0):=by unfold escV;rw [if_pos h,if_pos ⟨h1,h2⟩]
set_option maxRecDepth 8000 in
set_option maxHeartbeats 2000000 in
theorem esc_short (s:List Nat) (hs:By s) (w:World) (h:unitV s<0) (h1:s.length≤1):Calls Tryz.prog 126 #[.string (mks s)] w (EscR w (escV s)):=by
 rw [escV_bad1 h (by omega)]
 have D:=unit_h s hs
 have h2:decide ((1:Int)<s.length)=false:=by simp;omega
 have HSd:Below w.heap.size w w.drew:=Below.drew (Below.refl _ _)
 generalize unitV s=n at *
 clear hs
 go_enter Tryz.func126,Tryz.ntmps126
 go_upto_region 2 with(go_at_call 170;((with_reducible refine(D.out _).mono ?_));rintro e wn ⟨rfl,rfl⟩)
 go_quiet (fail)
 go_wp2
 go_ret3
 exact⟨rfl,Below.drewN' (Below.refl _ _) _⟩
theorem mean_h:Hid (∀w,Calls Tryz.prog 171 #[] w fun e w'=>e=.returned (.agg (B8 meanL).toArray)∧Below w.heap.size w w'):=fun w=>meanings_any w
set_option maxRecDepth 8000 in
set_option maxHeartbeats 2000000 in
theorem esc_mean (s:List Nat) (c:Nat) (hs:By s) (w:World) (h:unitV s<0) (h1:1<s.length) (hc:s[1]? = some c) (hm:0<meanV c):Calls Tryz.prog 126 #[.string (mks s)] w (EscR w (((meanV c:Nat):Int),2,0)):=by
 have D:=unit_h s hs
 have E:=mean_h
 have cb:=hs.get hc
 have gc:=get_mks hc cb (by rw [size_mks];exact h1)
 have hix:Hid (∀w,(Instr.index 149 (.agg (B8 meanL).toArray) (.int .u8 (c:Int))).run Tryz.prog w=.ok (.int .u8 ((meanV c:Nat):Int)) w):=fun w=>mean_ix c cb w
 have h2:(1:Int)<s.length:=by omega
 have hml:=meanV_lt c
 have HS:Below w.heap.size w w:=Below.refl _ _
 have HSd:Below w.heap.size w w.drew:=Below.drew HS
 have hz3:w.heap.size≤w.drew.heap.size:=Nat.le_refl _
 generalize unitV s=n at *
 generalize meanV c=m at *
 generalize (B8 meanL).toArray=us at *
 clear hs
 go_enter Tryz.func126,Tryz.ntmps126
 go_upto_region 2 with(go_at_call 170;((with_reducible refine(D.out _).mono ?_));rintro e wn ⟨rfl,rfl⟩)
 have hix':=hix.out
 go_region_held3 (fun w'=>Below w.heap.size w w') (assumption) (first | (go_at_call 171;((with_reducible refine(E.out _).mono ?_));(all_goals try (fail));rintro e w5 ⟨rfl,hb5⟩;have z5:=hb5.size;(try simp at z5);have hS5_0:Below w.heap.size w w5:=Below.trans (by first | assumption | exact Below.alloc (by assumption) (by first | omega | (simp;omega)) _ | exact Below.allocDrew (by assumption) (by first | omega | (simp;omega)) _) (hb5.mono (by first | omega | (simp;omega)))))
 all_goals
  go_upto_region 3 with(fail)
  have hS6:=Below.drew hS5_0
  have hz6:w.heap.size≤w5.drew.heap.size:=z5
  clear hS5_0 HSd hb5
  go_region_held3 (fun w'=>Below w.heap.size w w') (assumption) (first | (go_at_call 171;((with_reducible refine(E.out _).mono ?_));(all_goals try (fail));rintro e w7 ⟨rfl,hb7⟩;have z7:=hb7.size;(try simp at z7);have hS7_0:Below w.heap.size w w7:=Below.trans (by first | assumption | exact Below.alloc (by assumption) (by first | omega | (simp;omega)) _ | exact Below.allocDrew (by assumption) (by first | omega | (simp;omega)) _) (hb7.mono (by first | omega | (simp;omega)))))
  all_goals
   go_wp2
   go_ret3
   exact⟨ret_esc (IntWalk.i32_in _ (by omega)) rfl rfl,hS7_0⟩
set_option maxRecDepth 8000 in
set_option maxHeartbeats 2000000 in
theorem esc_none (s:List Nat) (c:Nat) (hs:By s) (w:World) (h:unitV s<0) (h1:1<s.length) (hc:s[1]? = some c) (hm:meanV c=0):Calls Tryz.prog 126 #[.string (mks s)] w (EscR w (0,0,4)):=by
 have D:=unit_h s hs
 have E:=mean_h
 have cb:=hs.get hc
 have gc:=get_mks hc cb (by rw [size_mks];exact h1)
 have hix:Hid (∀w,(Instr.index 149 (.agg (B8 meanL).toArray) (.int .u8 (c:Int))).run Tryz.prog w=.ok (.int .u8 0) w):=fun w=>by rw [mean_ix c cb w,hm];rfl
 have h2:(1:Int)<s.length:=by omega
 have HS:Below w.heap.size w w:=Below.refl _ _
 have HSd:Below w.heap.size w w.drew:=Below.drew HS
 have hz3:w.heap.size≤w.drew.heap.size:=Nat.le_refl _
 generalize unitV s=n at *
 clear hm
 generalize (B8 meanL).toArray=us at *
 clear hs
 go_enter Tryz.func126,Tryz.ntmps126
 go_upto_region 2 with(go_at_call 170;((with_reducible refine(D.out _).mono ?_));rintro e wn ⟨rfl,rfl⟩)
 have hix':=hix.out
 go_region_held3 (fun w'=>Below w.heap.size w w') (assumption) (first | (go_at_call 171;((with_reducible refine(E.out _).mono ?_));(all_goals try (fail));rintro e w5 ⟨rfl,hb5⟩;have z5:=hb5.size;(try simp at z5);have hS5_0:Below w.heap.size w w5:=Below.trans (by first | assumption | exact Below.alloc (by assumption) (by first | omega | (simp;omega)) _ | exact Below.allocDrew (by assumption) (by first | omega | (simp;omega)) _) (hb5.mono (by first | omega | (simp;omega)))))
 all_goals
  go_wp2
  go_ret3
  exact⟨rfl,hS5_0⟩
set_option maxRecDepth 8000 in
set_option maxHeartbeats 2000000 in
theorem esc_unit (s:List Nat) (hs:By s) (w:World) (h:0≤unitV s):Calls Tryz.prog 126 #[.string (mks s)] w (EscR w (escV s)):=by
 have D:=unit_h s hs
 have D2:=unit_h (s.drop 6) (hs.drop 6)
 have hbd:=unitV_bd s
 have hbd2:=unitV_bd (s.drop 6)
 have hl6:=unitV_len s h
 have hl6':(6:Int)≤s.length:=by omega
 have hx:Hid (escV s=if unitV s<55296∨57343<unitV s then (unitV s,6,0) else if 56319<unitV s∨unitV (s.drop 6)<56320∨57343<unitV (s.drop 6) then (0,0,11) else (65536+(unitV s - 55296)*1024+unitV (s.drop 6) - 56320,12,0)):=by
  show _=_;unfold escV;rw [if_neg (by omega)]
 generalize hx0:escV s=x at *
 generalize unitV s=n at *
 generalize unitV (s.drop 6)=m at *
 have hn0:¬n<0:=by omega
 have hn0':decide (n<0)=false:=by simp;omega
 clear hs hx0
 go_enter Tryz.func126,Tryz.ntmps126
 go_upto_region 2 with(go_at_call 170;((with_reducible refine(D.out _).mono ?_));rintro e wn ⟨rfl,rfl⟩)
 go_quiet (fail)
 rename_i nq
 go_wp2_with (go_at_call 170;((with_reducible refine(D2.out _).mono ?_));rintro e wn ⟨rfl,rfl⟩)
 all_goals
  go_ret3
  refine⟨?_,Below.drewN' (Below.refl _ _) _⟩
  rw [hx.out]
  first
   | (rw [if_pos (by omega)];exact ret_esc (by first | rfl | exact IntWalk.i32_in _ (by omega)) rfl rfl)
   | (rw [if_neg (by omega),if_pos (by omega)];exact ret_esc (by first | rfl | exact IntWalk.i32_in _ (by omega)) rfl rfl)
   | (rw [if_neg (by omega),if_neg (by omega)];exact ret_esc (by first | rfl | exact IntWalk.i32_in _ (by omega) | omega) rfl rfl)
theorem escape_any (s:List Nat) (hs:By s) (w:World):Calls Tryz.prog 126 #[.string (mks s)] w (EscR w (escV s)):=by
 by_cases h:0≤unitV s
 ·exact esc_unit s hs w h
 ·have hn:unitV s<0:=by omega
  by_cases h1:1<s.length
  ·obtain⟨c,hc⟩:∃c,s[1]? = some c:=⟨_,List.getElem?_eq_getElem h1⟩
   have hd:s.getD 1 0=c:=by simp [List.getD,hc]
   by_cases hm:0<meanV c
   ·rw [escV_mean hn h1 (by rw [hd];exact hm),hd]
    exact esc_mean s c hs w hn h1 hc hm
   ·rw [escV_bad1 hn (by rw [hd];omega)]
    exact esc_none s c hs w hn h1 hc (by omega)
  ·exact esc_short s hs w hn (by omega)
end Go.Proofs.YtgbkbgiogdhnaaaGreatDoor
namespace Go.Proofs.YtgbkbgiogdhnaaaGreatDoor
open Go.RowKit
abbrev BldF (B b:Nat) (bs:List Value) (w:World):Prop:=Lib.IsBuilderF 52 5 B b bs w
abbrev BldU (B b:Nat) (bs:List Value) (w:World):Prop:=Lib.BuilderAtF 52 5 B b (.pointer (some ⟨b,0,none⟩)) bs w
abbrev Others (b:Nat) (w w':World):Prop:=Lib.OthersKept 5 (some b) w w'
theorem Tryz.szBuilder:(Tryz.prog.info? 52).map (·.size)=some 2:=by kernel_rfl
theorem Tryz.liesBuilder:liesAt Tryz.prog Tryz.prog.depth 52 (2 / Tryz.prog.cellsOf 52) 0 52 1=true:=by kernel_rfl
set_option maxRecDepth 100000 in
set_option maxHeartbeats 1000000 in
theorem copyCheck_fresh (b:Nat) (w:World) (h0:w.cell? ⟨b,0,none⟩=some (.pointer none)) (hsh:w.shape? b=some (52,2)) (hfz:w.frozen? ⟨b,0,none⟩=false) :
  Calls Tryz.prog 35 #[.pointer (some ⟨b,0,none⟩)] w fun e w'=>e=.returned (.tuple #[])∧w'=w.setCell ⟨b,0,none⟩ (.pointer (some ⟨b,0,none⟩)):=by
 obtain⟨j,hj,hjs⟩:=Option.map_eq_some_iff.1 Tryz.szBuilder
 go_enter Tryz.func35,Tryz.ntmps35
 go_wp2
 rw [Lib.run_to_unsafe w ⟨b,0,none⟩ Tryz.underlying49 Tryz.underlying125 hj (by rw [hjs];decide) hsh (Nat.zero_lt_succ 1)]
 simp only [Result.andThen]
 rw [Oper.upon_value]
 go_wp2
 rw [run_callFunc_extern Tryz.func59 (by kernel_rfl) (by kernel_rfl) (by kernel_rfl) (e:=Extern.AbiNoEscape.same) (by kernel_rfl)]
 rw [Lib.run_noEscape]
 simp only [Result.andThen]
 rw [Oper.upon_value]
 go_wp2
 rw [Lib.run_from_unsafe w ⟨b,0,none⟩ Tryz.underlying125 Tryz.underlying49 hj hsh Tryz.liesBuilder]
 simp only [Result.andThen]
 rw [Oper.upon_value]
 go_wp2
 go_end0
 exact⟨rfl,rfl⟩
set_option maxRecDepth 100000 in
set_option maxHeartbeats 1000000 in
theorem copyCheck_used (b:Nat) (w:World) (h0:w.cell? ⟨b,0,none⟩=some (.pointer (some ⟨b,0,none⟩))) :
  Calls Tryz.prog 35 #[.pointer (some ⟨b,0,none⟩)] w fun e w'=>e=.returned (.tuple #[])∧w=w':=by
 obtain⟨j,hj,_⟩:=Option.map_eq_some_iff.1 Tryz.szBuilder
 go_enter Tryz.func35,Tryz.ntmps35
 go_wp2
 rw [Lib.run_neq_ptr_same w _ Tryz.underlying49 hj]
 go_wp2
 go_end0
 exact⟨rfl,rfl⟩
theorem copyCheck_any (B b:Nat) (bs:List Value) (w:World) (h:BldF B b bs w) :
  Calls Tryz.prog 35 #[.pointer (some ⟨b,0,none⟩)] w fun e w'=>e=.returned (.tuple #[])∧BldU B b bs w'∧Below B w w'∧Others b w w':=by
 rcases h with h | h
 ·refine(copyCheck_fresh b w h.cell0 h.shape h.frozen0).mono ?_
  rintro e w' ⟨rfl,rfl⟩
  exact⟨rfl,h.used _,(Below.refl B w).setCell (p:=⟨b,0,none⟩) h.1 _,(Lib.OthersKept.refl _ _ w).setCell ⟨b,0,none⟩ rfl _⟩
 ·refine(copyCheck_used b w h.cell0).mono ?_
  rintro e w' ⟨rfl,rfl⟩
  exact⟨rfl,h,Below.refl B _,Lib.OthersKept.refl _ _ _⟩
set_option maxHeartbeats 2000000 in
set_option maxRecDepth 20000 in
theorem writeRune_any (B b:Nat) (bs:List Value) (r:Int) (hr0:-2147483648≤r) (hr1:r≤2147483647) (w:World) (h:BldF B b bs w) (hlen:bs.length+4≤140737488355328) (hBw:B≤w.heap.size) :
  Calls Tryz.prog 127 #[.pointer (some ⟨b,0,none⟩),.int .i32 r] w fun e w'=>e=.returned (.tuple #[.int .i64 (Lib.runeCells r).length,.nilIface])∧BldU B b (bs ++ Lib.runeCells r) w'∧Below B w w'∧Others b w w':=by
 have hk4:=Lib.runeCells_le r
 go_enter Tryz.func127,Tryz.ntmps127
 go_wp2_with (go_at_call 35;refine(copyCheck_any B b bs _ h).mono ?_)
 rintro e w1 ⟨rfl,h1,hb1,hk1⟩
 obtain⟨hB,v,hbk,hown,hne⟩:=h1
 obtain⟨ao,cap,rfl⟩:∃ao cap,v=.slice ao bs.length cap:=by
  rcases hown.2 with⟨hv,h0⟩ | ⟨g,cap,cur,fz,hv,_⟩
  ·exact⟨none,0,by rw [hv,h0]⟩
  ·exact⟨_,_,hv⟩
 have c0:w1.cell? ⟨b,0,none⟩=some (.pointer (some ⟨b,0,none⟩)):=by rw [Lib.cell_of_heap hbk];rfl
 have c1:w1.cell? ⟨b,1,none⟩=some (.slice ao bs.length cap):=by rw [Lib.cell_of_heap hbk];rfl
 go_wp2_with (go_at_call 172;refine(Tryz.utf8_AppendRune_row B _ bs.length bs r hr0 hr1 _ hown hlen (by have:=hb1.size;omega)).mono ?_)
 rintro e w2 ⟨v',rfl,hown',o,hgrow⟩
 have hlt:b<w1.heap.size:=(Array.getElem?_eq_some_iff.1 hbk).1
 have hb2:w2.heap[b]? = some (.cells #[.pointer (some ⟨b,0,none⟩),.slice ao bs.length cap] 52 (0,0)):=by
  rw [hgrow.block b (by simp;omega) (fun e=>hne e.symm),Lib.alloc_old w1 _ b hlt]
  exact hbk
 have d0:w2.cell? ⟨b,0,none⟩=some (.pointer (some ⟨b,0,none⟩)):=by rw [Lib.cell_of_heap hb2];rfl
 have d1:w2.cell? ⟨b,1,none⟩=some (.slice ao bs.length cap):=by rw [Lib.cell_of_heap hb2];rfl
 have f1:w2.frozen? ⟨b,1,none⟩=false:=Lib.frozen_of_heap hb2 1
 obtain⟨g,cap',rfl⟩:∃g cap',v'=.slice (some ⟨g,0,none⟩) (bs.length+(Lib.runeCells r).length) cap':=by
  rcases hown'.2 with⟨_,h0⟩ | ⟨g,cap',cur,fz,hv,_⟩
  ·omega
  ·exact⟨g,cap',hv⟩
 go_wp2
 go_ret2
 refine⟨?_,?_,?_,((hk1.alloc _).grown hgrow (Lib.ownsRowF_kind (hown.alloc _))).setCell ⟨b,1,none⟩ rfl _⟩
 ·have e:((bs.length:Int)+((Lib.runeCells r).length:Int) - (bs.length:Int))=((Lib.runeCells r).length:Int):=by omega
  simp [e]
 ·exact Lib.BuilderAtF.put hB hb2 (bs':=bs ++ Lib.runeCells r) (by simpa using hown') (by decide)
 ·exact((hb1.alloc (by have:=hb1.size;omega) _).grown hgrow (by have:=hb1.size;simp;omega) (fun k hk=>(hown.lt k hk).1)).setCell (p:=⟨b,1,none⟩) hB _
end Go.Proofs.YtgbkbgiogdhnaaaGreatDoor
