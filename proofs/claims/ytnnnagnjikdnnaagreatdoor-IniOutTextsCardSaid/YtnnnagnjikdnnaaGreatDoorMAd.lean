/- The walks of text, result and Parse of decimal. -/
import Derived.Test.YtnnnagnjikdnnaaGreatDoorShelf
import Derived.Test.YtnnnagnjikdnnaaGreatDoorMAc
import Derived.Lib.ItoaLen
import Derived.Lib.AppendIntMem
import Derived.Lib.OthersKept
import Derived.Lib.Builder
import Derived.Laws.Externs
import Derived.Lib.RuneCountTail
import Derived.Deep.MidRow
import Derived.Recover
set_option linter.unusedVariables false
set_option linter.unusedSimpArgs false
set_option linter.defProp false
set_option linter.constructorNameAsVariable false
namespace Go.Proofs.YtnnnagnjikdnnaaGreatDoor
open Go.RowKit
def Pow10 (w:World):Prop:=Lib.TabIs Tryz.prog w "internal/strconv.uint64pow10" .u64 Lib.pow10Tab
theorem Pow10.keep {w w':World} (h:Pow10 w) (hb:Below w.heap.size w w'):Pow10 w':=Lib.tabBelow_of_tabIs h w' hb
theorem itoa_any (n:Int) (h0:-9223372036854775808≤n) (h1:n≤9223372036854775807) (w:World) (ht:Pow10 w) :
  Calls Tryz.prog 201 #[.int .i64 n] w fun e w'=>e=.returned (.string (mks (itoaL n)))∧Below w.heap.size w w':=by
 refine(Tryz.strconv_Itoa n h0 h1 w ht).mono ?_
 rintro e w' ⟨rfl,k,os,rfl⟩
 exact⟨by rw [mks_u8];rfl,Lib.below_grow _ w (Nat.le_refl _) k os⟩
theorem itoaL_len (n:Int) (h0:-9223372036854775808≤n) (h1:n≤9223372036854775807):(itoaL n).length≤21:=by
 unfold itoaL;rw [List.length_map];exact Lib.itoa_length_le n h0 h1
theorem coefL_len (neg:Bool) (d:List Nat):(coefL neg d).length≤d.length+1:=by
 unfold coefL signL
 split
 ·simp
 ·split <;> simp [asc] <;> omega
set_option maxRecDepth 8000 in
set_option maxHeartbeats 2000000 in
theorem dtext_any (neg:Bool) (d:List Nat) (ex:Int) (A:Option Addr) (n c:Nat) (w:World) (hn:Hid (n=d.length)) (hr:Rd w A (B8 d)) (ht:Ten d) (hm:n≤4294967296)
  (h0:-9223372036854775808≤ex) (h1:ex≤9223372036854775807) (hp:Pow10 w) :
  Calls Tryz.prog 172 #[.agg #[.bool neg,.slice A n c,.int .i64 ex]] w fun e w'=>e=.returned (.string (mks (textV (neg,d,ex))))∧Below w.heap.size w w':=by
 have hT:textV (neg,d,ex)=coefL neg d ++ [101] ++ itoaL ex:=rfl
 rw [hT]
 have hl1:=coefL_len neg d
 have hl2:=itoaL_len ex h0 h1
 generalize hcl:coefL neg d=cl at *
 generalize hil:itoaL ex=il at *
 have HCL:=Lib.hid hcl
 have HIL:=Lib.hid hil
 clear hcl hil hT
 have HX:=Lib.hid (Arr.new w 194 [.bool neg,.slice A n c,.int .i64 ex])
 have HBd:Below w.heap.size w (w.alloc (.cells #[.bool neg,.slice A n c,.int .i64 ex] 194)):=(Below.refl _ _).alloc (Nat.le_refl _) _
 have hrW:=hr.keep HBd
 have hpW:=hp.keep HBd
 go_enter Tryz.func172,Tryz.ntmps172
 go_upto_region 1 with(fail)
 have hlow:w.heap.size<(w.alloc (.cells #[.bool neg,.slice A n c,.int .i64 ex] 194)).heap.size:=HX.out.lt
 generalize (w.alloc (.cells #[.bool neg,.slice A n c,.int .i64 ex] 194))=W at *
 obtain⟨zz,hzz⟩:∃zz,Hid (W.heap.size=zz):=⟨_,rfl⟩
 have hz1:w.heap.size<zz:=by have:=hzz.out;omega
 have hz2:zz≤W.heap.size:=by have:=hzz.out;omega
 have RX:∀w',Below zz W w'→Rd w' A (B8 d):=fun w' h=>hrW.keep (by rw [hzz.out];exact h)
 have RP:∀w',Below zz W w'→Pow10 w':=fun w' h=>hpW.keep (by rw [hzz.out];exact h)
 have q0:∀w',Below zz W w'→w'.cell? ⟨w.heap.size,0,none⟩=some (.bool neg):=fun w' h=>(Arr.below (w:=W) HX.out h (by omega)).cell' (i:=0) rfl;have qf0:∀w',Below zz W w'→w'.frozen? ⟨w.heap.size,0,none⟩=false:=fun w' h=>(Arr.below (w:=W) HX.out h (by omega)).frozen 0;have q1:∀w',Below zz W w'→w'.cell? ⟨w.heap.size,1,none⟩=some (.slice A n c):=fun w' h=>(Arr.below (w:=W) HX.out h (by omega)).cell' (i:=1) rfl;have qf1:∀w',Below zz W w'→w'.frozen? ⟨w.heap.size,1,none⟩=false:=fun w' h=>(Arr.below (w:=W) HX.out h (by omega)).frozen 1;have q2:∀w',Below zz W w'→w'.cell? ⟨w.heap.size,2,none⟩=some (.int .i64 ex):=fun w' h=>(Arr.below (w:=W) HX.out h (by omega)).cell' (i:=2) rfl;have qf2:∀w',Below zz W w'→w'.frozen? ⟨w.heap.size,2,none⟩=false:=fun w' h=>(Arr.below (w:=W) HX.out h (by omega)).frozen 2
 have E1:Hid (∀w,Below zz W w→Calls Tryz.prog 200 #[.agg #[.bool neg,.slice A n c,.int .i64 ex]] w fun e w'=>e=.returned (.string (mks cl))∧Below w.heap.size w w'):=fun w h=>by rw [←HCL.out];exact coef_any neg d ex A n c w hn (RX w h) ht hm
 have E2:Hid (∀w,Below zz W w→Calls Tryz.prog 201 #[.int .i64 ex] w fun e w'=>e=.returned (.string (mks il))∧Below w.heap.size w w'):=fun w h=>by rw [←HIL.out];exact itoa_any ex h0 h1 w (RP w h)
 have HS:Below zz W W:=Below.refl _ _
 have HSd:Below zz W W.drew:=Below.drew HS
 have hz3:zz≤W.drew.heap.size:=hz2
 have hdn:d.length≤4294967296:=by have:=hn.out;omega
 have e101:(ByteArray.mk #[101]:ByteArray)=mks [101]:=mks_lit1 101
 have hl3:¬9223372036854775807<cl.length+1:=by omega
 have hl4:¬9223372036854775807<cl.length+1+il.length:=by omega
 have hl5:(([101]:List Nat)).length=1:=rfl
 clear RX RP hr hrW hp hpW
 go_region_held3 (fun w'=>Below zz W w') (assumption) (first | (go_at_call 200;((with_reducible refine(E1.out _ (by assumption)).mono ?_));(all_goals try (fail));rintro e w5 ⟨rfl,hb5⟩;have z5:=hb5.size;(try simp at z5);have hS5_0:Below zz W w5:=Below.trans (by first | assumption | exact Below.alloc (by assumption) (by first | omega | (simp;omega)) _ | exact Below.allocDrew (by assumption) (by first | omega | (simp;omega)) _) (hb5.mono (by first | omega | (simp;omega)))) | (go_at_call 201;((with_reducible refine(E2.out _ (by assumption)).mono ?_));(all_goals try (fail));rintro e w6 ⟨rfl,hb6⟩;have z6:=hb6.size;(try simp at z6);have hS6_0:Below zz W w6:=Below.trans (by first | assumption | exact Below.alloc (by assumption) (by first | omega | (simp;omega)) _ | exact Below.allocDrew (by assumption) (by first | omega | (simp;omega)) _) (hb6.mono (by first | omega | (simp;omega)))))
 all_goals
  go_wp2
  go_ret
  refine⟨by simp,HBd.trans ?_⟩
  have hdw:W.drew.heap.size=W.heap.size:=rfl
  have hW:Below w.heap.size W W.drew:=Below.drew (Below.refl _ _)
  first
   | exact(hW.trans (hb5.mono (by omega))).trans (hb6.mono (by omega))
   | exact(hW.trans (hb6.mono (by omega))).trans (hb5.mono (by omega))
end Go.Proofs.YtnnnagnjikdnnaaGreatDoor
namespace Go.Proofs.YtnnnagnjikdnnaaGreatDoor
open Go.RowKit
theorem lead_sub (l:List Nat):∀x∈lead 0 l,x∈l:=by
 induction l with
 | nil=>intro x h;exact h
 | cons c l ih=>
  intro x h
  by_cases hc:c=0
  ·subst hc;rw [lead_eq] at h;exact List.mem_cons_of_mem _ (ih x h)
  ·rw [lead_ne hc] at h;exact h
theorem ten_decD {l:List Nat} (h:AllD l):Ten (dec l):=by
 intro x hx
 obtain⟨c,hc,rfl⟩:=List.mem_map.1 hx
 have:=h c hc
 omega
def NumB (m:Nat) (x:Bool×List Nat×Int):Prop:=Ten x.2.1∧x.2.1.length≤m∧-1099511627776 - m≤x.2.2∧x.2.2≤1099511627776+m
theorem normV_ok {neg:Bool} {d:List Nat} {ex:Int} (h:Ten d) (m:Nat) (h1:-1099511627776 - m≤ex) (h2:ex+d.length≤1099511627776+m) (h3:d.length≤m):NumB m (normV neg d ex):=by
 have hl:=lead_le 0 d
 unfold normV NumB
 split
 ·exact⟨Ten.nil,by simp,by simp only;omega,by simp only;omega⟩
 ·refine⟨fun x hx=>h x (lead_sub d x (List.mem_of_mem_take hx)),?_,?_,?_⟩
  ·simp only [List.length_take];omega
  ·simp only;omega
  ·simp only;omega
theorem NumB.mono {m n:Nat} {x:Bool×List Nat×Int} (h:NumB m x) (hm:m≤n):NumB n x:=⟨h.1,by have:=h.2.1;omega,by have:=h.2.2.1;omega,by have:=h.2.2.2;omega⟩
end Go.Proofs.YtnnnagnjikdnnaaGreatDoor
namespace Go.Proofs.YtnnnagnjikdnnaaGreatDoor
open Go.RowKit
theorem data_mks (l:List Nat):(mks l).data.toList=u8s l:=by simp [mks,u8s]
structure LibOK (w:World):Prop where
 pow:Pow10 w
 max:∃m,w.cell? ⟨2,0,none⟩=some (.int .i64 m)
 tabs:Lib.Utf8Tabs 0 1 w
theorem LibOK.keep {w w':World} (h:LibOK w) (hb:Below w.heap.size w w'):LibOK w':=by
 obtain⟨m,hm⟩:=h.max
 exact⟨h.pow.keep hb,⟨m,(hb.cell (block_lt_of_cell hm)).trans hm⟩,Utf8Tabs_below h.tabs hb⟩
def ixBV (c:Nat) (l:List Nat):Int:=match idxB c l with | some n=>(n:Int) | none=>-1
theorem u8_beq {a b:Nat} (ha:a<256) (hb:b<256):(UInt8.ofNat a == UInt8.ofNat b)=decide (a=b):=by
 by_cases h:a=b
 ·subst h;simp
 ·rw [decide_eq_false h,beq_eq_false_iff_ne]
  exact fun e=>h (ofNat_inj ha hb e)
theorem ixB_eq {l:List Nat} (hl:By l) {c:Nat} (hc:c<256):Lib.indexByte (u8s l) (UInt8.ofNat c)=ixBV c l:=by
 induction l with
 | nil=>rfl
 | cons x l ih=>
  have h:=ih hl.tail
  unfold u8s at h ⊢
  rw [List.map_cons,Lib.indexByte,u8_beq hl.head hc,h]
  unfold ixBV
  rw [idxB]
  by_cases hx:x=c
  ·simp [hx]
  ·simp only [hx,decide_false,Bool.false_eq_true,if_false]
   cases idxB c l with
   | none=>rfl
   | some n=>
    have:((n:Int) == -1)=false:=by rw [beq_eq_false_iff_ne];omega
    simp [this]
end Go.Proofs.YtnnnagnjikdnnaaGreatDoor
namespace Go.Proofs.YtnnnagnjikdnnaaGreatDoor
open Go.RowKit
end Go.Proofs.YtnnnagnjikdnnaaGreatDoor
namespace Go.Proofs.YtnnnagnjikdnnaaGreatDoor
open Go.RowKit
abbrev BldF (B b:Nat) (bs:List Value) (w:World):Prop:=Lib.IsBuilderF 49 5 B b bs w
abbrev BldU (B b:Nat) (bs:List Value) (w:World):Prop:=Lib.BuilderAtF 49 5 B b (.pointer (some ⟨b,0,none⟩)) bs w
abbrev Others (b:Nat) (w w':World):Prop:=Lib.OthersKept 5 (some b) w w'
theorem Tryz.szBuilder:(Tryz.prog.info? 49).map (·.size)=some 2:=by kernel_rfl
theorem Tryz.liesBuilder:liesAt Tryz.prog Tryz.prog.depth 49 (2 / Tryz.prog.cellsOf 49) 0 49 1=true:=by kernel_rfl
set_option maxRecDepth 100000 in
set_option maxHeartbeats 1000000 in
theorem copyCheck_fresh (b:Nat) (w:World) (h0:w.cell? ⟨b,0,none⟩=some (.pointer none)) (hsh:w.shape? b=some (49,2)) (hfz:w.frozen? ⟨b,0,none⟩=false) :
  Calls Tryz.prog 38 #[.pointer (some ⟨b,0,none⟩)] w fun e w'=>e=.returned (.tuple #[])∧w'=w.setCell ⟨b,0,none⟩ (.pointer (some ⟨b,0,none⟩)):=by
 obtain⟨j,hj,hjs⟩:=Option.map_eq_some_iff.1 Tryz.szBuilder
 go_enter Tryz.func38,Tryz.ntmps38
 go_wp2
 rw [Lib.run_to_unsafe w ⟨b,0,none⟩ Tryz.underlying46 Tryz.underlying123 hj (by rw [hjs];decide) hsh (Nat.zero_lt_succ 1)]
 simp only [Result.andThen]
 rw [Oper.upon_value]
 go_wp2
 rw [run_callFunc_extern Tryz.func72 (by kernel_rfl) (by kernel_rfl) (by kernel_rfl) (e:=Extern.AbiNoEscape.same) (by kernel_rfl)]
 rw [Lib.run_noEscape]
 simp only [Result.andThen]
 rw [Oper.upon_value]
 go_wp2
 rw [Lib.run_from_unsafe w ⟨b,0,none⟩ Tryz.underlying123 Tryz.underlying46 hj hsh Tryz.liesBuilder]
 simp only [Result.andThen]
 rw [Oper.upon_value]
 go_wp2
 go_end0
 exact⟨rfl,rfl⟩
set_option maxRecDepth 100000 in
set_option maxHeartbeats 1000000 in
theorem copyCheck_used (b:Nat) (w:World) (h0:w.cell? ⟨b,0,none⟩=some (.pointer (some ⟨b,0,none⟩))) :
  Calls Tryz.prog 38 #[.pointer (some ⟨b,0,none⟩)] w fun e w'=>e=.returned (.tuple #[])∧w=w':=by
 obtain⟨j,hj,_⟩:=Option.map_eq_some_iff.1 Tryz.szBuilder
 go_enter Tryz.func38,Tryz.ntmps38
 go_wp2
 rw [Lib.run_neq_ptr_same w _ Tryz.underlying46 hj]
 go_wp2
 go_end0
 exact⟨rfl,rfl⟩
theorem copyCheck_any (B b:Nat) (bs:List Value) (w:World) (h:BldF B b bs w) :
  Calls Tryz.prog 38 #[.pointer (some ⟨b,0,none⟩)] w fun e w'=>e=.returned (.tuple #[])∧BldU B b bs w'∧Below B w w'∧Others b w w':=by
 rcases h with h | h
 ·refine(copyCheck_fresh b w h.cell0 h.shape h.frozen0).mono ?_
  rintro e w' ⟨rfl,rfl⟩
  exact⟨rfl,h.used _,(Below.refl B w).setCell (p:=⟨b,0,none⟩) h.1 _,(Lib.OthersKept.refl _ _ w).setCell ⟨b,0,none⟩ rfl _⟩
 ·refine(copyCheck_used b w h.cell0).mono ?_
  rintro e w' ⟨rfl,rfl⟩
  exact⟨rfl,h,Below.refl B _,Lib.OthersKept.refl _ _ _⟩
end Go.Proofs.YtnnnagnjikdnnaaGreatDoor
namespace Go.Proofs.YtnnnagnjikdnnaaGreatDoor
open Go.RowKit
theorem decode_drop (l:List Nat) (pos:Nat):Utf8.decode (mks l) pos=decL (l.drop pos):=by
 have h1:=Lib.tail_decode (mks l) pos 0
 rw [Nat.add_zero] at h1
 rw [←h1,size_mks,extract_mks,List.take_length]
 rfl
theorem decL_bd (l:List Nat):(decL l).1≤1114111∧1≤(decL l).2:=by
 unfold decL Lib.decodeL
 exact⟨Lib.rune_le _ _,Lib.width_pos _ _⟩
section
variable {f:Nat} {l:List Nat} {p nx:Nat} {acc:List Nat}
end
theorem bldAt_below {B b:Nat} {p:Value} {bs:List Value} {W W':World} (h:Lib.BuilderAtF 49 5 B b p bs W) (hb:Below W.heap.size W W'):Lib.BuilderAtF 49 5 B b p bs W':=by
 obtain⟨hB,v,hk,hown,hne⟩:=h
 refine⟨hB,v,(hb.block b (Array.getElem?_eq_some_iff.1 hk).1).trans hk,?_,hne⟩
 refine hown.kept (row:=none) ⟨hb.os,hb.tape,hb.output,hb.size,fun k hk _=>hb.block k hk⟩ ?_
 cases v.ownBlock with
 | none=>exact .inl rfl
 | some g=>exact .inr (by simp)
theorem bld_below {B b:Nat} {bs:List Value} {W W':World} (h:BldF B b bs W) (hb:Below W.heap.size W W'):BldF B b bs W':=h.imp (fun h=>bldAt_below h hb) (fun h=>bldAt_below h hb)
end Go.Proofs.YtnnnagnjikdnnaaGreatDoor
namespace Go.Proofs.YtnnnagnjikdnnaaGreatDoor
open Go.RowKit
theorem decodeGo_mks (l:List Nat) (h:l≠[]):Lib.decodeGo (mks l)=decL l:=by
 unfold Lib.decodeGo
 rw [if_neg (by rw [size_mks];exact fun h'=>h (List.eq_nil_of_length_eq_zero h'))]
 have:=decode_drop l 0
 simpa using this
theorem decRune_h (l:List Nat) (h:l≠[]) {r k:Nat} (hd:decL l=(r,k)):Hid (∀w,LibOK w→Calls Tryz.prog 44 #[.string (mks l)] w fun e w'=>e=.returned (.tuple #[.int .i32 (r:Int),.int .i64 (k:Int)])∧Below w.heap.size w w'):=fun w hw=>by
 have:=Tryz.utf8_DecodeRuneInString (mks l) w hw.tabs
 rw [decodeGo_mks l h,hd] at this
 exact this
def ckAt (o:Option Nat):Int:=match o with | some k=>(k:Int) | none=>-1
def ckErr (o:Option Nat):Int:=match o with | some _=>11 | none=>0
def CheckR (w:World) (o:Option Nat) (e:Ending) (w':World):Prop:=e=.returned (.tuple #[.int .i64 (ckAt o),.int .i64 (ckErr o)])∧Below w.heap.size w w'
theorem check_cases {f:Nat} {l:List Nat} {p r k:Nat} {v:Option Nat} (hne:l≠[]) (hd:decL l=(r,k)) (h:checkG (f+1) p l=v) :
  (r=65533∧k=1∧v=some p)∨(r=65533∧k≠1∧checkG f (p+k) (l.drop k)=v)∨(r≠65533∧checkG f (p+k) (l.drop k)=v):=by
 rw [checkG,if_neg hne,hd] at h
 by_cases hr:r=65533
 ·by_cases hk:k=1
  ·subst hr;subst hk;simp at h;exact .inl ⟨rfl,rfl,h.symm⟩
  ·rw [if_neg (by intro e;exact hk (congrArg Prod.snd e))] at h;exact .inr (.inl ⟨hr,hk,h⟩)
 ·rw [if_neg (by intro e;exact hr (congrArg Prod.fst e))] at h;exact .inr (.inr ⟨hr,h⟩)
set_option maxRecDepth 8000 in
set_option maxHeartbeats 2000000 in
theorem check_any (l:List Nat) (hlen:l.length<4294967296) (w:World) (hw:LibOK w):Calls Tryz.prog 22 #[.string (mks l)] w (CheckR w (checkV l)):=by
 generalize hv:checkV l=v
 have HV:Hid (checkG l.length 0 (l.drop 0)=v):=hv
 have HW:=Lib.hid hw
 clear hv hw
 go_enter Tryz.func22,Tryz.ntmps22
 go_wp2
 go_loopw [] (fun wr=>∃pos fuel,wr.heap[w.heap.size]? = some (.stringIter (mks l) pos)∧Below w.heap.size w wr∧Hid (checkG fuel pos (l.drop pos)=v)∧l.length≤pos+fuel∧pos≤l.length) (fun wr=>l.length - wr.iterPos w.heap.size)
 case atStart=>
  refine⟨0,l.length,?_,(Below.refl _ w).alloc (Nat.le_refl _) _,HV,by omega,by omega⟩
  have:=World.iter_heap w (mks l) 0
  simpa using this
 case round=>
  obtain⟨pos,fuel,hit,hbw,hq,hfu,hpl⟩:=hrel
  have hsz:w.heap.size<wr.heap.size:=(Array.getElem?_eq_some_iff.1 hit).1
  by_cases hp:pos<l.length
  ·have hne:l.drop pos≠[]:=by intro h;have:=congrArg List.length h;simp at this;omega
   have hnx0:∀ty,(Instr.next (.pointer (some ⟨w.heap.size,0,none⟩)) true ty).run Tryz.prog wr=_:=fun ty=>Lib.run_next_any_at wr w.heap.size (mks l) pos ty hit (by rw [size_mks];exact hp)
   rw [decode_drop] at hnx0
   obtain⟨f,rfl⟩:∃f,fuel=f+1:=⟨fuel - 1,by omega⟩
   have hd:=decL_bd (l.drop pos)
   have hkl:(decL (l.drop pos)).2≤(l.drop pos).length:=by
    have:=Lib.decodeL_le (u8s (l.drop pos)) (by intro h;exact hne (List.map_eq_nil_iff.1 h))
    rw [show(u8s (l.drop pos)).length=(l.drop pos).length by unfold u8s;rw [List.length_map]] at this
    exact this
   rw [List.length_drop] at hkl
   obtain⟨⟨r,k⟩,hdd⟩:∃x,decL (l.drop pos)=x:=⟨_,rfl⟩
   have DD:=decRune_h (l.drop pos) hne hdd
   have hcases:=check_cases hne hdd hq.out
   rw [hdd] at hnx0 hd hkl
   rw [List.drop_drop] at hcases
   clear hq hdd hne
   simp only at hd hkl hcases hnx0
   have hit2:=Lib.iterAt_heap wr w.heap.size (mks l) pos (pos+k) hit
   have hbw2:=Lib.below_iterAt hbw (k:=w.heap.size) (by omega) (mks l) (pos+k)
   have hsz2:w.heap.size<(wr.iterAt w.heap.size (mks l) (pos+k)).heap.size:=by rw [Lib.iterAt_size];exact hsz
   have HIT2:=Lib.hid hit2
   clear hit2 hbw
   have hok:=HW.out.keep hbw2
   have hp':(pos:Int)≤l.length:=by omega
   rcases hcases with⟨rfl,rfl,hq⟩ | ⟨rfl,h1,hq⟩ | ⟨hr,hq⟩
   ·subst hq
    go_wp2_with (go_at_call 44;((with_reducible refine(DD.out _ hok).mono ?_));rintro e w5 ⟨rfl,hb5⟩)
    go_ret2
    exact⟨rfl,hbw2.trans (hb5.mono (by omega))⟩
   ·have h1':((k:Int) == 1)=false:=by simp;omega
    have HQ:=Lib.hid hq
    clear hq h1
    go_wp2_with (go_at_call 44;((with_reducible refine(DD.out _ hok).mono ?_));rintro e w5 ⟨rfl,hb5⟩)
    have hit5:=(hb5.block _ hsz2).trans HIT2.out
    go_roundw
    case rel=>exact⟨pos+k,f,hit5,hbw2.trans (hb5.mono (by omega)),HQ,by omega,by omega⟩
    case measure=>
     simp only [World.iterPos,hit5,hit]
     omega
   ·have hr':((r:Int) == 65533)=false:=by simp;omega
    have HQ:=Lib.hid hq
    clear hq hr
    go_wp2
    go_roundw
    case rel=>exact⟨pos+k,f,HIT2.out,hbw2,HQ,by omega,by omega⟩
    case measure=>
     simp only [World.iterPos,HIT2.out,hit]
     omega
  ·have hnx0:∀ty,(Instr.next (.pointer (some ⟨w.heap.size,0,none⟩)) true ty).run Tryz.prog wr=_:=fun ty=>Lib.run_next_end_at wr w.heap.size (mks l) pos ty hit (by rw [size_mks];exact hp)
   have hd:l.drop pos = []:=List.drop_eq_nil_of_le (by omega)
   have hce:checkG fuel pos []=none:=by cases fuel <;> simp [checkG]
   rw [hd,hce] at hq
   clear hd hce
   go_wp2
   go_ret2
   have h:=hq.out
   subst h
   exact⟨rfl,hbw⟩
end Go.Proofs.YtnnnagnjikdnnaaGreatDoor
namespace Go.Proofs.YtnnnagnjikdnnaaGreatDoor
open Go.RowKit
theorem three (p q r:Prop):((p∨q∨r)∧(p∨(¬p∧q)∨(¬p∧¬q∧r)))∨(¬(p∨q∨r)∧(¬p∧¬q∧¬r)):=by
 by_cases hp:p <;> by_cases hq:q <;> by_cases hr:r <;> simp [hp,hq,hr]
end Go.Proofs.YtnnnagnjikdnnaaGreatDoor
namespace Go.Proofs.YtnnnagnjikdnnaaGreatDoor
open Go.RowKit
end Go.Proofs.YtnnnagnjikdnnaaGreatDoor
namespace Go.Proofs.YtnnnagnjikdnnaaGreatDoor
open Go.RowKit
theorem cells_new (w:World) (t:TypeId) (us:List Value):∀j u,us[j]? = some u→(w.alloc (.cells us.toArray t)).cell? ((⟨w.heap.size,0,none⟩:Addr).add j)=some u:=by
 intro j u h
 obtain⟨ad,e,hc⟩:=(Arr.new w t us).rd j u h
 obtain rfl:=Option.some.inj e
 exact hc
section
variable {P:Program} {w:World} {ops:Array Oper} {rest:List Oper} {o:Oper} {a:Act} {Q:Exit→Act→World→Prop}
theorem wpList_apS (hg:o.guard=none) (s x:Operand) (t:TypeId) (ho:o.op=.call { callee:=.builtin .append,args:=#[s,x],argTypes:=#[t,t] }) (base:Nat) (e:TypeId) (z:Value) (k bytes:Nat)
  (ht:P.underlying t=some (.slice e)) (h2:(P.info? e).map (fun i=>(i.zero,i.size,i.bytes))=some (some z,k,bytes)) (hz:z.cells.size=k) (hk:0<k)
  (v:Value) (n:Nat) (xs:List Value) (hs:a.eval s=v) (hown:w.ownsRow base e k v n xs) (ad:Addr) (c:Nat) (us:List Value) (hus:us.length=k) (hx:a.eval x=.slice (some ad) 1 c)
  (hc:∀j u,us[j]? = some u→w.cell? (ad.add j)=some u) (h1:us.all (·.oneCell')=true) (hm:n+1≤maxLen) (hb:(n+1)*bytes≤140737488355328) (hbase:base≤w.heap.size)
  (hK:∀v' w',w'.ownsRow base e k v' (n+1) (xs ++ us)→w.grownBy w' v.ownBlock→(v'.ownBlock=v.ownBlock∨v'.ownBlock=some w.heap.size)→wpList P ops Q rest (a.put o.dst v') w'):wpList P ops Q (o :: rest) a w:=by
 obtain⟨i,hi,hz1,hz2,hz3⟩:=info_parts h2
 exact wpList_append_own_at w hg s x t ho base e i z k bytes ht hi hz1 hz2 hz3 hz hk v n xs hs hown ad 1 c us hx (by omega) hc (fun u hu=>(List.all_eq_true.1 h1) u hu) hm hb hbase (fun v' w' h3 h4 _ h5=>hK v' w' h3 h4 h5)
end
section
variable {P:Program} {w:World} {ops:Array Oper} {o:Oper} {a:Act} {K:Act→World→Prop} {Q:Exit→Act→World→Prop} {E:Prop}
theorem step_apS (hg:o.guard=none) (s x:Operand) (t:TypeId) (ho:o.op=.call { callee:=.builtin .append,args:=#[s,x],argTypes:=#[t,t] }) (base:Nat) (e:TypeId) (z:Value) (k bytes:Nat)
  (ht:P.underlying t=some (.slice e)) (h2:(P.info? e).map (fun i=>(i.zero,i.size,i.bytes))=some (some z,k,bytes)) (hz:z.cells.size=k) (hk:0<k)
  (v:Value) (n:Nat) (xs:List Value) (hs:a.eval s=v) (hown:w.ownsRow base e k v n xs) (ad:Addr) (c:Nat) (us:List Value) (hus:us.length=k) (hx:a.eval x=.slice (some ad) 1 c)
  (hc:∀j u,us[j]? = some u→w.cell? (ad.add j)=some u) (h1:us.all (·.oneCell')=true) (hm:n+1≤maxLen) (hb:(n+1)*bytes≤140737488355328) (hbase:base≤w.heap.size)
  (hK:∀v' w',w'.ownsRow base e k v' (n+1) (xs ++ us)→w.grownBy w' v.ownBlock→(v'.ownBlock=v.ownBlock∨v'.ownBlock=some w.heap.size)→K (a.put o.dst v') w') :
  if Region.wanted o (yielded ops a.tmps)=true then Oper.wp P o a w K Q else E:=by
 have hw:Region.wanted o (yielded ops a.tmps)=true:=by simp [Region.wanted,hg]
 rw [if_pos hw]
 obtain⟨i,hi,hz1,hz2,hz3⟩:=info_parts h2
 obtain⟨v',w',hr,h3,h4,_,h5⟩:=run_append_own_at (P:=P) w base t o.type e i z k bytes ht hi hz1 hz2 hz3 hz hk v n xs hown ad 1 c us (by omega) hc (fun u hu=>(List.all_eq_true.1 h1) u hu) hm hb hbase
 unfold Oper.wp execOp
 simp only [ho,resolve,invoke,builtin,Sem.run_bind,Sem.run_pure,Result.andThen_ok,List.map_toArray,List.map_cons,List.map_nil,hs,hx,hr]
 exact hK _ _ h3 h4 h5
end
theorem results_tmp4 {fn:Func} {t u v x:Tmp} (h:fn.results=#[.tmp t,.tmp u,.tmp v,.tmp x]) (tmps:Array Value) (P:Program) (w:World) :
  (results fn tmps).run P w=.ok (.tuple #[tmps.getD t undef,tmps.getD u undef,tmps.getD v undef,tmps.getD x undef]) w:=by simp [results,h]
theorem own_ne {w:World} {b b':Nat} {e e':TypeId} {k k':Nat} {v v':Value} {n n':Nat} {xs xs':List Value} (h:w.ownsRow b e k v n xs) (h':w.ownsRow b' e' k' v' n' xs') (hne:e≠e') :
  v.ownBlock=none∨v.ownBlock≠v'.ownBlock:=by
 rcases h.2 with⟨rfl,_⟩ | ⟨g,cap,cur,rfl,_,hg,_⟩
 ·exact .inl rfl
 ·rcases h'.2 with⟨rfl,_⟩ | ⟨g',cap',cur',rfl,_,hg',_⟩
  ·exact .inr (by simp [Value.ownBlock])
  ·refine .inr ?_
   simp only [Value.ownBlock,ne_eq,Option.some.injEq]
   rintro rfl
   rw [hg] at hg'
   injection hg' with h1
   injection h1 with _ h2
   exact hne h2
theorem own_kind {w:World} {b:Nat} {e:TypeId} {k:Nat} {v:Value} {n:Nat} {xs:List Value} (h:w.ownsRow b e k v n xs) {g:Nat} (hg:v.ownBlock=some g):∃C fz,w.heap[g]? = some (.cells C e fz):=by
 rcases h.2 with⟨rfl,_⟩ | ⟨g',cap,cur,rfl,_,hgg,_⟩
 ·simp [Value.ownBlock] at hg
 ·simp only [Value.ownBlock,Option.some.injEq] at hg
  subst hg
  exact⟨cur,_,hgg⟩
theorem cells_kind {w:World} {g:Nat} {C C':Array Value} {t t':TypeId} {fz fz':Nat×Nat} (h:w.heap[g]? = some (.cells C t fz)) (h':w.heap[g]? = some (.cells C' t' fz')):t=t':=by
 rw [h] at h'
 injection h' with e1
 injection e1
theorem own_slice {w:World} {b:Nat} {e:TypeId} {k:Nat} {v:Value} {n:Nat} {xs:List Value} (h:w.ownsRow b e k v n xs):∃A c,v=.slice A n c∧n≤c∧c≤maxLen:=by
 rcases h.2 with⟨rfl,rfl⟩ | ⟨g,cap,cur,rfl,_,_,h1,h2,_⟩
 ·exact⟨none,0,rfl,Nat.le_refl _,by decide⟩
 ·exact⟨_,cap,rfl,h1,h2⟩
theorem own_same {w w':World} {b:Nat} {e:TypeId} {k:Nat} {v:Value} {n:Nat} {xs:List Value} (h:w.ownsRow b e k v n xs) (hs:∀g,v.ownBlock=some g→w'.heap[g]? = w.heap[g]?):w'.ownsRow b e k v n xs:=by
 refine⟨h.1,?_⟩
 rcases h.2 with hn | ⟨g,cap,cur,rfl,hb,hg,rest⟩
 ·exact .inl hn
 ·exact .inr ⟨g,cap,cur,rfl,hb,by rw [hs g rfl];exact hg,rest⟩
theorem own_below {w w':World} {b:Nat} {e:TypeId} {k:Nat} {v:Value} {n:Nat} {xs:List Value} (h:w.ownsRow b e k v n xs) (hb:Below w.heap.size w w'):w'.ownsRow b e k v n xs:=by
 refine h.kept (row:=none) ⟨hb.os,hb.tape,hb.output,hb.size,fun k hk _=>hb.block k hk⟩ ?_
 cases v.ownBlock with
 | none=>exact .inl rfl
 | some g=>exact .inr (by simp)
theorem own_arr {w:World} {b:Nat} {e:TypeId} {k:Nat} {v:Value} {n:Nat} {xs:List Value} {g:Nat} {t:TypeId} {us:List Value} (h:w.ownsRow b e k v n xs) (ha:Arr w g t us) (hne:e≠t):v.ownBlock≠some g:=by
 intro hg
 rcases h.2 with⟨rfl,_⟩ | ⟨g',cap,cur,rfl,_,hgg,_⟩
 ·simp [Value.ownBlock] at hg
 ·simp only [Value.ownBlock,Option.some.injEq] at hg
  subst hg
  unfold Arr at ha
  rw [hgg] at ha
  injection ha with h1
  injection h1 with _ h2
  exact hne h2
theorem own_far {w:World} {b:Nat} {e:TypeId} {k:Nat} {v:Value} {n:Nat} {xs:List Value} (h:w.ownsRow b e k v n xs) {p:Addr} (hp:v.ownBlock≠some p.block) (u:Value):(w.setCell p u).ownsRow b e k v n xs:=by
 refine h.kept (row:=some p.block) ⟨rfl,rfl,rfl,by simp [World.setCell],fun k _ hk=>Below.heap_setCell w p u k (by rintro rfl;exact hk rfl)⟩ (.inr hp)
end Go.Proofs.YtnnnagnjikdnnaaGreatDoor
namespace Go.Proofs.YtnnnagnjikdnnaaGreatDoor
open Go.RowKit
theorem decL_le (l:List Nat) (hne:l≠[]):(decL l).2≤l.length:=by
 have:=Lib.decodeL_le (u8s l) (by intro h;exact hne (List.map_eq_nil_iff.1 h))
 rwa [show(u8s l).length=l.length by unfold u8s;rw [List.length_map]] at this
end Go.Proofs.YtnnnagnjikdnnaaGreatDoor
namespace Go.Proofs.YtnnnagnjikdnnaaGreatDoor
open Go.RowKit
section
variable {f k:Nat} {l:List Nat} {ts:List JTok} {ns:List JNote} {v:Scanned}
end
end Go.Proofs.YtnnnagnjikdnnaaGreatDoor
namespace Go.Proofs.YtnnnagnjikdnnaaGreatDoor
open Go.RowKit
structure GNode where
 kind:Int
 text:List Nat
 ord:Bool
 keys:List Int
 items:List Int
end Go.Proofs.YtnnnagnjikdnnaaGreatDoor
namespace Go.Proofs.YtnnnagnjikdnnaaGreatDoor
open Go.RowKit
structure JSpan where
 node:Int
 parent:Int
 entry:Int
 from_:Int
 to_:Int
 kf:Int
 kt:Int
 alias_:Bool
 whole:Bool
structure PSt where
 left:List JTok
 nodes:List GNode
 spans:List JSpan
def spanC (s:JSpan):List Value:=[.int .i64 s.node,.int .i64 s.parent,.int .i64 s.entry,.int .i64 s.from_,.int .i64 s.to_,.int .i64 s.kf,.int .i64 s.kt,.bool s.alias_,.bool s.whole]
def spansC (l:List JSpan):List Value:=l.flatMap spanC
theorem spansC_snoc (l:List JSpan) (x:JSpan):spansC (l ++ [x])=spansC l ++ spanC x:=by simp [spansC]
def IntsRd (w:World) (F:Nat→Prop) (A:Option Addr) (n:Nat) (xs:List Int):Prop:=
 n=xs.length∧Rd w A (I64 xs)∧∀ad,A=some ad→F ad.block∧∃C fz,w.heap[ad.block]? = some (.cells C 3 fz)
def NodeRd (w:World) (F:Nat→Prop) (cs:List Value) (nd:GNode):Prop:=
 ∃K nk ck I ni ci,cs = [.int .i64 nd.kind,.string (mks nd.text),.bool nd.ord,.slice K nk ck,.slice I ni ci]∧IntsRd w F K nk nd.keys∧IntsRd w F I ni nd.items
def NodesRd (w:World) (F:Nat→Prop) (ncs:List Value) (nodes:List GNode):Prop:=
 ncs.length=nodes.length*5∧∀i nd,nodes[i]? = some nd→NodeRd w F ((ncs.drop (i*5)).take 5) nd
structure PK where
 en:Nat
 f:Value
 s:Value
 r:Value
 n:Value
structure PStep (w w':World) (F F':Nat→Prop):Prop where
 os:w'.os=w.os
 tape:w'.tape=w.tape
 output:w'.output=w.output
 size:w.heap.size≤w'.heap.size
 keep:∀k,k<w.heap.size→¬F k→w'.heap[k]? = w.heap[k]?
 new:∀k,F' k→F k∨w.heap.size≤k
theorem PStep.trans {a b c:World} {F F1 F2:Nat→Prop} (h:PStep a b F F1) (k:PStep b c F1 F2):PStep a c F F2 where
 os:=k.os.trans h.os
 tape:=k.tape.trans h.tape
 output:=k.output.trans h.output
 size:=Nat.le_trans h.size k.size
 keep:=fun i hi hn=>(k.keep i (Nat.lt_of_lt_of_le hi h.size) (fun hf=>by
  rcases h.new i hf with h1 | h1
  ·exact hn h1
  ·omega)).trans (h.keep i hi hn)
 new:=fun i hi=>by
  rcases k.new i hi with h1 | h1
  ·exact h.new i h1
  ·exact .inr (Nat.le_trans h.size h1)
theorem PStep.of_below {w w':World} {F:Nat→Prop} (h:Below w.heap.size w w'):PStep w w' F F:=
 ⟨h.os,h.tape,h.output,h.size,fun k hk _=>h.block k hk,fun _ hk=>.inl hk⟩
theorem PStep.below {w w':World} {F F':Nat→Prop} {B:Nat} (h:PStep w w' F F') (hF:∀g,F g→B≤g) (hB:B≤w.heap.size):Below B w w':=
 ⟨h.os,h.tape,h.output,h.size,fun k hk=>h.keep k (by omega) (fun hf=>by have:=hF k hf;omega)⟩
theorem PStep.arr {w w':World} {F F':Nat→Prop} {g:Nat} {t:TypeId} {xs:List Value} (h:PStep w w' F F') (ha:Arr w g t xs) (hg:¬F g):Arr w' g t xs:=(h.keep g ha.lt hg).trans ha
theorem PStep.out {w w':World} {F F':Nat→Prop} {g:Nat} (h:PStep w w' F F') (hl:g<w.heap.size) (hg:¬F g):¬F' g:=fun hf=>by
 rcases h.new g hf with h1 | h1
 ·exact hg h1
 ·omega
def IntsKept (w w':World) (F:Nat→Prop):Prop:=∀k C fz,F k→w.heap[k]? = some (.cells C 3 fz)→w'.heap[k]? = some (.cells C 3 fz)
theorem IntsRd.keep {w w':World} {F F':Nat→Prop} {A:Option Addr} {n:Nat} {xs:List Int} (h:IntsRd w F A n xs) (hk:IntsKept w w' F) (hF:∀g,F g→F' g):IntsRd w' F' A n xs:=by
 refine⟨h.1,?_,fun ad e=>?_⟩
 ·intro j u hj
  obtain⟨ad,e,hc⟩:=h.2.1 j u hj
  obtain⟨hf,C,fz,hb⟩:=h.2.2 ad e
  refine⟨ad,e,?_⟩
  rw [←hc]
  exact World.cell?_of_block (by rw [blk_add,hk _ C fz hf hb,hb])
 ·obtain⟨hf,C,fz,hb⟩:=h.2.2 ad e
  exact⟨hF _ hf,C,fz,hk _ C fz hf hb⟩
theorem NodeRd.keep {w w':World} {F F':Nat→Prop} {cs:List Value} {nd:GNode} (h:NodeRd w F cs nd) (hk:IntsKept w w' F) (hF:∀g,F g→F' g):NodeRd w' F' cs nd:=by
 obtain⟨K,nk,ck,I,ni,ci,rfl,h1,h2⟩:=h
 exact⟨K,nk,ck,I,ni,ci,rfl,h1.keep hk hF,h2.keep hk hF⟩
theorem NodesRd.keep {w w':World} {F F':Nat→Prop} {ncs:List Value} {nodes:List GNode} (h:NodesRd w F ncs nodes) (hk:IntsKept w w' F) (hF:∀g,F g→F' g):NodesRd w' F' ncs nodes:=
 ⟨h.1,fun i nd hi=>(h.2 i nd hi).keep hk hF⟩
theorem NodesRd.snoc {w:World} {F:Nat→Prop} {ncs cs:List Value} {nodes:List GNode} {nd:GNode} (h:NodesRd w F ncs nodes) (hn:NodeRd w F cs nd):NodesRd w F (ncs ++ cs) (nodes ++ [nd]):=by
 have hl:cs.length=5:=by obtain⟨K,nk,ck,I,ni,ci,rfl,_⟩:=hn;rfl
 refine⟨by rw [List.length_append,List.length_append,h.1,hl];simp;omega,fun i x hi=>?_⟩
 by_cases hlt:i<nodes.length
 ·rw [List.getElem?_append_left hlt] at hi
  have h1:=h.2 i x hi
  rw [List.drop_append_of_le_length (by rw [h.1];omega),List.take_append_of_le_length (by rw [List.length_drop,h.1];omega)]
  exact h1
 ·have hi2:=(List.getElem?_eq_some_iff.1 hi).1
  have:i=nodes.length:=by simp at hi2;omega
  subst this
  have e:x=nd:=by simpa using hi.symm
  subst e
  rw [←h.1,List.drop_left,List.take_of_length_le (by omega)]
  exact hn
theorem IntsKept.of_below {w w':World} {F:Nat→Prop} (h:Below w.heap.size w w'):IntsKept w w' F:=fun k C fz _ hb=>by
 rw [h.block k (Array.getElem?_eq_some_iff.1 hb).1,hb]
theorem setCell_heap_ne (w:World) (p:Addr) (u:Value) {g:Nat} (h:g≠p.block):(w.setCell p u).heap[g]? = w.heap[g]?:=Below.heap_setCell w p u g h
end Go.Proofs.YtnnnagnjikdnnaaGreatDoor
