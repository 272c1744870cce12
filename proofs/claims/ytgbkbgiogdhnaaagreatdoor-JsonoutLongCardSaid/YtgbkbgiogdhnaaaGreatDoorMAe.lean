/- The walks of text, result and Parse of decimal. -/
import Derived.Test.YtgbkbgiogdhnaaaGreatDoorShelf
import Derived.Test.YtgbkbgiogdhnaaaGreatDoorMAd
import Derived.Lib.ItoaLen
import Derived.Lib.AppendIntMem
import Derived.Lib.OthersKept
import Derived.Lib.Builder
import Derived.Laws.Externs
set_option linter.unusedVariables false
set_option linter.unusedSimpArgs false
set_option linter.defProp false
set_option linter.constructorNameAsVariable false
namespace Go.Proofs.YtgbkbgiogdhnaaaGreatDoor
open Go.RowKit
def Pow10 (w:World):Prop:=Lib.TabIs Tryz.prog w "internal/strconv.uint64pow10" .u64 Lib.pow10Tab
theorem Pow10.keep {w w':World} (h:Pow10 w) (hb:Below w.heap.size w w'):Pow10 w':=Lib.tabBelow_of_tabIs h w' hb
theorem itoa_any (n:Int) (h0:-9223372036854775808≤n) (h1:n≤9223372036854775807) (w:World) (ht:Pow10 w) :
  Calls Tryz.prog 109 #[.int .i64 n] w fun e w'=>e=.returned (.string (mks (itoaL n)))∧Below w.heap.size w w':=by
 refine(Tryz.strconv_Itoa n h0 h1 w ht).mono ?_
 rintro e w' ⟨rfl,k,os,rfl⟩
 exact⟨by rw [mks_u8];rfl,Lib.below_grow _ w (Nat.le_refl _) k os⟩
theorem itoaL_len (n:Int) (h0:-9223372036854775808≤n) (h1:n≤9223372036854775807):(itoaL n).length≤21:=by
 unfold itoaL;rw [List.length_map];exact Lib.itoa_length_le n h0 h1
theorem coefL_len (neg:Bool) (d:List Nat):(coefL neg d).length≤d.length+1:=by
 unfold coefL signL
 split
 ·simp
 ·split <;> simp [asc] <;> omega
set_option maxRecDepth 8000 in
set_option maxHeartbeats 2000000 in
theorem dtext_any (neg:Bool) (d:List Nat) (ex:Int) (A:Option Addr) (n c:Nat) (w:World) (hn:Hid (n=d.length)) (hr:Rd w A (B8 d)) (ht:Ten d) (hm:n≤4294967296)
  (h0:-9223372036854775808≤ex) (h1:ex≤9223372036854775807) (hp:Pow10 w) :
  Calls Tryz.prog 147 #[.agg #[.bool neg,.slice A n c,.int .i64 ex]] w fun e w'=>e=.returned (.string (mks (textV (neg,d,ex))))∧Below w.heap.size w w':=by
 have hT:textV (neg,d,ex)=coefL neg d ++ [101] ++ itoaL ex:=rfl
 rw [hT]
 have hl1:=coefL_len neg d
 have hl2:=itoaL_len ex h0 h1
 generalize hcl:coefL neg d=cl at *
 generalize hil:itoaL ex=il at *
 have HCL:=Lib.hid hcl
 have HIL:=Lib.hid hil
 clear hcl hil hT
 have HX:=Lib.hid (Arr.new w 172 [.bool neg,.slice A n c,.int .i64 ex])
 have HBd:Below w.heap.size w (w.alloc (.cells #[.bool neg,.slice A n c,.int .i64 ex] 172)):=(Below.refl _ _).alloc (Nat.le_refl _) _
 have hrW:=hr.keep HBd
 have hpW:=hp.keep HBd
 go_enter Tryz.func147,Tryz.ntmps147
 go_upto_region 1 with(fail)
 have hlow:w.heap.size<(w.alloc (.cells #[.bool neg,.slice A n c,.int .i64 ex] 172)).heap.size:=HX.out.lt
 generalize (w.alloc (.cells #[.bool neg,.slice A n c,.int .i64 ex] 172))=W at *
 obtain⟨zz,hzz⟩:∃zz,Hid (W.heap.size=zz):=⟨_,rfl⟩
 have hz1:w.heap.size<zz:=by have:=hzz.out;omega
 have hz2:zz≤W.heap.size:=by have:=hzz.out;omega
 have RX:∀w',Below zz W w'→Rd w' A (B8 d):=fun w' h=>hrW.keep (by rw [hzz.out];exact h)
 have RP:∀w',Below zz W w'→Pow10 w':=fun w' h=>hpW.keep (by rw [hzz.out];exact h)
 have q0:∀w',Below zz W w'→w'.cell? ⟨w.heap.size,0,none⟩=some (.bool neg):=fun w' h=>(Arr.below (w:=W) HX.out h (by omega)).cell' (i:=0) rfl;have qf0:∀w',Below zz W w'→w'.frozen? ⟨w.heap.size,0,none⟩=false:=fun w' h=>(Arr.below (w:=W) HX.out h (by omega)).frozen 0;have q1:∀w',Below zz W w'→w'.cell? ⟨w.heap.size,1,none⟩=some (.slice A n c):=fun w' h=>(Arr.below (w:=W) HX.out h (by omega)).cell' (i:=1) rfl;have qf1:∀w',Below zz W w'→w'.frozen? ⟨w.heap.size,1,none⟩=false:=fun w' h=>(Arr.below (w:=W) HX.out h (by omega)).frozen 1;have q2:∀w',Below zz W w'→w'.cell? ⟨w.heap.size,2,none⟩=some (.int .i64 ex):=fun w' h=>(Arr.below (w:=W) HX.out h (by omega)).cell' (i:=2) rfl;have qf2:∀w',Below zz W w'→w'.frozen? ⟨w.heap.size,2,none⟩=false:=fun w' h=>(Arr.below (w:=W) HX.out h (by omega)).frozen 2
 have E1:Hid (∀w,Below zz W w→Calls Tryz.prog 184 #[.agg #[.bool neg,.slice A n c,.int .i64 ex]] w fun e w'=>e=.returned (.string (mks cl))∧Below w.heap.size w w'):=fun w h=>by rw [←HCL.out];exact coef_any neg d ex A n c w hn (RX w h) ht hm
 have E2:Hid (∀w,Below zz W w→Calls Tryz.prog 109 #[.int .i64 ex] w fun e w'=>e=.returned (.string (mks il))∧Below w.heap.size w w'):=fun w h=>by rw [←HIL.out];exact itoa_any ex h0 h1 w (RP w h)
 have HS:Below zz W W:=Below.refl _ _
 have HSd:Below zz W W.drew:=Below.drew HS
 have hz3:zz≤W.drew.heap.size:=hz2
 have hdn:d.length≤4294967296:=by have:=hn.out;omega
 have e101:(ByteArray.mk #[101]:ByteArray)=mks [101]:=mks_lit1 101
 have hl3:¬9223372036854775807<cl.length+1:=by omega
 have hl4:¬9223372036854775807<cl.length+1+il.length:=by omega
 have hl5:(([101]:List Nat)).length=1:=rfl
 clear RX RP hr hrW hp hpW
 go_region_held3 (fun w'=>Below zz W w') (assumption) (first | (go_at_call 184;((with_reducible refine(E1.out _ (by assumption)).mono ?_));(all_goals try (fail));rintro e w5 ⟨rfl,hb5⟩;have z5:=hb5.size;(try simp at z5);have hS5_0:Below zz W w5:=Below.trans (by first | assumption | exact Below.alloc (by assumption) (by first | omega | (simp;omega)) _ | exact Below.allocDrew (by assumption) (by first | omega | (simp;omega)) _) (hb5.mono (by first | omega | (simp;omega)))) | (go_at_call 109;((with_reducible refine(E2.out _ (by assumption)).mono ?_));(all_goals try (fail));rintro e w6 ⟨rfl,hb6⟩;have z6:=hb6.size;(try simp at z6);have hS6_0:Below zz W w6:=Below.trans (by first | assumption | exact Below.alloc (by assumption) (by first | omega | (simp;omega)) _ | exact Below.allocDrew (by assumption) (by first | omega | (simp;omega)) _) (hb6.mono (by first | omega | (simp;omega)))))
 all_goals
  go_wp2
  go_ret
  refine⟨by simp,HBd.trans ?_⟩
  have hdw:W.drew.heap.size=W.heap.size:=rfl
  have hW:Below w.heap.size W W.drew:=Below.drew (Below.refl _ _)
  first
   | exact(hW.trans (hb5.mono (by omega))).trans (hb6.mono (by omega))
   | exact(hW.trans (hb6.mono (by omega))).trans (hb5.mono (by omega))
end Go.Proofs.YtgbkbgiogdhnaaaGreatDoor
namespace Go.Proofs.YtgbkbgiogdhnaaaGreatDoor
open Go.RowKit
theorem lead_sub (l:List Nat):∀x∈lead 0 l,x∈l:=by
 induction l with
 | nil=>intro x h;exact h
 | cons c l ih=>
  intro x h
  by_cases hc:c=0
  ·subst hc;rw [lead_eq] at h;exact List.mem_cons_of_mem _ (ih x h)
  ·rw [lead_ne hc] at h;exact h
theorem ten_decD {l:List Nat} (h:AllD l):Ten (dec l):=by
 intro x hx
 obtain⟨c,hc,rfl⟩:=List.mem_map.1 hx
 have:=h c hc
 omega
def NumB (m:Nat) (x:Bool×List Nat×Int):Prop:=Ten x.2.1∧x.2.1.length≤m∧-1099511627776 - m≤x.2.2∧x.2.2≤1099511627776+m
theorem normV_ok {neg:Bool} {d:List Nat} {ex:Int} (h:Ten d) (m:Nat) (h1:-1099511627776 - m≤ex) (h2:ex+d.length≤1099511627776+m) (h3:d.length≤m):NumB m (normV neg d ex):=by
 have hl:=lead_le 0 d
 unfold normV NumB
 split
 ·exact⟨Ten.nil,by simp,by simp only;omega,by simp only;omega⟩
 ·refine⟨fun x hx=>h x (lead_sub d x (List.mem_of_mem_take hx)),?_,?_,?_⟩
  ·simp only [List.length_take];omega
  ·simp only;omega
  ·simp only;omega
theorem NumB.mono {m n:Nat} {x:Bool×List Nat×Int} (h:NumB m x) (hm:m≤n):NumB n x:=⟨h.1,by have:=h.2.1;omega,by have:=h.2.2.1;omega,by have:=h.2.2.2;omega⟩
end Go.Proofs.YtgbkbgiogdhnaaaGreatDoor
namespace Go.Proofs.YtgbkbgiogdhnaaaGreatDoor
open Go.RowKit
theorem data_mks (l:List Nat):(mks l).data.toList=u8s l:=by simp [mks,u8s]
structure LibOK (w:World):Prop where
 pow:Pow10 w
 max:∃m,w.cell? ⟨0,0,none⟩=some (.int .i64 m)
 tabs:Lib.Utf8Tabs 1 2 w
theorem LibOK.keep {w w':World} (h:LibOK w) (hb:Below w.heap.size w w'):LibOK w':=by
 obtain⟨m,hm⟩:=h.max
 exact⟨h.pow.keep hb,⟨m,(hb.cell (block_lt_of_cell hm)).trans hm⟩,Utf8Tabs_below h.tabs hb⟩
def ixBV (c:Nat) (l:List Nat):Int:=match idxB c l with | some n=>(n:Int) | none=>-1
theorem u8_beq {a b:Nat} (ha:a<256) (hb:b<256):(UInt8.ofNat a == UInt8.ofNat b)=decide (a=b):=by
 by_cases h:a=b
 ·subst h;simp
 ·rw [decide_eq_false h,beq_eq_false_iff_ne]
  exact fun e=>h (ofNat_inj ha hb e)
theorem ixB_eq {l:List Nat} (hl:By l) {c:Nat} (hc:c<256):Lib.indexByte (u8s l) (UInt8.ofNat c)=ixBV c l:=by
 induction l with
 | nil=>rfl
 | cons x l ih=>
  have h:=ih hl.tail
  unfold u8s at h ⊢
  rw [List.map_cons,Lib.indexByte,u8_beq hl.head hc,h]
  unfold ixBV
  rw [idxB]
  by_cases hx:x=c
  ·simp [hx]
  ·simp only [hx,decide_false,Bool.false_eq_true,if_false]
   cases idxB c l with
   | none=>rfl
   | some n=>
    have:((n:Int) == -1)=false:=by rw [beq_eq_false_iff_ne];omega
    simp [this]
end Go.Proofs.YtgbkbgiogdhnaaaGreatDoor
namespace Go.Proofs.YtgbkbgiogdhnaaaGreatDoor
open Go.RowKit
end Go.Proofs.YtgbkbgiogdhnaaaGreatDoor
namespace Go.Proofs.YtgbkbgiogdhnaaaGreatDoor
open Go.RowKit
abbrev BldF (B b:Nat) (bs:List Value) (w:World):Prop:=Lib.IsBuilderF 52 5 B b bs w
abbrev BldU (B b:Nat) (bs:List Value) (w:World):Prop:=Lib.BuilderAtF 52 5 B b (.pointer (some ⟨b,0,none⟩)) bs w
abbrev Others (b:Nat) (w w':World):Prop:=Lib.OthersKept 5 (some b) w w'
theorem Tryz.szBuilder:(Tryz.prog.info? 52).map (·.size)=some 2:=by kernel_rfl
theorem Tryz.liesBuilder:liesAt Tryz.prog Tryz.prog.depth 52 (2 / Tryz.prog.cellsOf 52) 0 52 1=true:=by kernel_rfl
set_option maxRecDepth 100000 in
set_option maxHeartbeats 1000000 in
theorem copyCheck_fresh (b:Nat) (w:World) (h0:w.cell? ⟨b,0,none⟩=some (.pointer none)) (hsh:w.shape? b=some (52,2)) (hfz:w.frozen? ⟨b,0,none⟩=false) :
  Calls Tryz.prog 35 #[.pointer (some ⟨b,0,none⟩)] w fun e w'=>e=.returned (.tuple #[])∧w'=w.setCell ⟨b,0,none⟩ (.pointer (some ⟨b,0,none⟩)):=by
 obtain⟨j,hj,hjs⟩:=Option.map_eq_some_iff.1 Tryz.szBuilder
 go_enter Tryz.func35,Tryz.ntmps35
 go_wp2
 rw [Lib.run_to_unsafe w ⟨b,0,none⟩ Tryz.underlying49 Tryz.underlying125 hj (by rw [hjs];decide) hsh (Nat.zero_lt_succ 1)]
 simp only [Result.andThen]
 rw [Oper.upon_value]
 go_wp2
 rw [run_callFunc_extern Tryz.func59 (by kernel_rfl) (by kernel_rfl) (by kernel_rfl) (e:=Extern.AbiNoEscape.same) (by kernel_rfl)]
 rw [Lib.run_noEscape]
 simp only [Result.andThen]
 rw [Oper.upon_value]
 go_wp2
 rw [Lib.run_from_unsafe w ⟨b,0,none⟩ Tryz.underlying125 Tryz.underlying49 hj hsh Tryz.liesBuilder]
 simp only [Result.andThen]
 rw [Oper.upon_value]
 go_wp2
 go_end0
 exact⟨rfl,rfl⟩
set_option maxRecDepth 100000 in
set_option maxHeartbeats 1000000 in
theorem copyCheck_used (b:Nat) (w:World) (h0:w.cell? ⟨b,0,none⟩=some (.pointer (some ⟨b,0,none⟩))) :
  Calls Tryz.prog 35 #[.pointer (some ⟨b,0,none⟩)] w fun e w'=>e=.returned (.tuple #[])∧w=w':=by
 obtain⟨j,hj,_⟩:=Option.map_eq_some_iff.1 Tryz.szBuilder
 go_enter Tryz.func35,Tryz.ntmps35
 go_wp2
 rw [Lib.run_neq_ptr_same w _ Tryz.underlying49 hj]
 go_wp2
 go_end0
 exact⟨rfl,rfl⟩
theorem copyCheck_any (B b:Nat) (bs:List Value) (w:World) (h:BldF B b bs w) :
  Calls Tryz.prog 35 #[.pointer (some ⟨b,0,none⟩)] w fun e w'=>e=.returned (.tuple #[])∧BldU B b bs w'∧Below B w w'∧Others b w w':=by
 rcases h with h | h
 ·refine(copyCheck_fresh b w h.cell0 h.shape h.frozen0).mono ?_
  rintro e w' ⟨rfl,rfl⟩
  exact⟨rfl,h.used _,(Below.refl B w).setCell (p:=⟨b,0,none⟩) h.1 _,(Lib.OthersKept.refl _ _ w).setCell ⟨b,0,none⟩ rfl _⟩
 ·refine(copyCheck_used b w h.cell0).mono ?_
  rintro e w' ⟨rfl,rfl⟩
  exact⟨rfl,h,Below.refl B _,Lib.OthersKept.refl _ _ _⟩
end Go.Proofs.YtgbkbgiogdhnaaaGreatDoor
