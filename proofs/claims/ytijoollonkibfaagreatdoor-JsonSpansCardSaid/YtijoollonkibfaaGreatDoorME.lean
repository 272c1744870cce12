/- The library's searches in strings by their contracts, in words of lists of numbers; what the library asks of memory. -/
import Derived.Test.YtijoollonkibfaaGreatDoorMD
import Derived.Test.YtijoollonkibfaaGreatDoorShelf
import Derived.Test.YtijoollonkibfaaGreatDoorMB
import Derived.Lib.OthersKept
import Derived.Lib.Builder
import Derived.Laws.Externs
import Derived.Lib.RuneCountTail
namespace Go.Proofs.YtijoollonkibfaaGreatDoor
open Go.RowKit
theorem data_mks (l:List Nat):(mks l).data.toList=u8s l:=by simp [mks,u8s]
structure LibOK (w:World):Prop where
 pow:Pow10 w
 max:∃m,w.cell? ⟨2,0,none⟩=some (.int .i64 m)
 tabs:Lib.Utf8Tabs 0 1 w
theorem LibOK.keep {w w':World} (h:LibOK w) (hb:Below w.heap.size w w'):LibOK w':=by
 obtain⟨m,hm⟩:=h.max
 exact⟨h.pow.keep hb,⟨m,(hb.cell (block_lt_of_cell hm)).trans hm⟩,Utf8Tabs_below h.tabs hb⟩
def ixBV (c:Nat) (l:List Nat):Int:=match idxB c l with | some n=>(n:Int) | none=>-1
def ixPV (a b:Nat) (l:List Nat):Int:=match idxP a b l with | some n=>(n:Int) | none=>-1
theorem u8_beq {a b:Nat} (ha:a<256) (hb:b<256):(UInt8.ofNat a == UInt8.ofNat b)=decide (a=b):=by
 by_cases h:a=b
 ·subst h;simp
 ·rw [decide_eq_false h,beq_eq_false_iff_ne]
  exact fun e=>h (ofNat_inj ha hb e)
theorem ixB_eq {l:List Nat} (hl:By l) {c:Nat} (hc:c<256):Lib.indexByte (u8s l) (UInt8.ofNat c)=ixBV c l:=by
 induction l with
 | nil=>rfl
 | cons x l ih=>
  have h:=ih hl.tail
  unfold u8s at h ⊢
  rw [List.map_cons,Lib.indexByte,u8_beq hl.head hc,h]
  unfold ixBV
  rw [idxB]
  by_cases hx:x=c
  ·simp [hx]
  ·simp only [hx,decide_false,Bool.false_eq_true,if_false]
   cases idxB c l with
   | none=>rfl
   | some n=>
    have:((n:Int) == -1)=false:=by rw [beq_eq_false_iff_ne];omega
    simp [this]
theorem ixP_eq {l:List Nat} (hl:By l) {a b:Nat} (ha:a<256) (hb:b<256):Lib.index (u8s l) [UInt8.ofNat a,UInt8.ofNat b]=ixPV a b l:=by
 induction l with
 | nil=>rfl
 | cons x l ih=>
  have h:=ih hl.tail
  have hp:List.isPrefixOf [UInt8.ofNat a,UInt8.ofNat b] (UInt8.ofNat x :: u8s l)=decide (x=a∧l.head? = some b):=by
   rw [List.isPrefixOf,u8_beq ha hl.head]
   cases l with
   | nil=>simp [u8s]
   | cons y l=>
    show(decide (a=x) && List.isPrefixOf [UInt8.ofNat b] (UInt8.ofNat y :: u8s l))=_
    rw [List.isPrefixOf,u8_beq hb hl.tail.head]
    rw [Bool.eq_iff_iff]
    simp
    omega
  unfold u8s at h hp ⊢
  rw [List.map_cons,Lib.index,hp,h]
  unfold ixPV
  rw [idxP]
  by_cases hx:x=a∧l.head? = some b
  ·simp [hx]
  ·simp only [hx,decide_false,Bool.false_eq_true,if_false]
   cases idxP a b l with
   | none=>rfl
   | some n=>
    have:((n:Int) == -1)=false:=by rw [beq_eq_false_iff_ne];omega
    simp [this]
theorem idxB_lt {c n:Nat} {l:List Nat} (h:idxB c l=some n):n<l.length:=by
 induction l generalizing n with
 | nil=>cases h
 | cons x l ih=>
  rw [idxB] at h
  split at h
  ·have:=Option.some.inj h;simp;omega
  ·cases hx:idxB c l with
   | none=>rw [hx] at h;cases h
   | some m=>rw [hx] at h;simp only [Option.map_some,Option.some.injEq] at h;have:=ih hx;simp;omega
theorem idxP_lt {a b n:Nat} {l:List Nat} (h:idxP a b l=some n):n+2≤l.length:=by
 induction l generalizing n with
 | nil=>cases h
 | cons x l ih=>
  rw [idxP] at h
  split at h
  ·rename_i hx
   have:=Option.some.inj h
   cases l with
   | nil=>cases hx.2
   | cons y l=>simp;omega
  ·cases hx:idxP a b l with
   | none=>rw [hx] at h;cases h
   | some m=>rw [hx] at h;simp only [Option.map_some,Option.some.injEq] at h;have:=ih hx;simp;omega
theorem ixBV_bd (c:Nat) (l:List Nat):-1≤ixBV c l∧ixBV c l<l.length:=by
 unfold ixBV
 cases h:idxB c l with
 | none=>simp only;omega
 | some n=>have:=idxB_lt h;simp only;omega
theorem ixPV_bd (a b:Nat) (l:List Nat):-1≤ixPV a b l∧ixPV a b l+2≤l.length+1∧(0≤ixPV a b l→ixPV a b l+2≤l.length):=by
 unfold ixPV
 cases h:idxP a b l with
 | none=>simp only;omega
 | some n=>have:=idxP_lt h;simp only;omega
theorem indexByte_h (l:List Nat) (hl:By l) (c:Nat) (hc:c<256):Hid (∀w,Calls Tryz.prog 23 #[.string (mks l),.int .u8 (c:Int)] w fun e w'=>e=.returned (.int .i64 (ixBV c l))∧w=w'):=fun w=>
 (Tryz.strings_IndexByte (mks l) (c:Int) w).mono fun _ _ ⟨h1,h2⟩=>by
  rw [data_mks] at h1
  exact⟨h1.trans (ret_i (ixB_eq hl hc)),h2.symm⟩
theorem index2_h (l:List Nat) (hl:By l) (a b:UInt8) (hn:l.length<4294967281):Hid (∀w,LibOK w→Calls Tryz.prog 47 #[.string (mks l),.string ⟨#[a,b]⟩] w fun e w'=>e=.returned (.int .i64 (ixPV a.toNat b.toNat l))∧w=w'):=fun w hw=>by
 obtain⟨m,hm⟩:=hw.max
 refine(Tryz.strings_Index (mks l) ⟨#[a,b]⟩ m w (by rw [size_mks];exact hn) hm).mono ?_
 rintro e w' ⟨rfl,rfl⟩
 refine⟨ret_i ?_,rfl⟩
 rw [data_mks,←ixP_eq hl a.toNat_lt b.toNat_lt]
 simp
theorem mks_lit2 (a b:UInt8):(ByteArray.mk #[a,b]:ByteArray)=mks [a.toNat,b.toNat]:=by simp [mks]
theorem prefix2_h (s:List Nat) (a b:UInt8) (hs:By s):Hid (∀w,Calls Tryz.prog 46 #[.string (mks s),.string ⟨#[a,b]⟩] w fun e w'=>e=.returned (.bool (hasP [a.toNat,b.toNat] s))∧w=w'):=by
 intro w
 rw [mks_lit2]
 exact prefix_any s [a.toNat,b.toNat] hs (By.cons a.toNat_lt (By.cons b.toNat_lt By.nil)) w
theorem commV_line {s:List Nat} (h:hasP [47,47] s=true):commV s=if 0≤ixBV 10 s then ixBV 10 s else (s.length:Int):=by
 unfold commV ixBV
 rw [if_pos h]
 cases idxB 10 s with
 | none=>rfl
 | some n=>simp
theorem commV_star {s:List Nat} (h:hasP [47,47] s=false) (h2:hasP [47,42] s=true):commV s=if ixPV 42 47 (s.drop 2)<0 then -1 else ixPV 42 47 (s.drop 2)+4:=by
 unfold commV ixPV
 rw [if_neg (by simp [h]),if_pos h2]
 cases idxP 42 47 (s.drop 2) with
 | none=>rfl
 | some n=>simp only;rw [if_neg (by omega)];push_cast;rfl
theorem commV_none {s:List Nat} (h:hasP [47,47] s=false) (h2:hasP [47,42] s=false):commV s=0:=by
 unfold commV
 rw [if_neg (by simp [h]),if_neg (by simp [h2])]
theorem hasP_len {p s:List Nat} (h:hasP p s=true):p.length≤s.length:=by
 unfold hasP at h
 have:=congrArg List.length (of_decide_eq_true h)
 rw [List.length_take] at this
 omega
theorem commV_bd (s:List Nat):-1≤commV s∧commV s≤s.length:=by
 have h1:=ixBV_bd 10 s
 have h2:=ixPV_bd 42 47 (s.drop 2)
 cases h:hasP [47,47] s with
 | true=>rw [commV_line h];split <;> omega
 | false=>
  cases h':hasP [47,42] s with
  | true=>
   have:=hasP_len h'
   simp at this
   rw [commV_star h h']
   rw [List.length_drop] at h2
   split <;> omega
  | false=>rw [commV_none h h'];omega
set_option maxRecDepth 8000 in
set_option maxHeartbeats 2000000 in
theorem comment_any (s:List Nat) (hs:By s) (hl:s.length<4294967281) (w:World) (hw:LibOK w):Calls Tryz.prog 24 #[.string (mks s)] w fun e w'=>e=.returned (.int .i64 (commV s))∧w=w':=by
 have D1:=prefix2_h s 47 47 hs
 have D2:=prefix2_h s 47 42 hs
 have D3:Hid (∀w,Calls Tryz.prog 23 #[.string (mks s),.int .u8 10] w fun e w'=>e=.returned (.int .i64 (ixBV 10 s))∧w=w'):=indexByte_h s hs 10 (by omega)
 have D4:=index2_h (s.drop 2) (hs.drop 2) 42 47 (by rw [List.length_drop];omega)
 have hb1:=ixBV_bd 10 s
 have hb2:=ixPV_bd 42 47 (s.drop 2)
 rw [List.length_drop] at hb2
 simp only [UInt8.toNat_ofNat,Nat.reduceMod,Nat.reducePow] at D1 D2 D4
 have HW:=Lib.hid hw
 clear hw
 cases h:hasP [47,47] s with
 | true=>
  rw [commV_line h]
  rw [h] at D1
  clear h hs
  generalize ixBV 10 s=n at *
  go_enter Tryz.func24,Tryz.ntmps24
  go_wp2_with (first | (go_at_call 46;((with_reducible refine(D1.out _).mono ?_));rintro e wn ⟨rfl,rfl⟩) | (go_at_call 23;((with_reducible refine(D3.out _).mono ?_));rintro e wn ⟨rfl,rfl⟩))
  ·go_ret
   exact⟨ret_i (by first | rfl | rw [if_pos (by omega)] | rw [if_neg (by omega)]),rfl⟩
  ·go_ret
   exact⟨ret_i (by first | rfl | rw [if_pos (by omega)] | rw [if_neg (by omega)]),rfl⟩
 | false=>
  cases h':hasP [47,42] s with
  | true=>
   have hl2:=hasP_len h'
   simp only [List.length_cons,List.length_nil] at hl2
   have hl2':(2:Int)≤s.length:=by omega
   rw [commV_star h h']
   rw [h] at D1
   rw [h'] at D2
   clear h h' hs
   generalize ixPV 42 47 (s.drop 2)=n at *
   go_enter Tryz.func24,Tryz.ntmps24
   go_wp2_with (first | (go_at_call 46;((with_reducible refine(D1.out _).mono ?_));rintro e wn ⟨rfl,rfl⟩) | (go_at_call 46;((with_reducible refine(D2.out _).mono ?_));rintro e wn ⟨rfl,rfl⟩) | (go_at_call 47;((with_reducible refine(D4.out _ HW.out).mono ?_));rintro e wn ⟨rfl,rfl⟩))
   ·go_ret
    exact⟨ret_i (by first | rfl | rw [if_pos (by omega)] | rw [if_neg (by omega)]),rfl⟩
   ·go_ret
    exact⟨ret_i (by first | rfl | rw [if_pos (by omega)] | rw [if_neg (by omega)]),rfl⟩
  | false=>
   rw [commV_none h h']
   rw [h] at D1
   rw [h'] at D2
   clear h h' hs
   go_enter Tryz.func24,Tryz.ntmps24
   go_wp2_with (first | (go_at_call 46;((with_reducible refine(D1.out _).mono ?_));rintro e wn ⟨rfl,rfl⟩) | (go_at_call 46;((with_reducible refine(D2.out _).mono ?_));rintro e wn ⟨rfl,rfl⟩))
   go_ret
   exact⟨rfl,rfl⟩
end Go.Proofs.YtijoollonkibfaaGreatDoor
namespace Go.Proofs.YtijoollonkibfaaGreatDoor
open Go.RowKit
theorem hexN_bd (l:List Nat) (n:Nat):hexN l n = -1∨(0≤hexN l n∧hexN l n<((n+1)*16 ^ l.length:Nat)):=by
 induction l generalizing n with
 | nil=>right;simp [hexN];omega
 | cons c l ih=>
  unfold hexN
  cases hd:hexD c with
  | none=>exact .inl rfl
  | some d=>
   have hd16:d<16:=by
    unfold hexD at hd
    (repeat' split at hd) <;> first | (have:=Option.some.inj hd;omega) | cases hd
   rcases ih (16*n+d) with h | ⟨h1,h2⟩
   ·exact .inl h
   ·refine .inr ⟨h1,?_⟩
    have:(16*n+d+1)*16 ^ l.length≤(n+1)*16 ^ (l.length+1):=by
     rw [Nat.pow_succ,Nat.mul_comm (16 ^ l.length) 16,←Nat.mul_assoc]
     exact Nat.mul_le_mul_right _ (by omega)
    rw [List.length_cons]
    simp only
    omega
theorem unitV_bd (s:List Nat):-1≤unitV s∧unitV s<65536:=by
 unfold unitV
 split
 ·have h:=hexN_bd ((s.take 6).drop 2) 0
  have hl:((s.take 6).drop 2).length=4:=by simp;omega
  rw [hl] at h
  omega
 ·omega
theorem unitV_len (s:List Nat) (h:0≤unitV s):6≤s.length:=by
 unfold unitV at h
 split at h
 ·rename_i h1;exact h1.1
 ·omega
theorem meanV_lt (c:Nat):meanV c<256:=by unfold meanV;(repeat' split) <;> omega
theorem meanL_get (c:Nat) (hc:c<256):meanL[c]? = some (meanV c):=by simp [meanL,hc]
theorem mean_ix (c:Nat) (hc:c<256) (w:World):(Instr.index 134 (.agg (B8 meanL).toArray) (.int .u8 (c:Int))).run Tryz.prog w=.ok (.int .u8 ((meanV c:Nat):Int)) w:=by
 have hg:(B8 meanL).toArray[c]? = some (.int .u8 ((meanV c:Nat):Int)):=by
  rw [List.getElem?_toArray];exact B8_get (meanL_get c hc)
 have ha:(isAgg 5).run Tryz.prog w=.ok false w:=by kernel_rfl
 have hs:(sizeOf 5).run Tryz.prog w=.ok 1 w:=by kernel_rfl
 have h1:(0:Int)≤(c:Int)∧(c:Int)<((256:Nat):Int):=by omega
 simp only [Instr.index,asIntOf,Sem.run_bind,Sem.run_pure,Result.andThen_ok,run_underlying Tryz.underlying134,if_pos h1,part,ha,hs]
 simp [hg]
theorem unit_h (s:List Nat) (hs:By s):Hid (∀w,Calls Tryz.prog 92 #[.string (mks s)] w fun e w'=>e=.returned (.int .i64 (unitV s))∧w=w'):=fun w=>unit_any s hs w
theorem ret_esc {a b x x' y y':Int} (h:a=b) (hx:x=x') (hy:y=y'):Ending.returned (.tuple #[.int .i32 a,.int .i64 x,.int .i64 y])=.returned (.tuple #[.int .i32 b,.int .i64 x',.int .i64 y']):=by rw [h,hx,hy]
def EscR (w:World) (x:Int×Int×Int) (e:Ending) (w':World):Prop:=e=.returned (.tuple #[.int .i32 x.1,.int .i64 x.2.1,.int .i64 x.2.2])∧Below w.heap.size w w'
theorem escV_bad1 {s:List Nat} (h:unitV s<0) (h1:¬(1<s.length∧0<meanV (s.getD 1 0))):escV s=(0,0,4):=by unfold escV;rw [if_pos h,if_neg h1]
theorem escV_mean {s:List Nat} (h:unitV s<0) (h1:1<s.length) (h2:0<meanV (s.getD 1 0)):escV s=(((meanV (s.getD 1 0):Nat):Int),2,0):=by unfold escV;rw [if_pos h,if_pos ⟨h1,h2⟩]
set_option maxRecDepth 8000 in
set_option maxHeartbeats 2000000 in
theorem esc_short (s:List Nat) (hs:By s) (w:World) (h:unitV s<0) (h1:s.length≤1):Calls Tryz.prog 69 #[.string (mks s)] w (EscR w (escV s)):=by
 rw [escV_bad1 h (by omega)]
 have D:=unit_h s hs
 have h2:decide ((1:Int)<s.length)=false:=by simp;omega
 have HSd:Below w.heap.size w w.drew:=Below.drew (Below.refl _ _)
 generalize unitV s=n at *
 clear hs
 go_enter Tryz.func69,Tryz.ntmps69
 go_upto_region 2 with(go_at_call 92;((with_reducible refine(D.out _).mono ?_));rintro e wn ⟨rfl,rfl⟩)
 go_quiet (fail)
 go_wp2
 go_ret3
 exact⟨rfl,Below.drewN' (Below.refl _ _) _⟩
theorem mean_h:Hid (∀w,Calls Tryz.prog 93 #[] w fun e w'=>e=.returned (.agg (B8 meanL).toArray)∧Below w.heap.size w w'):=fun w=>meanings_any w
set_option maxRecDepth 8000 in
set_option maxHeartbeats 2000000 in
theorem esc_mean (s:List Nat) (c:Nat) (hs:By s) (w:World) (h:unitV s<0) (h1:1<s.length) (hc:s[1]? = some c) (hm:0<meanV c):Calls Tryz.prog 69 #[.string (mks s)] w (EscR w (((meanV c:Nat):Int),2,0)):=by
 have D:=unit_h s hs
 have E:=mean_h
 have cb:=hs.get hc
 have gc:=get_mks hc cb (by rw [size_mks];exact h1)
 have hix:Hid (∀w,(Instr.index 134 (.agg (B8 meanL).toArray) (.int .u8 (c:Int))).run Tryz.prog w=.ok (.int .u8 ((meanV c:Nat):Int)) w):=fun w=>mean_ix c cb w
 have h2:(1:Int)<s.length:=by omega
 have hml:=meanV_lt c
 have HS:Below w.heap.size w w:=Below.refl _ _
 have HSd:Below w.heap.size w w.drew:=Below.drew HS
 have hz3:w.heap.size≤w.drew.heap.size:=Nat.le_refl _
 generalize unitV s=n at *
 generalize meanV c=m at *
 generalize (B8 meanL).toArray=us at *
 clear hs
 go_enter Tryz.func69,Tryz.ntmps69
 go_upto_region 2 with(go_at_call 92;((with_reducible refine(D.out _).mono ?_));rintro e wn ⟨rfl,rfl⟩)
 have hix':=hix.out
 go_region_held3 (fun w'=>Below w.heap.size w w') (assumption) (first | (go_at_call 93;((with_reducible refine(E.out _).mono ?_));(all_goals try (fail));rintro e w5 ⟨rfl,hb5⟩;have z5:=hb5.size;(try simp at z5);have hS5_0:Below w.heap.size w w5:=Below.trans (by first | assumption | exact Below.alloc (by assumption) (by first | omega | (simp;omega)) _ | exact Below.allocDrew (by assumption) (by first | omega | (simp;omega)) _) (hb5.mono (by first | omega | (simp;omega)))))
 all_goals
  go_upto_region 3 with(fail)
  have hS6:=Below.drew hS5_0
  have hz6:w.heap.size≤w5.drew.heap.size:=z5
  clear hS5_0 HSd hb5
  go_region_held3 (fun w'=>Below w.heap.size w w') (assumption) (first | (go_at_call 93;((with_reducible refine(E.out _).mono ?_));(all_goals try (fail));rintro e w7 ⟨rfl,hb7⟩;have z7:=hb7.size;(try simp at z7);have hS7_0:Below w.heap.size w w7:=Below.trans (by first | assumption | exact Below.alloc (by assumption) (by first | omega | (simp;omega)) _ | exact Below.allocDrew (by assumption) (by first | omega | (simp;omega)) _) (hb7.mono (by first | omega | (simp;omega)))))
  all_goals
   go_wp2
   go_ret3
   exact⟨ret_esc (IntWalk.i32_in _ (by omega)) rfl rfl,hS7_0⟩
set_option maxRecDepth 8000 in
set_option maxHeartbeats 2000000 in
theorem esc_none (s:List Nat) (c:Nat) (hs:By s) (w:World) (h:unitV s<0) (h1:1<s.length) (hc:s[1]? = some c) (hm:meanV c=0):Calls Tryz.prog 69 #[.string (mks s)] w (EscR w (0,0,4)):=by
 have D:=unit_h s hs
 have E:=mean_h
 have cb:=hs.get hc
 have gc:=get_mks hc cb (by rw [size_mks];exact h1)
 have hix:Hid (∀w,(Instr.index 134 (.agg (B8 meanL).toArray) (.int .u8 (c:Int))).run Tryz.prog w=.ok (.int .u8 0) w):=fun w=>by rw [mean_ix c cb w,hm];rfl
 have h2:(1:Int)<s.length:=by omega
 have HS:Below w.heap.size w w:=Below.refl _ _
 have HSd:Below w.heap.size w w.drew:=Below.drew HS
 have hz3:w.heap.size≤w.drew.heap.size:=Nat.le_refl _
 generalize unitV s=n at *
 clear hm
 generalize (B8 meanL).toArray=us at *
 clear hs
 go_enter Tryz.func69,Tryz.ntmps69
 go_upto_region 2 with(go_at_call 92;((with_reducible refine(D.out _).mono ?_));rintro e wn ⟨rfl,rfl⟩)
 have hix':=hix.out
 go_region_held3 (fun w'=>Below w.heap.size w w') (assumption) (first | (go_at_call 93;((with_reducible refine(E.out _).mono ?_));(all_goals try (fail));rintro e w5 ⟨rfl,hb5⟩;have z5:=hb5.size;(try simp at z5);have hS5_0:Below w.heap.size w w5:=Below.trans (by first | assumption | exact Below.alloc (by assumption) (by first | omega | (simp;omega)) _ | exact Below.allocDrew (by assumption) (by first | omega | (simp;omega)) _) (hb5.mono (by first | omega | (simp;omega)))))
 all_goals
  go_wp2
  go_ret3
  exact⟨rfl,hS5_0⟩
set_option maxRecDepth 8000 in
set_option maxHeartbeats 2000000 in
theorem esc_unit (s:List Nat) (hs:By s) (w:World) (h:0≤unitV s):Calls Tryz.prog 69 #[.string (mks s)] w (EscR w (escV s)):=by
 have D:=unit_h s hs
 have D2:=unit_h (s.drop 6) (hs.drop 6)
 have hbd:=unitV_bd s
 have hbd2:=unitV_bd (s.drop 6)
 have hl6:=unitV_len s h
 have hl6':(6:Int)≤s.length:=by omega
 have hx:Hid (escV s=if unitV s<55296∨57343<unitV s then (unitV s,6,0) else if 56319<unitV s∨unitV (s.drop 6)<56320∨57343<unitV (s.drop 6) then (0,0,11) else (65536+(unitV s - 55296)*1024+unitV (s.drop 6) - 56320,12,0)):=by
  show _=_;unfold escV;rw [if_neg (by omega)]
 generalize hx0:escV s=x at *
 generalize unitV s=n at *
 generalize unitV (s.drop 6)=m at *
 have hn0:¬n<0:=by omega
 have hn0':decide (n<0)=false:=by simp;omega
 clear hs hx0
 go_enter Tryz.func69,Tryz.ntmps69
 go_upto_region 2 with(go_at_call 92;((with_reducible refine(D.out _).mono ?_));rintro e wn ⟨rfl,rfl⟩)
 go_quiet (fail)
 rename_i nq
 go_wp2_with (go_at_call 92;((with_reducible refine(D2.out _).mono ?_));rintro e wn ⟨rfl,rfl⟩)
 all_goals
  go_ret3
  refine⟨?_,Below.drewN' (Below.refl _ _) _⟩
  rw [hx.out]
  first
   | (rw [if_pos (by omega)];exact ret_esc (by first | rfl | exact IntWalk.i32_in _ (by omega)) rfl rfl)
   | (rw [if_neg (by omega),if_pos (by omega)];exact ret_esc (by first | rfl | exact IntWalk.i32_in _ (by omega)) rfl rfl)
   | (rw [if_neg (by omega),if_neg (by omega)];exact ret_esc (by first | rfl | exact IntWalk.i32_in _ (by omega) | omega) rfl rfl)
theorem escape_any (s:List Nat) (hs:By s) (w:World):Calls Tryz.prog 69 #[.string (mks s)] w (EscR w (escV s)):=by
 by_cases h:0≤unitV s
 ·exact esc_unit s hs w h
 ·have hn:unitV s<0:=by omega
  by_cases h1:1<s.length
  ·obtain⟨c,hc⟩:∃c,s[1]? = some c:=⟨_,List.getElem?_eq_getElem h1⟩
   have hd:s.getD 1 0=c:=by simp [List.getD,hc]
   by_cases hm:0<meanV c
   ·rw [escV_mean hn h1 (by rw [hd];exact hm),hd]
    exact esc_mean s c hs w hn h1 hc hm
   ·rw [escV_bad1 hn (by rw [hd];omega)]
    exact esc_none s c hs w hn h1 hc (by omega)
  ·exact esc_short s hs w hn (by omega)
end Go.Proofs.YtijoollonkibfaaGreatDoor
namespace Go.Proofs.YtijoollonkibfaaGreatDoor
open Go.RowKit
abbrev BldF (B b:Nat) (bs:List Value) (w:World):Prop:=Lib.IsBuilderF 110 5 B b bs w
abbrev BldU (B b:Nat) (bs:List Value) (w:World):Prop:=Lib.BuilderAtF 110 5 B b (.pointer (some ⟨b,0,none⟩)) bs w
abbrev Others (b:Nat) (w w':World):Prop:=Lib.OthersKept 5 (some b) w w'
theorem Tryz.szBuilder:(Tryz.prog.info? 110).map (·.size)=some 2:=by kernel_rfl
theorem Tryz.liesBuilder:liesAt Tryz.prog Tryz.prog.depth 110 (2 / Tryz.prog.cellsOf 110) 0 110 1=true:=by kernel_rfl
set_option maxRecDepth 100000 in
set_option maxHeartbeats 1000000 in
theorem copyCheck_fresh (b:Nat) (w:World) (h0:w.cell? ⟨b,0,none⟩=some (.pointer none)) (hsh:w.shape? b=some (110,2)) (hfz:w.frozen? ⟨b,0,none⟩=false) :
  Calls Tryz.prog 94 #[.pointer (some ⟨b,0,none⟩)] w fun e w'=>e=.returned (.tuple #[])∧w'=w.setCell ⟨b,0,none⟩ (.pointer (some ⟨b,0,none⟩)):=by
 obtain⟨j,hj,hjs⟩:=Option.map_eq_some_iff.1 Tryz.szBuilder
 go_enter Tryz.func94,Tryz.ntmps94
 go_wp2
 rw [Lib.run_to_unsafe w ⟨b,0,none⟩ Tryz.underlying107 Tryz.underlying170 hj (by rw [hjs];decide) hsh (Nat.zero_lt_succ 1)]
 simp only [Result.andThen]
 rw [Oper.upon_value]
 go_wp2
 rw [run_callFunc_extern Tryz.func119 (by kernel_rfl) (by kernel_rfl) (by kernel_rfl) (e:=Extern.AbiNoEscape.same) (by kernel_rfl)]
 rw [Lib.run_noEscape]
 simp only [Result.andThen]
 rw [Oper.upon_value]
 go_wp2
 rw [Lib.run_from_unsafe w ⟨b,0,none⟩ Tryz.underlying170 Tryz.underlying107 hj hsh Tryz.liesBuilder]
 simp only [Result.andThen]
 rw [Oper.upon_value]
 go_wp2
 go_end0
 exact⟨rfl,rfl⟩
set_option maxRecDepth 100000 in
set_option maxHeartbeats 1000000 in
theorem copyCheck_used (b:Nat) (w:World) (h0:w.cell? ⟨b,0,none⟩=some (.pointer (some ⟨b,0,none⟩))) :
  Calls Tryz.prog 94 #[.pointer (some ⟨b,0,none⟩)] w fun e w'=>e=.returned (.tuple #[])∧w=w':=by
 obtain⟨j,hj,_⟩:=Option.map_eq_some_iff.1 Tryz.szBuilder
 go_enter Tryz.func94,Tryz.ntmps94
 go_wp2
 rw [Lib.run_neq_ptr_same w _ Tryz.underlying107 hj]
 go_wp2
 go_end0
 exact⟨rfl,rfl⟩
theorem copyCheck_any (B b:Nat) (bs:List Value) (w:World) (h:BldF B b bs w) :
  Calls Tryz.prog 94 #[.pointer (some ⟨b,0,none⟩)] w fun e w'=>e=.returned (.tuple #[])∧BldU B b bs w'∧Below B w w'∧Others b w w':=by
 rcases h with h | h
 ·refine(copyCheck_fresh b w h.cell0 h.shape h.frozen0).mono ?_
  rintro e w' ⟨rfl,rfl⟩
  exact⟨rfl,h.used _,(Below.refl B w).setCell (p:=⟨b,0,none⟩) h.1 _,(Lib.OthersKept.refl _ _ w).setCell ⟨b,0,none⟩ rfl _⟩
 ·refine(copyCheck_used b w h.cell0).mono ?_
  rintro e w' ⟨rfl,rfl⟩
  exact⟨rfl,h,Below.refl B _,Lib.OthersKept.refl _ _ _⟩
set_option maxHeartbeats 2000000 in
set_option maxRecDepth 20000 in
theorem writeRune_any (B b:Nat) (bs:List Value) (r:Int) (hr0:-2147483648≤r) (hr1:r≤2147483647) (w:World) (h:BldF B b bs w) (hlen:bs.length+4≤140737488355328) (hBw:B≤w.heap.size) :
  Calls Tryz.prog 70 #[.pointer (some ⟨b,0,none⟩),.int .i32 r] w fun e w'=>e=.returned (.tuple #[.int .i64 (Lib.runeCells r).length,.nilIface])∧BldU B b (bs ++ Lib.runeCells r) w'∧Below B w w'∧Others b w w':=by
 have hk4:=Lib.runeCells_le r
 go_enter Tryz.func70,Tryz.ntmps70
 go_wp2_with (go_at_call 94;refine(copyCheck_any B b bs _ h).mono ?_)
 rintro e w1 ⟨rfl,h1,hb1,hk1⟩
 obtain⟨hB,v,hbk,hown,hne⟩:=h1
 obtain⟨ao,cap,rfl⟩:∃ao cap,v=.slice ao bs.length cap:=by
  rcases hown.2 with⟨hv,h0⟩ | ⟨g,cap,cur,fz,hv,_⟩
  ·exact⟨none,0,by rw [hv,h0]⟩
  ·exact⟨_,_,hv⟩
 have c0:w1.cell? ⟨b,0,none⟩=some (.pointer (some ⟨b,0,none⟩)):=by rw [Lib.cell_of_heap hbk];rfl
 have c1:w1.cell? ⟨b,1,none⟩=some (.slice ao bs.length cap):=by rw [Lib.cell_of_heap hbk];rfl
 go_wp2_with (go_at_call 95;refine(Tryz.utf8_AppendRune_row B _ bs.length bs r hr0 hr1 _ hown hlen (by have:=hb1.size;omega)).mono ?_)
 rintro e w2 ⟨v',rfl,hown',o,hgrow⟩
 have hlt:b<w1.heap.size:=(Array.getElem?_eq_some_iff.1 hbk).1
 have hb2:w2.heap[b]? = some (.cells #[.pointer (some ⟨b,0,none⟩),.slice ao bs.length cap] 110 (0,0)):=by
  rw [hgrow.block b (by simp;omega) (fun e=>hne e.symm),Lib.alloc_old w1 _ b hlt]
  exact hbk
 have d0:w2.cell? ⟨b,0,none⟩=some (.pointer (some ⟨b,0,none⟩)):=by rw [Lib.cell_of_heap hb2];rfl
 have d1:w2.cell? ⟨b,1,none⟩=some (.slice ao bs.length cap):=by rw [Lib.cell_of_heap hb2];rfl
 have f1:w2.frozen? ⟨b,1,none⟩=false:=Lib.frozen_of_heap hb2 1
 obtain⟨g,cap',rfl⟩:∃g cap',v'=.slice (some ⟨g,0,none⟩) (bs.length+(Lib.runeCells r).length) cap':=by
  rcases hown'.2 with⟨_,h0⟩ | ⟨g,cap',cur,fz,hv,_⟩
  ·omega
  ·exact⟨g,cap',hv⟩
 go_wp2
 go_ret2
 refine⟨?_,?_,?_,((hk1.alloc _).grown hgrow (Lib.ownsRowF_kind (hown.alloc _))).setCell ⟨b,1,none⟩ rfl _⟩
 ·have e:((bs.length:Int)+((Lib.runeCells r).length:Int) - (bs.length:Int))=((Lib.runeCells r).length:Int):=by omega
  simp [e]
 ·exact Lib.BuilderAtF.put hB hb2 (bs':=bs ++ Lib.runeCells r) (by simpa using hown') (by decide)
 ·exact((hb1.alloc (by have:=hb1.size;omega) _).grown hgrow (by have:=hb1.size;simp;omega) (fun k hk=>(hown.lt k hk).1)).setCell (p:=⟨b,1,none⟩) hB _
end Go.Proofs.YtijoollonkibfaaGreatDoor
namespace Go.Proofs.YtijoollonkibfaaGreatDoor
open Go.RowKit
theorem decode_drop (l:List Nat) (pos:Nat):Utf8.decode (mks l) pos=decL (l.drop pos):=by
 have h1:=Lib.tail_decode (mks l) pos 0
 rw [Nat.add_zero] at h1
 rw [←h1,size_mks,extract_mks,List.take_length]
 rfl
theorem runeLen_h (r:Int):Hid (∀w,Calls Tryz.prog 67 #[.int .i32 r] w fun e w'=>e=.returned (.int .i64 (Lib.runeLen r))∧w=w'):=fun w=>
 (Tryz.utf8_RuneLen r w).mono fun _ _ ⟨h1,h2⟩=>⟨h1,h2.symm⟩
theorem decL_bd (l:List Nat):(decL l).1≤1114111∧1≤(decL l).2:=by
 unfold decL Lib.decodeL
 exact⟨Lib.rune_le _ _,Lib.width_pos _ _⟩
theorem runeLen_bd (r:Int):-1≤Lib.runeLen r∧Lib.runeLen r≤4:=by unfold Lib.runeLen;(repeat' split) <;> omega
theorem runeLen_dec (l:List Nat):1≤Lib.runeLen ((decL l).1:Int):=by
 have h1:=decL_bd l
 have h2:(decL l).1<55296∨57343<(decL l).1:=by
  unfold decL
  rw [Lib.decodeL_N]
  rcases Lib.decodeN_shape (u8s l).length ((u8s l).getD 0 0).toNat ((u8s l).getD 1 0).toNat ((u8s l).getD 2 0).toNat ((u8s l).getD 3 0).toNat with⟨c,e⟩ | ⟨c1,c2,c3,cv,e⟩ | ⟨c1,c2,c3,c4,cv,cs,e⟩ | ⟨c1,c2,c3,c4,c5,cv,cw,e⟩ | e
  all_goals (rw [e];dsimp only;omega)
 unfold Lib.runeLen
 (repeat' split) <;> omega
theorem escV_len (s:List Nat):0≤(escV s).2.1∧(escV s).2.1≤12∧0≤(escV s).2.2∧(escV s).2.2≤12∧-2147483648≤(escV s).1∧(escV s).1≤2147483647:=by
 have h1:=unitV_bd s
 have h2:=unitV_bd (s.drop 6)
 have h3:=meanV_lt (s.getD 1 0)
 unfold escV
 generalize unitV s=n at *
 generalize unitV (s.drop 6)=m at *
 generalize meanV (s.getD 1 0)=c at *
 split
 ·split
  ·simp only;omega
  ·simp only;omega
 ·split
  ·simp only;omega
  ·split <;> simp only <;> omega
section
variable {f:Nat} {l:List Nat} {p nx:Nat} {acc:List Nat}
theorem quotG_end:quotG f [] p nx acc=([],0,4):=by cases f <;> simp [quotG]
theorem quotG_skip (hl:l≠[]) (h:p<nx):quotG (f+1) l p nx acc=quotG f (l.drop (decL l).2) (p+(decL l).2) nx acc:=by rw [quotG,if_neg hl,if_pos h]
theorem quotG_quote (hl:l≠[]) (h:¬p<nx) (hr:(decL l).1=34):quotG (f+1) l p nx acc=(acc,p+1,0):=by rw [quotG,if_neg hl,if_neg h,if_pos hr]
theorem quotG_low (hl:l≠[]) (h:¬p<nx) (hr:(decL l).1≠34) (hr2:(decL l).1<32):quotG (f+1) l p nx acc=([],p,4):=by rw [quotG,if_neg hl,if_neg h,if_neg hr,if_pos hr2]
theorem quotG_esc (hl:l≠[]) (h:¬p<nx) (hr:(decL l).1=92) (he:(escV l).2.2=0) :
  quotG (f+1) l p nx acc=quotG f (l.drop (decL l).2) (p+(decL l).2) (p+(escV l).2.1.toNat) (acc ++ encL (escV l).1):=by
 rw [quotG,if_neg hl,if_neg h,if_neg (by omega),if_neg (by omega),if_pos hr,if_pos he]
theorem quotG_bad (hl:l≠[]) (h:¬p<nx) (hr:(decL l).1=92) (he:(escV l).2.2≠0):quotG (f+1) l p nx acc=([],p,(escV l).2.2.toNat):=by
 rw [quotG,if_neg hl,if_neg h,if_neg (by omega),if_neg (by omega),if_pos hr,if_neg he]
theorem quotG_rune (hl:l≠[]) (h:¬p<nx) (hr:(decL l).1≠34) (hr2:¬(decL l).1<32) (hr3:(decL l).1≠92) :
  quotG (f+1) l p nx acc=quotG f (l.drop (decL l).2) (p+(decL l).2) (p+(Lib.runeLen ((decL l).1:Int)).toNat) (acc ++ encL ((decL l).1:Int)):=by
 rw [quotG,if_neg hl,if_neg h,if_neg hr,if_neg hr2,if_neg hr3]
end
theorem enc_app (u:List UInt8) (r:Int):u.map UInt8.toNat ++ encL r=(u ++ Lib.encodeRune r).map UInt8.toNat:=by rw [List.map_append];rfl
theorem enc_len (r:Int):(Lib.encodeRune r).length≤4:=by have:=Lib.runeCells_le r;rw [Lib.runeCells_length] at this;omega
theorem quot_cases {f:Nat} {l:List Nat} {p nx r k:Nat} {u:List UInt8} {v:List Nat×Nat×Nat} {x:Int×Int×Int} (hne:l≠[]) (hd:decL l=(r,k)) (hx:escV l=x) (h:quotG (f+1) l p nx (u.map UInt8.toNat)=v) :
  (p<nx∧quotG f (l.drop k) (p+k) nx (u.map UInt8.toNat)=v) ∨
  (nx≤p∧r=34∧v=(u.map UInt8.toNat,p+1,0)) ∨
  (nx≤p∧r≠34∧r<32∧v=([],p,4)) ∨
  (nx≤p∧r=92∧x.2.2=0∧quotG f (l.drop k) (p+k) (p+x.2.1.toNat) ((u ++ Lib.encodeRune x.1).map UInt8.toNat)=v) ∨
  (nx≤p∧r=92∧x.2.2≠0∧v=([],p,x.2.2.toNat)) ∨
  (nx≤p∧r≠34∧32≤r∧r≠92∧quotG f (l.drop k) (p+k) (p+(Lib.runeLen (r:Int)).toNat) ((u ++ Lib.encodeRune (r:Int)).map UInt8.toNat)=v):=by
 have h1:(decL l).1=r:=by rw [hd]
 have h2:(decL l).2=k:=by rw [hd]
 subst h1
 subst h2
 subst hx
 by_cases hp:p<nx
 ·exact .inl ⟨hp,by rw [←quotG_skip hne hp];exact h⟩
 ·by_cases h34:(decL l).1=34
  ·exact .inr (.inl ⟨by omega,h34,by rw [←quotG_quote hne hp h34];exact h.symm⟩)
  ·by_cases h32:(decL l).1<32
   ·exact .inr (.inr (.inl ⟨by omega,h34,h32,by rw [←quotG_low hne hp h34 h32];exact h.symm⟩))
   ·by_cases h92:(decL l).1=92
    ·by_cases he:(escV l).2.2=0
     ·refine .inr (.inr (.inr (.inl ⟨by omega,h92,he,?_⟩)))
      rw [←h,quotG_esc hne hp h92 he,enc_app]
     ·exact .inr (.inr (.inr (.inr (.inl ⟨by omega,h92,he,by rw [←quotG_bad hne hp h92 he];exact h.symm⟩))))
    ·refine .inr (.inr (.inr (.inr (.inr ⟨by omega,h34,by omega,h92,?_⟩))))
     rw [←h,quotG_rune hne hp h34 h32 h92,enc_app]
theorem esc_h (s:List Nat) (hs:By s):Hid (∀w,Calls Tryz.prog 69 #[.string (mks s)] w (EscR w (escV s))):=fun w=>escape_any s hs w
theorem bldAt_below {B b:Nat} {p:Value} {bs:List Value} {W W':World} (h:Lib.BuilderAtF 110 5 B b p bs W) (hb:Below W.heap.size W W'):Lib.BuilderAtF 110 5 B b p bs W':=by
 obtain⟨hB,v,hk,hown,hne⟩:=h
 refine⟨hB,v,(hb.block b (Array.getElem?_eq_some_iff.1 hk).1).trans hk,?_,hne⟩
 refine hown.kept (row:=none) ⟨hb.os,hb.tape,hb.output,hb.size,fun k hk _=>hb.block k hk⟩ ?_
 cases v.ownBlock with
 | none=>exact .inl rfl
 | some g=>exact .inr (by simp)
theorem bld_below {B b:Nat} {bs:List Value} {W W':World} (h:BldF B b bs W) (hb:Below W.heap.size W W'):BldF B b bs W':=h.imp (fun h=>bldAt_below h hb) (fun h=>bldAt_below h hb)
theorem bytes_app (u:List UInt8) (r:Int):Lib.byteCells u ++ Lib.runeCells r=Lib.byteCells (u ++ Lib.encodeRune r):=by rw [Lib.byteCells_append,Lib.byteCells_encodeRune]
def QuotR (w:World) (x:List Nat×Nat×Nat) (e:Ending) (w':World):Prop:=e=.returned (.tuple #[.string (mks x.1),.int .i64 (x.2.1:Int),.int .i64 (x.2.2:Int)])∧Below w.heap.size w w'
def QuotI (l:List Nat) (v:List Nat×Nat×Nat) (w:World) (pos nx:Nat) (u:List UInt8) (wr:World):Prop:=
 ∃fuel,BldF w.heap.size w.heap.size (Lib.byteCells u) wr∧wr.heap[w.heap.size+1]? = some (.stringIter (mks l) pos)∧Below w.heap.size w wr∧quotG fuel (l.drop pos) pos nx (u.map UInt8.toNat)=v ∧
  l.length≤pos+fuel∧u.length≤4*pos∧nx≤pos+12∧pos≤l.length
set_option maxRecDepth 20000 in
set_option maxHeartbeats 4000000 in
theorem quoted_any (l:List Nat) (hl:By l) (hlen:l.length<4294967296) (w:World):Calls Tryz.prog 48 #[.string (mks l)] w (QuotR w (quotV l)):=by
 generalize hv:quotV l=v
 have HV:Hid (quotG l.length (l.drop 0) 0 1 []=v):=hv
 clear hv
 go_enter Tryz.func48,Tryz.ntmps48
 go_wp2
 go_loopw [6] (fun nv wr=>∃pos nx u,nv=.int .i64 ((nx:Nat):Int)∧QuotI l v w pos nx u wr) (fun _ wr=>l.length - wr.iterPos (w.heap.size+1))
 case atStart=>
  refine⟨0,1,[],rfl,l.length,(Lib.IsBuilderF.of (Lib.fresh_isBuilder 110 5 w)).alloc _,?_,((Below.refl _ w).alloc (Nat.le_refl _) _).alloc (by simp) _,HV.out,by omega,by simp,by omega,by omega⟩
  have:=World.iter_heap (w.alloc (.cells #[.pointer none,.slice none 0 0] 110)) (mks l) 0
  simpa using this
 case round=>
  obtain⟨pos,nx,u,rfl,fuel,hI,hit,hbw,hq,hfu,hal,hnx,hpl⟩:=hrel
  have HQ:=Lib.hid hq
  clear hq
  have hsz:w.heap.size+1<wr.heap.size:=(Array.getElem?_eq_some_iff.1 hit).1
  by_cases hp:pos<l.length
  ·have hne:l.drop pos≠[]:=by intro h;have:=congrArg List.length h;simp at this;omega
   have hnx0:∀ty,(Instr.next (.pointer (some ⟨w.heap.size+1,0,none⟩)) true ty).run Tryz.prog wr=_:=fun ty=>Lib.run_next_any_at wr (w.heap.size+1) (mks l) pos ty hit (by rw [size_mks];exact hp)
   rw [decode_drop] at hnx0
   obtain⟨f,rfl⟩:∃f,fuel=f+1:=⟨fuel - 1,by omega⟩
   have hd:=decL_bd (l.drop pos)
   have hrl:=runeLen_dec (l.drop pos)
   have hxb:=escV_len (l.drop pos)
   have DE:=esc_h (l.drop pos) (hl.drop pos)
   have hkl:(decL (l.drop pos)).2≤(l.drop pos).length:=by
    have:=Lib.decodeL_le (u8s (l.drop pos)) (by intro h;exact hne (List.map_eq_nil_iff.1 h))
    rw [show(u8s (l.drop pos)).length=(l.drop pos).length by unfold u8s;rw [List.length_map]] at this
    exact this
   rw [List.length_drop] at hkl
   have hq2:=HQ.out
   clear HQ
   generalize hdd:decL (l.drop pos)=d at *
   obtain⟨r,k⟩:=d
   generalize hxx:escV (l.drop pos)=x at *
   obtain⟨xr,xn,xe⟩:=x
   have hcases:=quot_cases hne hdd hxx hq2
   rw [List.drop_drop] at hcases
   clear hq2 hdd hxx hne
   simp only at hd hrl hxb hkl hcases hnx0
   have DR:=runeLen_h (r:Int)
   have hrb:=runeLen_bd (r:Int)
   have HNX:=Lib.hid hnx0
   have hI2:=hI.iterAt hit (pos+k)
   have hit2:=Lib.iterAt_heap wr (w.heap.size+1) (mks l) pos (pos+k) hit
   have hbw2:=Lib.below_iterAt hbw (k:=w.heap.size+1) (by omega) (mks l) (pos+k)
   have hsz2:w.heap.size+1<(wr.iterAt (w.heap.size+1) (mks l) (pos+k)).heap.size:=by rw [Lib.iterAt_size];exact hsz
   have HIT2:=Lib.hid hit2
   clear hit2 hI hbw
   rcases hcases with⟨hlt,hq⟩ | ⟨hlt,rfl,hq⟩ | ⟨hlt,h34,h32,hq⟩ | ⟨hlt,rfl,he,hq⟩ | ⟨hlt,rfl,he,hq⟩ | ⟨hlt,h34,h32,h92,hq⟩
   ·have HQ:=Lib.hid hq
    clear hq HNX
    go_wp2
    go_roundw
    case rel=>exact⟨pos+k,nx,u,rfl,f,hI2,HIT2.out,hbw2,HQ.out,by omega,by omega,by omega,by omega⟩
    case measure=>
     simp only [World.iterPos,HIT2.out,hit]
     omega
   ·have DR:Hid (∀w,Calls Tryz.prog 67 #[.int .i32 34] w fun e w'=>e=.returned (.int .i64 1)∧w=w'):=runeLen_h 34
    have HQ:=Lib.hid hq
    clear hq HNX
    go_wp2_with (first | (go_at_call 67;((with_reducible refine(DR.out _).mono ?_));rintro e wn ⟨rfl,rfl⟩) | (go_at_call 68;go_loud (refine(Tryz.Builder_String_any_k w.heap.size w.heap.size u _ hI2 (by omega)).mono ?_;rintro e w5 ⟨rfl,hb5,hb6,hb7⟩)))
    go_ret3
    have h:=HQ.out
    subst h
    exact⟨by rw [mks_u8];rfl,hbw2.trans hb6⟩
   ·have h34':((r:Int) == 34)=false:=by simp;omega
    have h32':(r:Int)<32:=by omega
    have HQ:=Lib.hid hq
    clear hq HNX h34
    go_wp2_with (go_at_call 67;((with_reducible refine(DR.out _).mono ?_));rintro e wn ⟨rfl,rfl⟩)
    go_ret3
    have h:=HQ.out
    subst h
    exact⟨rfl,hbw2⟩
   ·have DR:Hid (∀w,Calls Tryz.prog 67 #[.int .i32 92] w fun e w'=>e=.returned (.int .i64 1)∧w=w'):=runeLen_h 92
    have HQ:=Lib.hid hq
    subst he
    clear hq HNX
    go_wp2_with (first | (go_at_call 67;((with_reducible refine(DR.out _).mono ?_));rintro e wn ⟨rfl,rfl⟩) | (go_at_call 69;((with_reducible refine(DE.out _).mono ?_));rintro e w5 ⟨rfl,hb5⟩;have hz5:=hb5.size;have hI5:=bld_below hI2 hb5) | (go_at_call 70;go_loud (refine(writeRune_any w.heap.size w.heap.size _ xr (by omega) (by omega) _ hI5 (by rw [Lib.byteCells_length];omega) (by omega)).mono ?_;rintro e w6 ⟨rfl,hb6,hb7,hb8⟩)))
    have hit5:=(hb5.block _ hsz2).trans HIT2.out
    have hit6:=hb8.iter hit5 (by omega)
    go_roundw
    case rel=>
     refine⟨pos+k,pos+xn.toNat,u ++ Lib.encodeRune xr,i64e (by omega),f,?_,hit6,(hbw2.trans (hb5.mono (by omega))).trans hb7,HQ.out,by omega,?_,by omega,by omega⟩
     ·rw [←bytes_app];exact Or.inr hb6
     ·have:=enc_len xr;rw [List.length_append];omega
    case measure=>
     simp only [World.iterPos,hit6,hit]
     omega
   ·have DR:Hid (∀w,Calls Tryz.prog 67 #[.int .i32 92] w fun e w'=>e=.returned (.int .i64 1)∧w=w'):=runeLen_h 92
    have HQ:=Lib.hid hq
    have he':(xe != 0)=true:=by simp;omega
    clear hq HNX he
    go_wp2_with (first | (go_at_call 67;((with_reducible refine(DR.out _).mono ?_));rintro e wn ⟨rfl,rfl⟩) | (go_at_call 69;((with_reducible refine(DE.out _).mono ?_));rintro e w5 ⟨rfl,hb5⟩;have hz5:=hb5.size))
    go_ret3
    have h:=HQ.out
    subst h
    exact⟨by simp only;rw [Int.toNat_of_nonneg (by omega)];rfl,hbw2.trans (hb5.mono (by omega))⟩
   ·have h34':((r:Int) == 34)=false:=by simp;omega
    have h32':¬(r:Int)<32:=by omega
    have h92':((r:Int) == 92)=false:=by simp;omega
    have HQ:=Lib.hid hq
    clear hq HNX h34 h92
    go_wp2_with (first | (go_at_call 67;((with_reducible refine(DR.out _).mono ?_));rintro e wn ⟨rfl,rfl⟩) | (go_at_call 70;go_loud (refine(writeRune_any w.heap.size w.heap.size _ (r:Int) (by omega) (by omega) _ hI2 (by rw [Lib.byteCells_length];omega) (by omega)).mono ?_;rintro e w6 ⟨rfl,hb6,hb7,hb8⟩)))
    have hit6:=hb8.iter HIT2.out (by omega)
    go_roundw
    case rel=>
     refine⟨pos+k,pos+(Lib.runeLen (r:Int)).toNat,u ++ Lib.encodeRune (r:Int),i64e (by omega),f,?_,hit6,hbw2.trans hb7,HQ.out,by omega,?_,by omega,by omega⟩
     ·rw [←bytes_app];exact Or.inr hb6
     ·have:=enc_len (r:Int);rw [List.length_append];omega
    case measure=>
     simp only [World.iterPos,hit6,hit]
     omega
  ·have hnx0:∀ty,(Instr.next (.pointer (some ⟨w.heap.size+1,0,none⟩)) true ty).run Tryz.prog wr=_:=fun ty=>Lib.run_next_end_at wr (w.heap.size+1) (mks l) pos ty hit (by rw [size_mks];exact hp)
   have hd:l.drop pos = []:=List.drop_eq_nil_of_le (by omega)
   rw [hd,quotG_end] at HQ
   clear hd
   go_wp2
   go_ret3
   have h:=HQ.out
   subst h
   exact⟨rfl,hbw⟩
end Go.Proofs.YtijoollonkibfaaGreatDoor
