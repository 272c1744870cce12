/- Plain laws: a string that is read byte by byte (the reference) is the string that is read rune by rune, if the source is valid UTF-8. -/
import Derived.Test.YtgbkbgiogdhnaaaGreatDoorMCh
import Derived.Test.YtgbkbgiogdhnaaaGreatDoorMBf
import Derived.Test.YtgbkbgiogdhnaaaGreatDoorMAd
import Derived.Test.YtgbkbgiogdhnaaaGreatDoorMCg
import Derived.Test.YtgbkbgiogdhnaaaGreatDoorMAh
import Derived.Test.YtgbkbgiogdhnaaaGreatDoorShelf
import Derived.Deep.QuietTactic
import Derived.BigQuiet
set_option linter.unusedVariables false
set_option linter.unusedSimpArgs false
set_option linter.defProp false
set_option linter.constructorNameAsVariable false
namespace Go.Proofs.YtgbkbgiogdhnaaaGreatDoor
open Go.RowKit
def VU (l:List Nat):Prop:=checkG l.length 0 l=none
theorem VU.nil:VU []:=checkG_end
theorem VU.step {l:List Nat} (h:VU l) (hne:l≠[]):decL l≠(65533,1)∧VU (l.drop (decL l).2):=by
 unfold VU at h
 have hp:=List.length_pos_iff.2 hne
 obtain⟨n,hn⟩:∃n,l.length=n+1:=⟨l.length - 1,by omega⟩
 rw [hn] at h
 obtain⟨h1,h2⟩:=checkG_step hne h
 exact⟨h1,check_gen h2 (by rw [List.length_drop];have:=(decL_bd l).2;omega) (Nat.le_refl _)⟩
theorem VU.tail {c:Nat} {l:List Nat} (h:VU (c :: l)) (hc:c<128):VU l:=by
 unfold VU at h
 rw [List.length_cons,check_ascii hc] at h
 exact check_gen h (Nat.le_refl _) (Nat.le_refl _)
theorem VU.split:∀(n:Nat) (r x:List Nat),r.length≤n→VU (r ++ x)→x.getD 0 0<128→VU x:=by
 intro n
 induction n with
 | zero=>
  intro r x hr h _
  obtain rfl:r = []:=List.eq_nil_of_length_eq_zero (by omega)
  exact h
 | succ n ih=>
  intro r x hr h hx
  by_cases hne:r = []
  ·subst hne;exact h
  ·obtain⟨_,h2⟩:=h.step (by simp [hne])
   obtain⟨_,hk⟩:=decL_local hne hx hx
   have hk1:=(decL_bd (r ++ x)).2
   rw [List.drop_append_of_le_length hk] at h2
   exact ih _ _ (by rw [List.length_drop];omega) h2 hx
theorem VU.drop {l:List Nat} (h:VU l) (n:Nat) (hn:(l.drop n).getD 0 0<128):VU (l.drop n):=
 VU.split _ (l.take n) (l.drop n) (Nat.le_refl _) (by rw [List.take_append_drop];exact h) hn
theorem getD_drop (l:List Nat) (n:Nat):(l.drop n).getD 0 0=l.getD n 0:=by simp [List.getD_eq_getElem?_getD]
theorem decL_ascii {c:Nat} (t:List Nat) (hc:c<128):decL (c :: t)=(c,1):=by
 rw [decL_N]
 have:(c :: t).getD 0 0 % 256=c:=by show c % 256=c;omega
 rw [this,Lib.decodeN_ascii _ _ _ _ _ hc]
end Go.Proofs.YtgbkbgiogdhnaaaGreatDoor
namespace Go.Proofs.YtgbkbgiogdhnaaaGreatDoor
open Go.RowKit
def Off (a b:Nat):Prop:=b=a∨b=a+9
def TokR9 (t t':JTok):Prop:=t'.kind=t.kind∧t'.text=t.text∧Off t.from_ t'.from_
inductive Toks9:List JTok→List JTok→Prop
 | nil:Toks9 [] []
 | cons {t t':JTok} {l l':List JTok} (h:TokR9 t t') (k:Toks9 l l'):Toks9 (t :: l) (t' :: l')
theorem Toks9.refl:∀l:List JTok,Toks9 l l
 | []=>.nil
 | _ :: l=>.cons ⟨rfl,rfl,.inl rfl⟩ (Toks9.refl l)
theorem Toks9.app {a a' b b':List JTok} (h:Toks9 a a') (k:Toks9 b b'):Toks9 (a ++ b) (a' ++ b'):=by
 induction h with
 | nil=>exact k
 | cons h1 _ ih=>exact .cons h1 ih
theorem Toks9.len {a b:List JTok} (h:Toks9 a b):b.length=a.length:=by
 induction h with
 | nil=>rfl
 | cons _ _ ih=>simp [ih]
end Go.Proofs.YtgbkbgiogdhnaaaGreatDoor
namespace Go.Proofs.YtgbkbgiogdhnaaaGreatDoor
open Go.RowKit
theorem By.taken {l:List Nat} (h:By l) (n:Nat):By (l.take n):=fun c hc=>h c (List.mem_of_mem_take hc)
def NB (L:Nat) (l:List GNode):Prop:=∀nd∈l,nd.keys.length≤L∧nd.items.length≤L
theorem NB.snoc {L:Nat} {l:List GNode} (h:NB L l) (nd:GNode) (hk:nd.keys = []) (hi:nd.items = []):NB L (l ++ [nd]):=fun x hx=>by
 rcases List.mem_append.1 hx with h1 | h1
 ·exact h x h1
 ·obtain rfl:=List.mem_singleton.1 h1
  rw [hk,hi];simp
end Go.Proofs.YtgbkbgiogdhnaaaGreatDoor
namespace Go.Proofs.YtgbkbgiogdhnaaaGreatDoor
open Go.RowKit
theorem VU.after {l:List Nat} (h:VU l) {n:Nat} (h1:1≤n) (hn:n≤l.length) (hc:l.getD (n - 1) 0<128):VU (l.drop n):=by
 have h2:=h.drop (n - 1) (by rw [getD_drop];exact hc)
 obtain⟨c,hx⟩:∃c,l[n - 1]? = some c:=⟨_,List.getElem?_eq_getElem (by omega)⟩
 rw [drop_cons hx] at h2
 rw [List.getD_eq_getElem?_getD,hx] at hc
 have h3:=h2.tail hc
 rwa [show n - 1+1=n by omega] at h3
end Go.Proofs.YtgbkbgiogdhnaaaGreatDoor
namespace Go.Proofs.YtgbkbgiogdhnaaaGreatDoor
open Go.RowKit
def encR (n:Nat):List Nat:=
 if n<128 then [n] else if n<2048 then [192+n / 64,128+n % 64] else if n<65536 then [224+n / 4096,128+n / 64 % 64,128+n % 64]
 else [240+n / 262144,128+n / 4096 % 64,128+n / 64 % 64,128+n % 64]
theorem encR_eq (n:Nat) (h:n≤1114111) (hs:n<55296∨57343<n):encR n=encL (n:Int):=by
 have hb:∀x:Int,0≤x→x<256→(x.toNat.toUInt8).toNat=x.toNat:=fun x h0 h1=>by simp;omega
 unfold encR encL Lib.encodeRune
 by_cases h1:n<128
 ·rw [if_pos h1,Lib.encodeRuneZ_one (by omega) (by omega)]
  simp only [List.map_cons,List.map_nil]
  rw [hb _ (by omega) (by omega)]
  simp
 rw [if_neg h1]
 by_cases h2:n<2048
 ·rw [if_pos h2,Lib.encodeRuneZ_two (by omega) (by omega)]
  simp only [List.map_cons,List.map_nil]
  rw [hb _ (by omega) (by omega),hb _ (by omega) (by omega)]
  simp only [List.cons.injEq,and_true]
  omega
 rw [if_neg h2]
 by_cases h3:n<65536
 ·rw [if_pos h3,Lib.encodeRuneZ_three (by omega)]
  simp only [List.map_cons,List.map_nil]
  rw [hb _ (by omega) (by omega),hb _ (by omega) (by omega),hb _ (by omega) (by omega)]
  simp only [List.cons.injEq,and_true]
  omega
 rw [if_neg h3,Lib.encodeRuneZ_four (by omega) (by omega)]
 simp only [List.map_cons,List.map_nil]
 rw [hb _ (by omega) (by omega),hb _ (by omega) (by omega),hb _ (by omega) (by omega),hb _ (by omega) (by omega)]
 simp only [List.cons.injEq,and_true]
 omega
end Go.Proofs.YtgbkbgiogdhnaaaGreatDoor
namespace Go.Proofs.YtgbkbgiogdhnaaaGreatDoor
open Go.RowKit
set_option maxHeartbeats 1000000 in
theorem decN_more {n n' b0 b1 b2 b3 c1 c2 c3:Nat} (h:Lib.decodeN n b0 b1 b2 b3≠(65533,1)) (hn:n≤n') (h1:1<n→c1=b1) (h2:2<n→c2=b2) (h3:3<n→c3=b3):Lib.decodeN n' b0 c1 c2 c3=Lib.decodeN n b0 b1 b2 b3:=by
 by_cases a0:b0<128
 ·rw [Lib.decodeN_ascii _ _ _ _ _ a0,Lib.decodeN_ascii _ _ _ _ _ a0]
 unfold Lib.decodeN at h ⊢
 rw [if_neg a0] at h ⊢
 rw [if_neg a0]
 by_cases a1:b0 / 32=6∧(1<n∧b1 / 64=2)
 ·rw [if_pos a1,h1 a1.2.1,if_pos ⟨a1.1,by omega,a1.2.2⟩]
 rw [if_neg a1] at h ⊢
 by_cases a2:b0 / 16=14∧(1<n∧b1 / 64=2)∧(2<n∧b2 / 64=2)
 ·rw [if_pos a2,h1 a2.2.1.1,h2 a2.2.2.1,if_neg (fun e=>by omega),if_pos ⟨a2.1,⟨by omega,a2.2.1.2⟩,by omega,a2.2.2.2⟩]
 rw [if_neg a2] at h ⊢
 by_cases a3:b0 / 8=30∧(1<n∧b1 / 64=2)∧(2<n∧b2 / 64=2)∧(3<n∧b3 / 64=2)
 ·rw [if_pos a3,h1 a3.2.1.1,h2 a3.2.2.1.1,h3 a3.2.2.2.1,if_neg (fun e=>by omega),if_neg (fun e=>by omega),if_pos ⟨a3.1,⟨by omega,a3.2.1.2⟩,⟨by omega,a3.2.2.1.2⟩,by omega,a3.2.2.2.2⟩]
 rw [if_neg a3] at h
 exact absurd rfl h
theorem getD_app_n {l:List Nat} (m:List Nat) {i:Nat} (h:i<l.length):(l ++ m).getD i 0=l.getD i 0:=by
 rw [List.getD_eq_getElem?_getD,List.getD_eq_getElem?_getD,List.getElem?_append_left h]
theorem decL_more {l:List Nat} (m:List Nat) (hne:l≠[]) (h:decL l≠(65533,1)):decL (l ++ m)=decL l:=by
 have hp:=List.length_pos_iff.2 hne
 rw [decL_N] at h
 rw [decL_N,decL_N,getD_app_n m hp]
 exact decN_more h (by rw [List.length_append];omega) (fun h1=>by rw [getD_app_n m h1]) (fun h1=>by rw [getD_app_n m h1]) (fun h1=>by rw [getD_app_n m h1])
theorem VU.cons_step {l:List Nat} (hne:l≠[]) (h:decL l≠(65533,1)) (hv:VU (l.drop (decL l).2)):VU l:=by
 have hp:=List.length_pos_iff.2 hne
 unfold VU at hv ⊢
 obtain⟨n,hn⟩:∃n,l.length=n+1:=⟨l.length - 1,by omega⟩
 rw [hn,checkG,if_neg hne,if_neg h]
 exact check_gen hv (Nat.le_refl _) (by rw [List.length_drop];have:=(decL_bd l).2;omega)
theorem VU.app (m:List Nat) (hm:VU m):∀(n:Nat) (l:List Nat),l.length≤n→VU l→VU (l ++ m):=by
 intro n
 induction n with
 | zero=>intro l h _;rw [List.eq_nil_of_length_eq_zero (by omega:l.length=0)];exact hm
 | succ n ih=>
  intro l hl h
  by_cases hne:l = []
  ·subst hne;exact hm
  obtain⟨h1,h2⟩:=h.step hne
  have hd:=decL_more m hne h1
  refine VU.cons_step (by simp [hne]) (by rw [hd];exact h1) ?_
  rw [hd,List.drop_append_of_le_length (decL_le l hne)]
  exact ih _ (by rw [List.length_drop];have:=(decL_bd l).2;have:=List.length_pos_iff.2 hne;omega) h2
theorem decN_2 {b0 b1 n k:Nat} (hk:1<k) (e0:b0=192+n / 64) (e1:b1=128+n % 64) (h1:128≤n) (h2:n<2048) (x y:Nat):Lib.decodeN k b0 b1 x y=(n,2):=by
 unfold Lib.decodeN
 rw [if_neg (by omega),if_pos ⟨by omega,hk,by omega⟩,if_pos (by omega)]
 have:b0 % 32*64+b1 % 64=n:=by omega
 rw [this]
theorem decN_3 {b0 b1 b2 n k:Nat} (hk:2<k) (e0:b0=224+n / 4096) (e1:b1=128+n / 64 % 64) (e2:b2=128+n % 64) (h1:2048≤n) (h2:n<65536) (hs:n<55296∨57343<n) (y:Nat):Lib.decodeN k b0 b1 b2 y=(n,3):=by
 have this:b0 % 16*4096+b1 % 64*64+b2 % 64=n:=by omega
 unfold Lib.decodeN
 rw [if_neg (by omega),if_neg (fun e=>by omega),if_pos ⟨by omega,⟨by omega,by omega⟩,hk,by omega⟩,this,if_pos (by omega)]
theorem decN_4 {b0 b1 b2 b3 n k:Nat} (hk:3<k) (e0:b0=240+n / 262144) (e1:b1=128+n / 4096 % 64) (e2:b2=128+n / 64 % 64) (e3:b3=128+n % 64) (h1:65536≤n) (h2:n≤1114111):Lib.decodeN k b0 b1 b2 b3=(n,4):=by
 have this:b0 % 8*262144+b1 % 64*4096+b2 % 64*64+b3 % 64=n:=by omega
 unfold Lib.decodeN
 rw [if_neg (by omega),if_neg (fun e=>by omega),if_neg (fun e=>by omega),if_pos ⟨by omega,⟨by omega,by omega⟩,⟨by omega,by omega⟩,hk,by omega⟩,this,if_pos (by omega)]
theorem VU.enc {n:Nat} (h:n≤1114111) (hs:n<55296∨57343<n):VU (encL (n:Int)):=by
 rw [←encR_eq n h hs]
 have fin:∀(l:List Nat) (k:Nat),l≠[]→decL l=(n,k)→k≠1→l.length=k→VU l:=fun l k h1 h2 h3 h4=>by
  refine VU.cons_step h1 (by rw [h2];intro e;injection e with _ e;exact h3 e) ?_
  rw [h2,List.drop_of_length_le (by show l.length≤k;omega)]
  exact VU.nil
 unfold encR
 split
 ·rename_i h1
  refine VU.cons_step (by simp) (by rw [decL_ascii _ h1];intro e;injection e with e;omega) ?_
  rw [decL_ascii _ h1]
  exact VU.nil
 split
 ·refine fin _ 2 (by simp) ?_ (by omega) rfl
  rw [decL_N]
  exact decN_2 (n:=n) (by simp) (by simp;omega) (by simp;omega) (by omega) (by omega) _ _
 split
 ·refine fin _ 3 (by simp) ?_ (by omega) rfl
  rw [decL_N]
  exact decN_3 (n:=n) (by simp) (by simp;omega) (by simp;omega) (by simp;omega) (by omega) (by omega) hs _
 ·refine fin _ 4 (by simp) ?_ (by omega) rfl
  rw [decL_N]
  exact decN_4 (n:=n) (by simp) (by simp;omega) (by simp;omega) (by simp;omega) (by simp;omega) (by omega) h
end Go.Proofs.YtgbkbgiogdhnaaaGreatDoor
namespace Go.Proofs.YtgbkbgiogdhnaaaGreatDoor
open Go.RowKit
end Go.Proofs.YtgbkbgiogdhnaaaGreatDoor
namespace Go.Proofs.YtgbkbgiogdhnaaaGreatDoor
open Go.RowKit
theorem VU.ascii {m:List Nat} (h:∀c∈m,c<128) {y:List Nat} (hy:VU y):VU (m ++ y):=by
 induction m with
 | nil=>exact hy
 | cons c m ih=>
  have hd:=decL_ascii (m ++ y) (h c (by simp))
  refine VU.cons_step (by simp) ?_ ?_
  ·rw [List.cons_append,hd];intro e;have:=(Prod.mk.inj e).1;have:=h c (by simp);omega
  ·rw [List.cons_append,hd]
   exact ih (fun x hx=>h x (by simp [hx]))
/-! The lengths of the quoted forms of repeated bytes. -/
theorem escL_rep (c k:Nat):(escL (List.replicate k c)).length=k*(escB c).length:=by
 induction k with
 | zero=>simp [escL_nil]
 | succ k ih=>rw [List.replicate_succ,escL_cons,List.length_append,ih,Nat.succ_mul,Nat.add_comm]
theorem quote_x (k:Nat):(quoteV (List.replicate k 120)).length=k+2:=by
 rw [quote_len,escL_rep]
 show k*1+2=_
 omega
theorem quote_nl (k:Nat):(quoteV (List.replicate k 10)).length=2*k+2:=by
 rw [quote_len,escL_rep]
 show k*2+2=_
 omega
theorem vu_rep {c:Nat} (hc:c<128) (k:Nat):VU (List.replicate k c):=by
 have:=VU.ascii (m:=List.replicate k c) (fun x hx=>by rw [List.eq_of_mem_replicate hx];exact hc) VU.nil
 rwa [List.append_nil] at this
theorem by_rep {c:Nat} (hc:c<256) (k:Nat):By (List.replicate k c):=fun x hx=>by rw [List.eq_of_mem_replicate hx];exact hc
end Go.Proofs.YtgbkbgiogdhnaaaGreatDoor
namespace Go.Proofs.YtgbkbgiogdhnaaaGreatDoor
open Go.RowKit
def gapV (lit:Bool) (op:Nat):List Nat:=if lit then [] else 10 :: List.replicate (2*op) 32
def sepV (lit:Bool) (k:Nat):List Nat:=if k=0 then [] else if lit then [44,32] else [44]
def keyV2 (nodes:List GNode) (nd:GNode) (i:Int):List Nat:=if nd.kind=10 then quoteV (ndAt nodes (nd.keys.getD i.toNat 0).toNat).text ++ [58,32] else []
def itemsP (v:Int→Except Int (List Nat)) (nodes:List GNode) (nd:GNode) (lit:Bool) (op:Nat):List Int→Nat→Except Int (List Nat)
 | [],_=>.ok []
 | i :: r,k=>match v (nd.items.getD i.toNat 0) with
  | .error e=>.error e
  | .ok x=>match itemsP v nodes nd lit op r (k+1) with
   | .error e=>.error e
   | .ok y=>.ok (sepV lit k ++ gapV lit (op+1) ++ keyV2 nodes nd i ++ x ++ y)
def contP (v:Int→Except Int (List Nat)) (nodes:List GNode) (nd:GNode) (lit:Bool) (op:Nat) (order:List Int) (a b:Nat):Except Int (List Nat):=
 match itemsP v nodes nd lit op order 0 with
 | .error e=>.error e
 | .ok x=>.ok ([a] ++ x ++ (if order = [] then [] else gapV lit op) ++ [b])
def printP (nodes:List GNode) (dec:List Nat→List Nat) (ordr:Nat→List Int) (lit:Bool):Nat→Int→Nat→Except Int (List Nat)
 | 0,_,_=>.error 0
 | f+1,a,op=>
  let nd:=ndAt nodes a.toNat
  if nd.kind=0 then .ok [110,117,108,108]
  else if nd.kind=1∨nd.kind=2 then .ok nd.text
  else if nd.kind=3 then .ok (dec nd.text)
  else if nd.kind=5 then .ok (quoteV nd.text)
  else if nd.kind=9 then contP (fun i=>printP nodes dec ordr lit f i (op+1)) nodes nd lit op (ordr a.toNat) 91 93
  else if nd.kind=10∧nd.ord=false then
   (if nd.keys.any (fun k=>decide ((ndAt nodes k.toNat).kind≠5)) then .error 16 else contP (fun i=>printP nodes dec ordr lit f i (op+1)) nodes nd lit op (ordr a.toNat) 123 125)
  else .error 10
end Go.Proofs.YtgbkbgiogdhnaaaGreatDoor
namespace Go.Proofs.YtgbkbgiogdhnaaaGreatDoor
open Go.RowKit
def sp128:ByteArray:=⟨#[32,32,32,32,32,32,32,32,32,32,32,32,32,32,32,32,32,32,32,32,32,32,32,32,32,32,32,32,32,32,32,32,32,32,32,32,32,32,32,32,32,32,32,32,32,32,32,32,32,32,32,32,32,32,32,32,32,32,32,32,32,32,32,32,32,32,32,32,32,32,32,32,32,32,32,32,32,32,32,32,32,32,32,32,32,32,32,32,32,32,32,32,32,32,32,32,32,32,32,32,32,32,32,32,32,32,32,32,32,32,32,32,32,32,32,32,32,32,32,32,32,32,32,32,32,32,32,32]⟩
theorem sp_pre:Lib.hasPrefix sp128.data.toList (⟨#[32,32]⟩:ByteArray).data.toList=true:=by kernel_rfl
theorem mul_four (w:World):Calls Tryz.prog 13 #[.int .u64 2,.int .u64 2] w fun e w'=>e=.returned (.tuple #[.int .u64 0,.int .u64 4])∧w=w':=
 (Tryz.bits_Mul 2 2 (by omega) (by omega) w).mono fun _ _ ⟨h1,h2⟩=>⟨h1,h2.symm⟩
set_option maxRecDepth 100000 in
set_option maxHeartbeats 4000000 in
theorem repeat_two (w:World):Calls Tryz.prog 5 #[.string ⟨#[32,32]⟩,.int .i64 2] w fun e w'=>e=.returned (.string ⟨#[32,32,32,32]⟩)∧w=w':=by
 have hM:=Lib.hid (mul_four w)
 have hP:=Lib.hid (Tryz.strings_HasPrefix sp128 ⟨#[32,32]⟩ w)
 rw [sp_pre] at hP
 unfold sp128 at hP
 go_enter Tryz.func5,Tryz.ntmps5
 go_upto_region 9 with(go_at_call 13;((with_reducible refine hM.out.mono ?_));rintro e w5 ⟨rfl,rfl⟩)
 go_upto_region 20 with(fail)
 go_upto_region 21 with(go_at_call 14;((with_reducible refine hP.out.mono ?_));rintro e w5 ⟨rfl,rfl⟩)
 go_wp2_with (fail)
 go_ret
 exact⟨rfl,rfl⟩
set_option maxRecDepth 100000 in
set_option maxHeartbeats 4000000 in
theorem repeat_sp (k:Nat) (hk:k≤2) (w:World):Calls Tryz.prog 5 #[.string ⟨#[32,32]⟩,.int .i64 (k:Int)] w fun e w'=>e=.returned (.string (mks (List.replicate (2*k) 32)))∧w=w':=by
 have hc:k=0∨k=1∨k=2:=by omega
 rcases hc with rfl | rfl | rfl
 ·go_enter Tryz.func5,Tryz.ntmps5
  go_wp2_with (fail)
  go_ret
  exact⟨rfl,rfl⟩
 ·go_enter Tryz.func5,Tryz.ntmps5
  go_wp2_with (fail)
  go_ret
  exact⟨rfl,rfl⟩
 ·exact repeat_two w
theorem gap_str (op:Nat):(⟨#[10]⟩:ByteArray) ++ mks (List.replicate (2*op) 32)=mks (10 :: List.replicate (2*op) 32):=by
 show mks [10] ++ mks _=_
 rw [append_mks];rfl
set_option maxRecDepth 20000 in
set_option maxHeartbeats 8000000 in
theorem line_any (B b:Nat) (n r:Value) (lit:Bool) (op:Nat) (hop:op≤2) (xs:List Nat) (hxl:xs.length≤4294967296) (w:World) (h:PrU B b n r (.bool lit) (B8 xs) w) (hBw:B≤w.heap.size) :
  Calls Tryz.prog 113 #[.pointer (some ⟨b,0,none⟩),.int .i64 (op:Int)] w fun e w'=>e=.returned (.tuple #[])∧PrI B b n r (.bool lit) w w' (xs ++ gapV lit op):=by
 have c4:=h.cells.2.2.2
 cases lit with
 | true=>
  have hI:Hid (PrI B b n r (.bool true) w w (xs ++ gapV true op)):=by
   show PrI _ _ _ _ _ _ _ _
   rw [show gapV true op = [] from rfl,List.append_nil]
   exact⟨h,Below.refl _ _,Lib.OthersKept.refl _ _ _,hBw⟩
  clear h
  go_enter Tryz.func113,Tryz.ntmps113
  go_wp2_with (fail)
  go_end0
  exact⟨rfl,hI.out⟩
 | false=>
  have HH:=Lib.hid h
  have DR:=Lib.hid (fun w=>repeat_sp op hop w)
  have hgs:=Lib.hid (gap_str op)
  have hgb:By (10 :: List.replicate (2*op) 32):=by
   intro c hc
   rcases List.mem_cons.1 hc with rfl | hc
   ·omega
   ·have:=(List.mem_replicate.1 hc).2;omega
  have hgl:(10 :: List.replicate (2*op) 32).length≤5:=by simp;omega
  have hgv:Hid (gapV false op=10 :: List.replicate (2*op) 32):=rfl
  generalize mks (List.replicate (2*op) 32)=sp at *
  generalize 10 :: List.replicate (2*op) 32=gp at *
  clear h
  go_enter Tryz.func113,Tryz.ntmps113
  go_upto_region 1 with(fail)
  have hId:PrF B b n r (.bool false) (B8 xs) w.drew:=.inr HH.out.drew
  have hBd:B≤w.drew.heap.size:=hBw
  have HF:Hid (∀w2,PrU B b n r (.bool false) (B8 xs ++ Lib.strCells (ByteArray.mk #[10] ++ sp)) w2→Below B w.drew w2→Others b w.drew w2→PrI B b n r (.bool false) w w2 (xs ++ gapV false op)):=fun w2 h1 h2 h3=>⟨by rw [hgv.out,B8_append,←str_B8 hgb,←hgs.out];exact h1,(Below.refl B w).drew.trans h2,Lib.OthersKept.trans (Lib.OthersKept.drew (Lib.OthersKept.refl _ _ w)) h3,Nat.le_trans hBw h2.size⟩
  have hsl:(B8 xs).length+(ByteArray.mk #[10] ++ sp).size≤140737488355328:=by rw [hgs.out,size_mks,len_B8];omega
  have HSL:=Lib.hid hsl
  have hm9:¬9223372036854775807<1+sp.size:=by have h:=congrArg ByteArray.size hgs.out;rw [size_mks] at h;simp at h;omega
  clear hsl
  go_region_held3 (fun _=>True) (first | trivial | go_keep) (first | (go_at_call 5;((with_reducible refine(DR.out _).mono ?_));rintro e w3 ⟨rfl,rfl⟩) | (go_at_call 16;((with_reducible refine(pr_string B b n r (.bool false) (B8 xs) _ _ hId HSL.out hBd).mono ?_));rintro e w2 ⟨rfl,hP2,hb2,ho2⟩;have hI2:=Lib.hid (HF.out w2 hP2 hb2 ho2)))
  go_wp2_with (fail)
  go_end0
  exact⟨rfl,hI2.out⟩
end Go.Proofs.YtgbkbgiogdhnaaaGreatDoor
