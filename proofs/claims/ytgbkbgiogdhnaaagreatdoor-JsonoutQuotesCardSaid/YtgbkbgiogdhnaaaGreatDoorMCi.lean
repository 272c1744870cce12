/- Plain laws: a string that is read byte by byte (the reference) is the string that is read rune by rune, if the source is valid UTF-8. -/
import Derived.Test.YtgbkbgiogdhnaaaGreatDoorMCh
import Derived.Test.YtgbkbgiogdhnaaaGreatDoorMBf
import Derived.Test.YtgbkbgiogdhnaaaGreatDoorMAd
import Derived.Test.YtgbkbgiogdhnaaaGreatDoorMCg
import Derived.Test.YtgbkbgiogdhnaaaGreatDoorMAh
import Derived.Test.YtgbkbgiogdhnaaaGreatDoorShelf
import Derived.Deep.QuietTactic
import Derived.BigQuiet
set_option linter.unusedVariables false
set_option linter.unusedSimpArgs false
set_option linter.defProp false
set_option linter.constructorNameAsVariable false
namespace Go.Proofs.YtgbkbgiogdhnaaaGreatDoor
open Go.RowKit
def VU (l:List Nat):Prop:=checkG l.length 0 l=none
theorem VU.nil:VU []:=checkG_end
theorem VU.step {l:List Nat} (h:VU l) (hne:l≠[]):decL l≠(65533,1)∧VU (l.drop (decL l).2):=by
 unfold VU at h
 have hp:=List.length_pos_iff.2 hne
 obtain⟨n,hn⟩:∃n,l.length=n+1:=⟨l.length - 1,by omega⟩
 rw [hn] at h
 obtain⟨h1,h2⟩:=checkG_step hne h
 exact⟨h1,check_gen h2 (by rw [List.length_drop];have:=(decL_bd l).2;omega) (Nat.le_refl _)⟩
theorem VU.tail {c:Nat} {l:List Nat} (h:VU (c :: l)) (hc:c<128):VU l:=by
 unfold VU at h
 rw [List.length_cons,check_ascii hc] at h
 exact check_gen h (Nat.le_refl _) (Nat.le_refl _)
theorem VU.split:∀(n:Nat) (r x:List Nat),r.length≤n→VU (r ++ x)→x.getD 0 0<128→VU x:=by
 intro n
 induction n with
 | zero=>
  intro r x hr h _
  obtain rfl:r = []:=List.eq_nil_of_length_eq_zero (by omega)
  exact h
 | succ n ih=>
  intro r x hr h hx
  by_cases hne:r = []
  ·subst hne;exact h
  ·obtain⟨_,h2⟩:=h.step (by simp [hne])
   obtain⟨_,hk⟩:=decL_local hne hx hx
   have hk1:=(decL_bd (r ++ x)).2
   rw [List.drop_append_of_le_length hk] at h2
   exact ih _ _ (by rw [List.length_drop];omega) h2 hx
theorem VU.drop {l:List Nat} (h:VU l) (n:Nat) (hn:(l.drop n).getD 0 0<128):VU (l.drop n):=
 VU.split _ (l.take n) (l.drop n) (Nat.le_refl _) (by rw [List.take_append_drop];exact h) hn
theorem getD_drop (l:List Nat) (n:Nat):(l.drop n).getD 0 0=l.getD n 0:=by simp [List.getD_eq_getElem?_getD]
theorem VU.pass {l:List Nat} (h:VU l):∀n,(∀j,j<n→l.getD j 0<128)→n≤l.length→VU (l.drop n):=by
 intro n
 induction n with
 | zero=>intro _ _;exact h
 | succ n ih=>
  intro ha hn
  have h1:=ih (fun j hj=>ha j (by omega)) (by omega)
  obtain⟨c,hc⟩:∃c,l[n]? = some c:=⟨_,List.getElem?_eq_getElem (by omega)⟩
  rw [drop_cons hc] at h1
  have hc2:c<128:=by have:=ha n (by omega);rw [List.getD_eq_getElem?_getD,hc] at this;exact this
  exact h1.tail hc2
theorem decL_ascii {c:Nat} (t:List Nat) (hc:c<128):decL (c :: t)=(c,1):=by
 rw [decL_N]
 have:(c :: t).getD 0 0 % 256=c:=by show c % 256=c;omega
 rw [this,Lib.decodeN_ascii _ _ _ _ _ hc]
theorem u8s_back {l:List Nat} (hb:By l):(u8s l).map UInt8.toNat=l:=by
 unfold u8s
 rw [List.map_map]
 refine(List.map_congr_left fun c hc=>?_).trans (List.map_id l)
 have:=hb c hc
 simp;omega
theorem enc_dec {l:List Nat} (hb:By l) (hne:l≠[]) (hv:decL l≠(65533,1)):encL ((decL l).1:Int)=l.take (decL l).2:=by
 have h:=Lib.encode_decode (u8s l) (by intro h;exact hne (List.map_eq_nil_iff.1 h)) (fun h=>hv (by unfold decL;exact Prod.ext h.1 h.2))
 unfold encL
 show(Lib.encodeRune ((Lib.decodeL (u8s l)).1:Int)).map UInt8.toNat=_
 rw [h,List.map_take,u8s_back hb]
 rfl
theorem runeLen_len {l:List Nat} (hb:By l) (hne:l≠[]) (hv:decL l≠(65533,1)):Lib.runeLen ((decL l).1:Int)=((decL l).2:Int):=by
 by_cases h:(decL l).1=65533
 ·have he:=congrArg List.length (enc_dec hb hne hv)
  have hle:=decL_le l hne
  rw [List.length_take,h] at he
  have e3:(encL ((65533:Nat):Int)).length=3:=by decide
  rw [e3] at he
  rw [h]
  have:(decL l).2=3:=by omega
  rw [this]
  rfl
 ·exact Lib.runeLen_decode (u8s l) h
theorem decL_high {c:Nat} {t:List Nat} (hb:By (c :: t)) (hc:¬c<128) (hv:decL (c :: t)≠(65533,1)):128≤(decL (c :: t)).1∧∀x∈(c :: t).take (decL (c :: t)).2,128≤x:=by
 have hne:c :: t≠[]:=List.cons_ne_nil _ _
 have hk:=(decL_bd (c :: t)).2
 constructor
 ·rcases Nat.lt_or_ge (decL (c :: t)).1 128 with h | h
  ·exfalso
   have he:=enc_dec hb hne hv
   obtain⟨k,hk2⟩:∃k,(decL (c :: t)).2=k+1:=⟨(decL (c :: t)).2 - 1,by omega⟩
   rw [hk2,List.take_succ_cons] at he
   unfold encL Lib.encodeRune at he
   rw [Lib.encodeRuneZ_one (by omega) (by omega)] at he
   simp only [List.map_cons,List.map_nil] at he
   injection he with he _
   have:(((decL (c :: t)).1:Int).toNat.toUInt8).toNat=(decL (c :: t)).1:=by simp;omega
   omega
  ·exact h
 ·intro x hx
  obtain⟨j,hj,hxj⟩:=List.getElem_of_mem hx
  have hlt:j<(decL (c :: t)).2:=by rw [List.length_take] at hj;omega
  have hxs:(c :: t)[j]? = some x:=by
   rw [List.getElem_take] at hxj
   rw [←hxj]
   exact List.getElem?_eq_getElem _
  rcases Nat.lt_or_ge x 128 with h | h
  ·exfalso
   cases j with
   | zero=>simp at hxs;omega
   | succ j=>
    have hd:((c :: t).drop (j+1)).getD 0 0<128:=by rw [getD_drop,List.getD_eq_getElem?_getD,hxs];exact h
    have hl:=(decL_local (r:=(c :: t).take (j+1)) (by simp) hd hd).2
    rw [List.take_append_drop,List.length_take] at hl
    omega
  ·exact h
def textG:Nat→List Nat→Nat→List Nat→List Nat×Nat×Nat
 | 0,_,_,_=>([],0,4)
 | f+1,l,p,acc=>
  if l = [] then ([],0,4)
  else if l.getD 0 0=34 then (acc,p+1,0)
  else if l.getD 0 0<32 then ([],p,4)
  else if l.getD 0 0=92 then
   (if (escV l).2.2=0 then textG f (l.drop (escV l).2.1.toNat) (p+(escV l).2.1.toNat) (acc ++ encL (escV l).1) else ([],p,(escV l).2.2.toNat))
  else textG f (l.drop 1) (p+1) (acc ++ [l.getD 0 0])
theorem textG_end {f p:Nat} {acc:List Nat}:textG f [] p acc=([],0,4):=by cases f <;> simp [textG]
theorem textG_high (x:List Nat):∀(m:List Nat) (f p:Nat) (acc:List Nat),(∀c∈m,128≤c)→textG (f+m.length) (m ++ x) p acc=textG f x (p+m.length) (acc ++ m):=by
 intro m
 induction m with
 | nil=>intro f p acc _;simp
 | cons c m ih=>
  intro f p acc h
  have hc:=h c (by simp)
  rw [List.length_cons,show f+(m.length+1)=(f+m.length)+1 by omega,textG,if_neg (by simp)]
  have e:((c :: m) ++ x).getD 0 0=c:=rfl
  rw [e,if_neg (by omega),if_neg (by omega),if_neg (by omega)]
  have e2:((c :: m) ++ x).drop 1=m ++ x:=rfl
  rw [e2,ih f (p+1) (acc ++ [c]) (fun x hx=>h x (by simp [hx])),List.append_assoc,show p+1+m.length=p+(m.length+1) by omega]
  rfl
theorem hexN_ascii {l:List Nat} {n:Nat} (h:0≤hexN l n):∀c∈l,c<128:=by
 induction l generalizing n with
 | nil=>intro c hc;cases hc
 | cons c l ih=>
  unfold hexN at h
  cases hd:hexD c with
  | none=>rw [hd] at h;simp at h
  | some d=>
   rw [hd] at h
   intro x hx
   rcases List.mem_cons.1 hx with rfl | hx
   ·unfold hexD at hd
    (repeat' split at hd) <;> first | omega | cases hd
   ·exact ih h x hx
theorem unitV_ascii {s:List Nat} (h:0≤unitV s):6≤s.length∧∀j,j<6→s.getD j 0<128:=by
 have hl:=unitV_len s h
 refine⟨hl,fun j hj=>?_⟩
 unfold unitV at h
 split at h
 ·rename_i h1
  obtain⟨_,h0,h2⟩:=h1
  have ha:=hexN_ascii h
  rw [List.getD_eq_getElem?_getD]
  match j,hj with
  | 0,_=>rw [h0];decide
  | 1,_=>rw [h2];decide
  | j+2,hj=>
   obtain⟨c,hc⟩:∃c,s[j+2]? = some c:=⟨_,List.getElem?_eq_getElem (by omega)⟩
   rw [hc]
   refine ha c (List.mem_of_getElem? (i:=j) ?_)
   rw [List.getElem?_drop,List.getElem?_take,if_pos (by omega),show 2+j=j+2 by omega]
   exact hc
 ·omega
theorem escV_ascii {l:List Nat} (h0:l.getD 0 0=92) (h:(escV l).2.2=0):2≤(escV l).2.1.toNat∧(escV l).2.1.toNat≤l.length∧∀j,j<(escV l).2.1.toNat→l.getD j 0<128:=by
 unfold escV at h ⊢
 by_cases hu:unitV l<0
 ·rw [if_pos hu] at h ⊢
  by_cases hm:1<l.length∧0<meanV (l.getD 1 0)
  ·rw [if_pos hm]
   refine⟨Nat.le_refl 2,by show 2≤_;omega,fun j hj=>?_⟩
   replace hj:j<2:=hj
   match j,hj with
   | 0,_=>omega
   | 1,_=>
    have hm2:=hm.2
    unfold meanV at hm2
    (repeat' split at hm2) <;> omega
  ·rw [if_neg hm] at h;exact absurd h (by decide)
 ·rw [if_neg hu] at h ⊢
  obtain⟨h6,ha⟩:=unitV_ascii (show 0≤unitV l by omega)
  by_cases h1:unitV l<55296∨57343<unitV l
  ·rw [if_pos h1]
   exact⟨by show 2≤6;omega,h6,ha⟩
  ·rw [if_neg h1] at h ⊢
   by_cases h2:56319<unitV l∨unitV (l.drop 6)<56320∨57343<unitV (l.drop 6)
   ·rw [if_pos h2] at h;exact absurd h (by decide)
   ·rw [if_neg h2]
    obtain⟨h7,hb⟩:=unitV_ascii (show 0≤unitV (l.drop 6) by omega)
    rw [List.length_drop] at h7
    refine⟨by show 2≤12;omega,by show 12≤_;omega,fun j hj=>?_⟩
    replace hj:j<12:=hj
    by_cases hj6:j<6
    ·exact ha j hj6
    ·have:=hb (j - 6) (by omega)
     rw [List.getD_eq_getElem?_getD,List.getElem?_drop,show 6+(j - 6)=j by omega,←List.getD_eq_getElem?_getD] at this
     exact this
theorem quotG_pass (m:Nat):∀(f:Nat) (l:List Nat) (p nx:Nat) (acc:List Nat),m≤l.length→(∀j,j<m→l.getD j 0<128)→p+m=nx→quotG (f+m) l p nx acc=quotG f (l.drop m) nx nx acc:=by
 induction m with
 | zero=>
  intro f l p nx acc _ _ e
  obtain rfl:p=nx:=by omega
  rfl
 | succ m ih=>
  intro f l p nx acc hm ha e
  cases l with
  | nil=>simp at hm
  | cons c t=>
   have hc:c<128:=ha 0 (by omega)
   rw [show f+(m+1)=(f+m)+1 by omega,quotG_skip (List.cons_ne_nil _ _) (by omega),decL_ascii t hc]
   show quotG (f+m) t (p+1) nx acc=_
   rw [ih f t (p+1) nx acc (by simp at hm;omega) (fun j hj=>by have:=ha (j+1) (by omega);simpa using this) (by omega)]
   rfl
theorem quot_text (f:Nat):∀(g:Nat) (l:List Nat) (p:Nat) (acc:List Nat),By l→VU l→l.length≤f→l.length≤g→quotG f l p p acc=textG g l p acc:=by
 induction f using Nat.strongRecOn with
 | ind f ih=>
  intro g l p acc hb hv hf hg
  by_cases hne:l = []
  ·subst hne;rw [quotG_end,textG_end]
  ·have hp:=List.length_pos_iff.2 hne
   obtain⟨f,rfl⟩:∃f',f=f'+1:=⟨f - 1,by omega⟩
   obtain⟨g,rfl⟩:∃g',g=g'+1:=⟨g - 1,by omega⟩
   obtain⟨hd,hvd⟩:=hv.step hne
   obtain⟨c,t,rfl⟩:∃c t,l=c :: t:=by cases l with | nil=>exact absurd rfl hne | cons c t=>exact⟨c,t,rfl⟩
   have e0:(c :: t).getD 0 0=c:=rfl
   have hnn:¬p<p:=by omega
   simp only [List.length_cons] at hf hg
   by_cases hc:c<128
   ·have hdc:=decL_ascii t hc
    by_cases h34:c=34
    ·rw [quotG_quote hne hnn (by rw [hdc];exact h34),textG,if_neg hne,e0,if_pos h34]
    by_cases h32:c<32
    ·rw [quotG_low hne hnn (by rw [hdc];exact h34) (by rw [hdc];exact h32),textG,if_neg hne,e0,if_neg h34,if_pos h32]
    by_cases h92:c=92
    ·by_cases he:(escV (c :: t)).2.2=0
     ·obtain⟨k1,k2,k3⟩:=escV_ascii (by rw [e0];exact h92) he
      rw [quotG_esc hne hnn (by rw [hdc];exact h92) he,hdc,textG,if_neg hne,e0,if_neg h34,if_neg h32,if_pos h92,if_pos he]
      have hvp:=hv.pass _ k3 k2
      generalize escV (c :: t)=x at *
      obtain⟨m,hm⟩:∃m,x.2.1.toNat=m+1:=⟨x.2.1.toNat - 1,by omega⟩
      rw [hm] at k2 k3 hvp ⊢
      show quotG f t (p+1) (p+(m+1)) _=_
      simp only [List.length_cons] at k2
      obtain⟨f,rfl⟩:∃f',f=f'+m:=⟨f - m,by omega⟩
      rw [quotG_pass m f t (p+1) (p+(m+1)) _ (by omega) (fun j hj=>by have:=k3 (j+1) (by omega);simpa using this) (by omega)]
      exact ih f (by omega) g (t.drop m) (p+(m+1)) _ (fun x hx=>hb x (by simp [List.mem_of_mem_drop hx])) hvp (by rw [List.length_drop];omega) (by rw [List.length_drop];omega)
     ·rw [quotG_bad hne hnn (by rw [hdc];exact h92) he,textG,if_neg hne,e0,if_neg h34,if_neg h32,if_pos h92,if_neg he]
    ·rw [quotG_rune hne hnn (by rw [hdc];exact h34) (by rw [hdc];exact h32) (by rw [hdc];exact h92),runeLen_len hb hne hd,enc_dec hb hne hd,hdc,textG,if_neg hne,e0,if_neg h34,if_neg h32,if_neg h92]
     exact ih f (by omega) g t (p+1) _ (fun x hx=>hb x (by simp [hx])) (hv.tail hc) (by omega) (by omega)
   ·obtain⟨hr,hall⟩:=decL_high hb hc hd
    have hk:=(decL_bd (c :: t)).2
    have hle:=decL_le (c :: t) hne
    rw [quotG_rune hne hnn (by omega) (by omega) (by omega),runeLen_len hb hne hd,enc_dec hb hne hd]
    generalize (decL (c :: t)).2=k at *
    have hlt:((c :: t).take k).length=k:=by rw [List.length_take];omega
    simp only [List.length_cons] at hle
    obtain⟨q,hq⟩:∃q,g+1=q+k:=⟨g+1 - k,by omega⟩
    have hT:=textG_high ((c :: t).drop k) ((c :: t).take k) q p acc hall
    rw [List.take_append_drop,hlt] at hT
    rw [hq,hT,Int.toNat_natCast]
    exact ih f (by omega) q _ (p+k) _ (fun x hx=>hb x (List.mem_of_mem_drop hx)) hvd (by rw [List.length_drop,List.length_cons];omega) (by rw [List.length_drop,List.length_cons];omega)
theorem quotV_text {t:List Nat} (hb:By (34 :: t)) (hv:VU (34 :: t)):quotV (34 :: t)=textG t.length t 1 []:=by
 unfold quotV
 rw [List.length_cons,quotG_skip (List.cons_ne_nil _ _) (by omega),decL_ascii t (by omega)]
 exact quot_text t.length t.length t 1 [] (fun x hx=>hb x (by simp [hx])) (hv.tail (by omega)) (Nat.le_refl _) (Nat.le_refl _)
end Go.Proofs.YtgbkbgiogdhnaaaGreatDoor
namespace Go.Proofs.YtgbkbgiogdhnaaaGreatDoor
open Go.RowKit
def Off (a b:Nat):Prop:=b=a∨b=a+9
def TokR9 (t t':JTok):Prop:=t'.kind=t.kind∧t'.text=t.text∧Off t.from_ t'.from_
inductive Toks9:List JTok→List JTok→Prop
 | nil:Toks9 [] []
 | cons {t t':JTok} {l l':List JTok} (h:TokR9 t t') (k:Toks9 l l'):Toks9 (t :: l) (t' :: l')
theorem Toks9.refl:∀l:List JTok,Toks9 l l
 | []=>.nil
 | _ :: l=>.cons ⟨rfl,rfl,.inl rfl⟩ (Toks9.refl l)
theorem Toks9.app {a a' b b':List JTok} (h:Toks9 a a') (k:Toks9 b b'):Toks9 (a ++ b) (a' ++ b'):=by
 induction h with
 | nil=>exact k
 | cons h1 _ ih=>exact .cons h1 ih
theorem Toks9.len {a b:List JTok} (h:Toks9 a b):b.length=a.length:=by
 induction h with
 | nil=>rfl
 | cons _ _ ih=>simp [ih]
end Go.Proofs.YtgbkbgiogdhnaaaGreatDoor
namespace Go.Proofs.YtgbkbgiogdhnaaaGreatDoor
open Go.RowKit
theorem By.taken {l:List Nat} (h:By l) (n:Nat):By (l.take n):=fun c hc=>h c (List.mem_of_mem_take hc)
theorem By.dropped {l:List Nat} (h:By l) (n:Nat):By (l.drop n):=fun c hc=>h c (List.mem_of_mem_drop hc)
def NB (L:Nat) (l:List GNode):Prop:=∀nd∈l,nd.keys.length≤L∧nd.items.length≤L
theorem NB.snoc {L:Nat} {l:List GNode} (h:NB L l) (nd:GNode) (hk:nd.keys = []) (hi:nd.items = []):NB L (l ++ [nd]):=fun x hx=>by
 rcases List.mem_append.1 hx with h1 | h1
 ·exact h x h1
 ·obtain rfl:=List.mem_singleton.1 h1
  rw [hk,hi];simp
end Go.Proofs.YtgbkbgiogdhnaaaGreatDoor
namespace Go.Proofs.YtgbkbgiogdhnaaaGreatDoor
open Go.RowKit
theorem VU.after {l:List Nat} (h:VU l) {n:Nat} (h1:1≤n) (hn:n≤l.length) (hc:l.getD (n - 1) 0<128):VU (l.drop n):=by
 have h2:=h.drop (n - 1) (by rw [getD_drop];exact hc)
 obtain⟨c,hx⟩:∃c,l[n - 1]? = some c:=⟨_,List.getElem?_eq_getElem (by omega)⟩
 rw [drop_cons hx] at h2
 rw [List.getD_eq_getElem?_getD,hx] at hc
 have h3:=h2.tail hc
 rwa [show n - 1+1=n by omega] at h3
end Go.Proofs.YtgbkbgiogdhnaaaGreatDoor
namespace Go.Proofs.YtgbkbgiogdhnaaaGreatDoor
open Go.RowKit
def encR (n:Nat):List Nat:=
 if n<128 then [n] else if n<2048 then [192+n / 64,128+n % 64] else if n<65536 then [224+n / 4096,128+n / 64 % 64,128+n % 64]
 else [240+n / 262144,128+n / 4096 % 64,128+n / 64 % 64,128+n % 64]
theorem encR_eq (n:Nat) (h:n≤1114111) (hs:n<55296∨57343<n):encR n=encL (n:Int):=by
 have hb:∀x:Int,0≤x→x<256→(x.toNat.toUInt8).toNat=x.toNat:=fun x h0 h1=>by simp;omega
 unfold encR encL Lib.encodeRune
 by_cases h1:n<128
 ·rw [if_pos h1,Lib.encodeRuneZ_one (by omega) (by omega)]
  simp only [List.map_cons,List.map_nil]
  rw [hb _ (by omega) (by omega)]
  simp
 rw [if_neg h1]
 by_cases h2:n<2048
 ·rw [if_pos h2,Lib.encodeRuneZ_two (by omega) (by omega)]
  simp only [List.map_cons,List.map_nil]
  rw [hb _ (by omega) (by omega),hb _ (by omega) (by omega)]
  simp only [List.cons.injEq,and_true]
  omega
 rw [if_neg h2]
 by_cases h3:n<65536
 ·rw [if_pos h3,Lib.encodeRuneZ_three (by omega)]
  simp only [List.map_cons,List.map_nil]
  rw [hb _ (by omega) (by omega),hb _ (by omega) (by omega),hb _ (by omega) (by omega)]
  simp only [List.cons.injEq,and_true]
  omega
 rw [if_neg h3,Lib.encodeRuneZ_four (by omega) (by omega)]
 simp only [List.map_cons,List.map_nil]
 rw [hb _ (by omega) (by omega),hb _ (by omega) (by omega),hb _ (by omega) (by omega),hb _ (by omega) (by omega)]
 simp only [List.cons.injEq,and_true]
 omega
end Go.Proofs.YtgbkbgiogdhnaaaGreatDoor
namespace Go.Proofs.YtgbkbgiogdhnaaaGreatDoor
open Go.RowKit
set_option maxHeartbeats 1000000 in
theorem decN_more {n n' b0 b1 b2 b3 c1 c2 c3:Nat} (h:Lib.decodeN n b0 b1 b2 b3≠(65533,1)) (hn:n≤n') (h1:1<n→c1=b1) (h2:2<n→c2=b2) (h3:3<n→c3=b3):Lib.decodeN n' b0 c1 c2 c3=Lib.decodeN n b0 b1 b2 b3:=by
 by_cases a0:b0<128
 ·rw [Lib.decodeN_ascii _ _ _ _ _ a0,Lib.decodeN_ascii _ _ _ _ _ a0]
 unfold Lib.decodeN at h ⊢
 rw [if_neg a0] at h ⊢
 rw [if_neg a0]
 by_cases a1:b0 / 32=6∧(1<n∧b1 / 64=2)
 ·rw [if_pos a1,h1 a1.2.1,if_pos ⟨a1.1,by omega,a1.2.2⟩]
 rw [if_neg a1] at h ⊢
 by_cases a2:b0 / 16=14∧(1<n∧b1 / 64=2)∧(2<n∧b2 / 64=2)
 ·rw [if_pos a2,h1 a2.2.1.1,h2 a2.2.2.1,if_neg (fun e=>by omega),if_pos ⟨a2.1,⟨by omega,a2.2.1.2⟩,by omega,a2.2.2.2⟩]
 rw [if_neg a2] at h ⊢
 by_cases a3:b0 / 8=30∧(1<n∧b1 / 64=2)∧(2<n∧b2 / 64=2)∧(3<n∧b3 / 64=2)
 ·rw [if_pos a3,h1 a3.2.1.1,h2 a3.2.2.1.1,h3 a3.2.2.2.1,if_neg (fun e=>by omega),if_neg (fun e=>by omega),if_pos ⟨a3.1,⟨by omega,a3.2.1.2⟩,⟨by omega,a3.2.2.1.2⟩,by omega,a3.2.2.2.2⟩]
 rw [if_neg a3] at h
 exact absurd rfl h
theorem getD_app_n {l:List Nat} (m:List Nat) {i:Nat} (h:i<l.length):(l ++ m).getD i 0=l.getD i 0:=by
 rw [List.getD_eq_getElem?_getD,List.getD_eq_getElem?_getD,List.getElem?_append_left h]
theorem decL_more {l:List Nat} (m:List Nat) (hne:l≠[]) (h:decL l≠(65533,1)):decL (l ++ m)=decL l:=by
 have hp:=List.length_pos_iff.2 hne
 rw [decL_N] at h
 rw [decL_N,decL_N,getD_app_n m hp]
 exact decN_more h (by rw [List.length_append];omega) (fun h1=>by rw [getD_app_n m h1]) (fun h1=>by rw [getD_app_n m h1]) (fun h1=>by rw [getD_app_n m h1])
theorem VU.cons_step {l:List Nat} (hne:l≠[]) (h:decL l≠(65533,1)) (hv:VU (l.drop (decL l).2)):VU l:=by
 have hp:=List.length_pos_iff.2 hne
 unfold VU at hv ⊢
 obtain⟨n,hn⟩:∃n,l.length=n+1:=⟨l.length - 1,by omega⟩
 rw [hn,checkG,if_neg hne,if_neg h]
 exact check_gen hv (Nat.le_refl _) (by rw [List.length_drop];have:=(decL_bd l).2;omega)
theorem VU.app (m:List Nat) (hm:VU m):∀(n:Nat) (l:List Nat),l.length≤n→VU l→VU (l ++ m):=by
 intro n
 induction n with
 | zero=>intro l h _;rw [List.eq_nil_of_length_eq_zero (by omega:l.length=0)];exact hm
 | succ n ih=>
  intro l hl h
  by_cases hne:l = []
  ·subst hne;exact hm
  obtain⟨h1,h2⟩:=h.step hne
  have hd:=decL_more m hne h1
  refine VU.cons_step (by simp [hne]) (by rw [hd];exact h1) ?_
  rw [hd,List.drop_append_of_le_length (decL_le l hne)]
  exact ih _ (by rw [List.length_drop];have:=(decL_bd l).2;have:=List.length_pos_iff.2 hne;omega) h2
theorem decN_2 {b0 b1 n k:Nat} (hk:1<k) (e0:b0=192+n / 64) (e1:b1=128+n % 64) (h1:128≤n) (h2:n<2048) (x y:Nat):Lib.decodeN k b0 b1 x y=(n,2):=by
 unfold Lib.decodeN
 rw [if_neg (by omega),if_pos ⟨by omega,hk,by omega⟩,if_pos (by omega)]
 have:b0 % 32*64+b1 % 64=n:=by omega
 rw [this]
theorem decN_3 {b0 b1 b2 n k:Nat} (hk:2<k) (e0:b0=224+n / 4096) (e1:b1=128+n / 64 % 64) (e2:b2=128+n % 64) (h1:2048≤n) (h2:n<65536) (hs:n<55296∨57343<n) (y:Nat):Lib.decodeN k b0 b1 b2 y=(n,3):=by
 have this:b0 % 16*4096+b1 % 64*64+b2 % 64=n:=by omega
 unfold Lib.decodeN
 rw [if_neg (by omega),if_neg (fun e=>by omega),if_pos ⟨by omega,⟨by omega,by omega⟩,hk,by omega⟩,this,if_pos (by omega)]
theorem decN_4 {b0 b1 b2 b3 n k:Nat} (hk:3<k) (e0:b0=240+n / 262144) (e1:b1=128+n / 4096 % 64) (e2:b2=128+n / 64 % 64) (e3:b3=128+n % 64) (h1:65536≤n) (h2:n≤1114111):Lib.decodeN k b0 b1 b2 b3=(n,4):=by
 have this:b0 % 8*262144+b1 % 64*4096+b2 % 64*64+b3 % 64=n:=by omega
 unfold Lib.decodeN
 rw [if_neg (by omega),if_neg (fun e=>by omega),if_neg (fun e=>by omega),if_pos ⟨by omega,⟨by omega,by omega⟩,⟨by omega,by omega⟩,hk,by omega⟩,this,if_pos (by omega)]
theorem VU.enc {n:Nat} (h:n≤1114111) (hs:n<55296∨57343<n):VU (encL (n:Int)):=by
 rw [←encR_eq n h hs]
 have fin:∀(l:List Nat) (k:Nat),l≠[]→decL l=(n,k)→k≠1→l.length=k→VU l:=fun l k h1 h2 h3 h4=>by
  refine VU.cons_step h1 (by rw [h2];intro e;injection e with _ e;exact h3 e) ?_
  rw [h2,List.drop_of_length_le (by show l.length≤k;omega)]
  exact VU.nil
 unfold encR
 split
 ·rename_i h1
  refine VU.cons_step (by simp) (by rw [decL_ascii _ h1];intro e;injection e with e;omega) ?_
  rw [decL_ascii _ h1]
  exact VU.nil
 split
 ·refine fin _ 2 (by simp) ?_ (by omega) rfl
  rw [decL_N]
  exact decN_2 (n:=n) (by simp) (by simp;omega) (by simp;omega) (by omega) (by omega) _ _
 split
 ·refine fin _ 3 (by simp) ?_ (by omega) rfl
  rw [decL_N]
  exact decN_3 (n:=n) (by simp) (by simp;omega) (by simp;omega) (by simp;omega) (by omega) (by omega) hs _
 ·refine fin _ 4 (by simp) ?_ (by omega) rfl
  rw [decL_N]
  exact decN_4 (n:=n) (by simp) (by simp;omega) (by simp;omega) (by simp;omega) (by simp;omega) (by omega) h
theorem dec_range {l:List Nat} (h:decL l≠(65533,1)):(decL l).1≤1114111∧((decL l).1<55296∨57343<(decL l).1):=by
 rw [decL_N] at h ⊢
 unfold Lib.decodeN at h ⊢
 split
 ·simp only;omega
 rename_i a0
 rw [if_neg a0] at h
 split
 ·rename_i a1
  rw [if_pos a1] at h
  split
  ·simp only;omega
  ·rename_i a;rw [if_neg a] at h;exact absurd rfl h
 rename_i a1
 rw [if_neg a1] at h
 split
 ·rename_i a2
  rw [if_pos a2] at h
  split
  ·simp only;omega
  ·rename_i a;rw [if_neg a] at h;exact absurd rfl h
 rename_i a2
 rw [if_neg a2] at h
 split
 ·rename_i a3
  rw [if_pos a3] at h
  split
  ·simp only;omega
  ·rename_i a;rw [if_neg a] at h;exact absurd rfl h
 ·rename_i a3
  rw [if_neg a3] at h
  exact absurd rfl h
end Go.Proofs.YtgbkbgiogdhnaaaGreatDoor
namespace Go.Proofs.YtgbkbgiogdhnaaaGreatDoor
open Go.RowKit
end Go.Proofs.YtgbkbgiogdhnaaaGreatDoor
namespace Go.Proofs.YtgbkbgiogdhnaaaGreatDoor
open Go.RowKit
theorem escL_high {m:List Nat} (h:∀c∈m,128≤c):escL m=m:=by
 induction m with
 | nil=>rfl
 | cons c m ih=>rw [escL_cons,escB_high (h c (by simp)),ih (fun x hx=>h x (by simp [hx]))];rfl
theorem VU.ascii {m:List Nat} (h:∀c∈m,c<128) {y:List Nat} (hy:VU y):VU (m ++ y):=by
 induction m with
 | nil=>exact hy
 | cons c m ih=>
  have hd:=decL_ascii (m ++ y) (h c (by simp))
  refine VU.cons_step (by simp) ?_ ?_
  ·rw [List.cons_append,hd];intro e;have:=(Prod.mk.inj e).1;have:=h c (by simp);omega
  ·rw [List.cons_append,hd]
   exact ih (fun x hx=>h x (by simp [hx]))
theorem escL_vu:∀(n:Nat) (l:List Nat),l.length≤n→By l→VU l→VU (escL l):=by
 intro n
 induction n with
 | zero=>intro l h _ _;rw [List.eq_nil_of_length_eq_zero (by omega:l.length=0)];exact VU.nil
 | succ n ih=>
  intro l hl hb hv
  cases l with
  | nil=>exact VU.nil
  | cons c t=>
   rw [List.length_cons] at hl
   by_cases hc:c<128
   ·rw [escL_cons]
    exact VU.ascii (escB_ascii hc) (ih t (by omega) (fun x hx=>hb x (by simp [hx])) (hv.tail hc))
   ·obtain⟨h1,h2⟩:=hv.step (by simp)
    obtain⟨_,h3⟩:=decL_high hb hc h1
    have e:=enc_dec hb (by simp) h1
    have hr:=dec_range h1
    have hw:=VU.enc hr.1 hr.2
    rw [e] at hw
    have hk:=(decL_bd (c :: t)).2
    rw [←List.take_append_drop (decL (c :: t)).2 (c :: t),escL_app,escL_high h3]
    exact VU.app _ (ih _ (by rw [List.length_drop,List.length_cons];omega) (hb.dropped _) h2) _ _ (Nat.le_refl _) hw
theorem hex_back:∀c,c<32→hexN [48,48,hexd (c / 16),hexd (c % 16)] 0=(c:Int):=by decide
theorem enc_low {c:Nat} (hc:c<128):encL (c:Int) = [c]:=by
 have hd:=decL_ascii [] hc
 have h:=enc_dec (l:=[c]) (fun x hx=>by simp at hx;omega) (by simp) (by rw [hd];intro e;have:=(Prod.mk.inj e).1;omega)
 rw [hd] at h
 exact h
theorem text_step {c:Nat} (x:List Nat) (f p:Nat) (acc:List Nat):textG (f+1) (escB c ++ x) p acc=textG f x (p+(escB c).length) (acc ++ [c]):=by
 rcases escB_cases c with⟨y,e,h,hm,h0,hy,hc⟩ | ⟨e,h⟩ | ⟨e,h1,h2,h3⟩
 ·rw [e]
  have hu:unitV ([92,y] ++ x) = -1:=by
   unfold unitV
   rw [if_neg]
   rintro⟨_,_,h3⟩
   exact hy (Option.some.inj h3)
  have hs:([92,y] ++ x).getD 1 0=y:=rfl
  have he:escV ([92,y] ++ x)=((c:Int),2,0):=by
   rw [escV_mean (by rw [hu];omega) (by simp) (by rw [hs,hm];omega),hs,hm]
  rw [textG,if_neg (by simp)]
  have g0:([92,y] ++ x).getD 0 0=92:=rfl
  rw [g0,if_neg (by omega),if_neg (by omega),if_pos rfl,he,if_pos rfl,enc_low hc]
  rfl
 ·rw [e]
  have hu:unitV ([92,117,48,48,hexd (c / 16),hexd (c % 16)] ++ x)=(c:Int):=by
   unfold unitV
   rw [if_pos ⟨by simp,rfl,rfl⟩]
   exact hex_back c h
  have he:escV ([92,117,48,48,hexd (c / 16),hexd (c % 16)] ++ x)=((c:Int),6,0):=by
   unfold escV
   rw [hu,if_neg (by omega),if_pos (by omega)]
  rw [textG,if_neg (by simp)]
  have g0:([92,117,48,48,hexd (c / 16),hexd (c % 16)] ++ x).getD 0 0=92:=rfl
  rw [g0,if_neg (by omega),if_neg (by omega),if_pos rfl,he,if_pos rfl,enc_low (by omega)]
  rfl
 ·rw [e,textG,if_neg (by simp)]
  have g0:([c] ++ x).getD 0 0=c:=rfl
  rw [g0,if_neg h2,if_neg (by omega),if_neg h3]
  rfl
theorem text_esc (x:List Nat):∀(l:List Nat) (f p:Nat) (acc:List Nat),textG (f+l.length) (escL l ++ x) p acc=textG f x (p+(escL l).length) (acc ++ l):=by
 intro l
 induction l with
 | nil=>intro f p acc;simp [escL_nil]
 | cons c l ih=>
  intro f p acc
  rw [escL_cons,List.append_assoc,List.length_cons,show f+(l.length+1)=f+l.length+1 by omega,text_step,ih,List.length_append,Nat.add_assoc,List.append_assoc]
  rfl
theorem quote_vu {l:List Nat} (hb:By l) (hv:VU l):VU (quoteV l):=by
 have h1:VU ([34] ++ []):=VU.ascii (by simp) VU.nil
 exact VU.ascii (m:=[34]) (by simp) (VU.app [34] h1 _ _ (Nat.le_refl _) (escL_vu _ l (Nat.le_refl _) hb hv))
theorem quote_quot {l:List Nat} (hb:By l) (hv:VU l):quotV (quoteV l)=(l,(quoteV l).length,0):=by
 have hl:=escL_len l
 rw [quote_len]
 unfold quoteV
 rw [quotV_text (quote_by hb) (quote_vu hb hv)]
 have e:(escL l ++ [34]).length=((escL l).length - l.length)+1+l.length:=by rw [List.length_append,List.length_singleton];omega
 rw [e,text_esc,textG,if_neg (by simp)]
 have g0:([34]:List Nat).getD 0 0=34:=rfl
 rw [if_pos g0,List.nil_append]
 have:1+(escL l).length+1=(escL l).length+2:=by omega
 rw [this]
theorem quote_read {l:List Nat} (hb:By l) (hv:VU l):(quoteV l)[0]? = some 34∧quotV (quoteV l)=(l,(quoteV l).length,0)∧commV (quoteV l)=0∧checkV (quoteV l)=none∧1≤(quoteV l).length:=
 ⟨rfl,quote_quot hb hv,commV_no (by rw [show(quoteV l).getD 0 0=34 from rfl];decide),quote_vu hb hv,by rw [quote_len];omega⟩
/-! The lengths of the quoted forms of repeated bytes. -/
end Go.Proofs.YtgbkbgiogdhnaaaGreatDoor
namespace Go.Proofs.YtgbkbgiogdhnaaaGreatDoor
open Go.RowKit
def gapV (lit:Bool) (op:Nat):List Nat:=if lit then [] else 10 :: List.replicate (2*op) 32
def sepV (lit:Bool) (k:Nat):List Nat:=if k=0 then [] else if lit then [44,32] else [44]
def keyV2 (nodes:List GNode) (nd:GNode) (i:Int):List Nat:=if nd.kind=10 then quoteV (ndAt nodes (nd.keys.getD i.toNat 0).toNat).text ++ [58,32] else []
def itemsP (v:Int→Except Int (List Nat)) (nodes:List GNode) (nd:GNode) (lit:Bool) (op:Nat):List Int→Nat→Except Int (List Nat)
 | [],_=>.ok []
 | i :: r,k=>match v (nd.items.getD i.toNat 0) with
  | .error e=>.error e
  | .ok x=>match itemsP v nodes nd lit op r (k+1) with
   | .error e=>.error e
   | .ok y=>.ok (sepV lit k ++ gapV lit (op+1) ++ keyV2 nodes nd i ++ x ++ y)
def contP (v:Int→Except Int (List Nat)) (nodes:List GNode) (nd:GNode) (lit:Bool) (op:Nat) (order:List Int) (a b:Nat):Except Int (List Nat):=
 match itemsP v nodes nd lit op order 0 with
 | .error e=>.error e
 | .ok x=>.ok ([a] ++ x ++ (if order = [] then [] else gapV lit op) ++ [b])
def printP (nodes:List GNode) (dec:List Nat→List Nat) (ordr:Nat→List Int) (lit:Bool):Nat→Int→Nat→Except Int (List Nat)
 | 0,_,_=>.error 0
 | f+1,a,op=>
  let nd:=ndAt nodes a.toNat
  if nd.kind=0 then .ok [110,117,108,108]
  else if nd.kind=1∨nd.kind=2 then .ok nd.text
  else if nd.kind=3 then .ok (dec nd.text)
  else if nd.kind=5 then .ok (quoteV nd.text)
  else if nd.kind=9 then contP (fun i=>printP nodes dec ordr lit f i (op+1)) nodes nd lit op (ordr a.toNat) 91 93
  else if nd.kind=10∧nd.ord=false then
   (if nd.keys.any (fun k=>decide ((ndAt nodes k.toNat).kind≠5)) then .error 16 else contP (fun i=>printP nodes dec ordr lit f i (op+1)) nodes nd lit op (ordr a.toNat) 123 125)
  else .error 10
end Go.Proofs.YtgbkbgiogdhnaaaGreatDoor
namespace Go.Proofs.YtgbkbgiogdhnaaaGreatDoor
open Go.RowKit
def sp128:ByteArray:=⟨#[32,32,32,32,32,32,32,32,32,32,32,32,32,32,32,32,32,32,32,32,32,32,32,32,32,32,32,32,32,32,32,32,32,32,32,32,32,32,32,32,32,32,32,32,32,32,32,32,32,32,32,32,32,32,32,32,32,32,32,32,32,32,32,32,32,32,32,32,32,32,32,32,32,32,32,32,32,32,32,32,32,32,32,32,32,32,32,32,32,32,32,32,32,32,32,32,32,32,32,32,32,32,32,32,32,32,32,32,32,32,32,32,32,32,32,32,32,32,32,32,32,32,32,32,32,32,32,32]⟩
theorem sp_pre:Lib.hasPrefix sp128.data.toList (⟨#[32,32]⟩:ByteArray).data.toList=true:=by kernel_rfl
theorem mul_four (w:World):Calls Tryz.prog 13 #[.int .u64 2,.int .u64 2] w fun e w'=>e=.returned (.tuple #[.int .u64 0,.int .u64 4])∧w=w':=
 (Tryz.bits_Mul 2 2 (by omega) (by omega) w).mono fun _ _ ⟨h1,h2⟩=>⟨h1,h2.symm⟩
set_option maxRecDepth 100000 in
set_option maxHeartbeats 4000000 in
theorem repeat_two (w:World):Calls Tryz.prog 5 #[.string ⟨#[32,32]⟩,.int .i64 2] w fun e w'=>e=.returned (.string ⟨#[32,32,32,32]⟩)∧w=w':=by
 have hM:=Lib.hid (mul_four w)
 have hP:=Lib.hid (Tryz.strings_HasPrefix sp128 ⟨#[32,32]⟩ w)
 rw [sp_pre] at hP
 unfold sp128 at hP
 go_enter Tryz.func5,Tryz.ntmps5
 go_upto_region 9 with(go_at_call 13;((with_reducible refine hM.out.mono ?_));rintro e w5 ⟨rfl,rfl⟩)
 go_upto_region 20 with(fail)
 go_upto_region 21 with(go_at_call 14;((with_reducible refine hP.out.mono ?_));rintro e w5 ⟨rfl,rfl⟩)
 go_wp2_with (fail)
 go_ret
 exact⟨rfl,rfl⟩
set_option maxRecDepth 100000 in
set_option maxHeartbeats 4000000 in
theorem repeat_sp (k:Nat) (hk:k≤2) (w:World):Calls Tryz.prog 5 #[.string ⟨#[32,32]⟩,.int .i64 (k:Int)] w fun e w'=>e=.returned (.string (mks (List.replicate (2*k) 32)))∧w=w':=by
 have hc:k=0∨k=1∨k=2:=by omega
 rcases hc with rfl | rfl | rfl
 ·go_enter Tryz.func5,Tryz.ntmps5
  go_wp2_with (fail)
  go_ret
  exact⟨rfl,rfl⟩
 ·go_enter Tryz.func5,Tryz.ntmps5
  go_wp2_with (fail)
  go_ret
  exact⟨rfl,rfl⟩
 ·exact repeat_two w
theorem gap_str (op:Nat):(⟨#[10]⟩:ByteArray) ++ mks (List.replicate (2*op) 32)=mks (10 :: List.replicate (2*op) 32):=by
 show mks [10] ++ mks _=_
 rw [append_mks];rfl
set_option maxRecDepth 20000 in
set_option maxHeartbeats 8000000 in
theorem line_any (B b:Nat) (n r:Value) (lit:Bool) (op:Nat) (hop:op≤2) (xs:List Nat) (hxl:xs.length≤4294967296) (w:World) (h:PrU B b n r (.bool lit) (B8 xs) w) (hBw:B≤w.heap.size) :
  Calls Tryz.prog 113 #[.pointer (some ⟨b,0,none⟩),.int .i64 (op:Int)] w fun e w'=>e=.returned (.tuple #[])∧PrI B b n r (.bool lit) w w' (xs ++ gapV lit op):=by
 have c4:=h.cells.2.2.2
 cases lit with
 | true=>
  have hI:Hid (PrI B b n r (.bool true) w w (xs ++ gapV true op)):=by
   show PrI _ _ _ _ _ _ _ _
   rw [show gapV true op = [] from rfl,List.append_nil]
   exact⟨h,Below.refl _ _,Lib.OthersKept.refl _ _ _,hBw⟩
  clear h
  go_enter Tryz.func113,Tryz.ntmps113
  go_wp2_with (fail)
  go_end0
  exact⟨rfl,hI.out⟩
 | false=>
  have HH:=Lib.hid h
  have DR:=Lib.hid (fun w=>repeat_sp op hop w)
  have hgs:=Lib.hid (gap_str op)
  have hgb:By (10 :: List.replicate (2*op) 32):=by
   intro c hc
   rcases List.mem_cons.1 hc with rfl | hc
   ·omega
   ·have:=(List.mem_replicate.1 hc).2;omega
  have hgl:(10 :: List.replicate (2*op) 32).length≤5:=by simp;omega
  have hgv:Hid (gapV false op=10 :: List.replicate (2*op) 32):=rfl
  generalize mks (List.replicate (2*op) 32)=sp at *
  generalize 10 :: List.replicate (2*op) 32=gp at *
  clear h
  go_enter Tryz.func113,Tryz.ntmps113
  go_upto_region 1 with(fail)
  have hId:PrF B b n r (.bool false) (B8 xs) w.drew:=.inr HH.out.drew
  have hBd:B≤w.drew.heap.size:=hBw
  have HF:Hid (∀w2,PrU B b n r (.bool false) (B8 xs ++ Lib.strCells (ByteArray.mk #[10] ++ sp)) w2→Below B w.drew w2→Others b w.drew w2→PrI B b n r (.bool false) w w2 (xs ++ gapV false op)):=fun w2 h1 h2 h3=>⟨by rw [hgv.out,B8_append,←str_B8 hgb,←hgs.out];exact h1,(Below.refl B w).drew.trans h2,Lib.OthersKept.trans (Lib.OthersKept.drew (Lib.OthersKept.refl _ _ w)) h3,Nat.le_trans hBw h2.size⟩
  have hsl:(B8 xs).length+(ByteArray.mk #[10] ++ sp).size≤140737488355328:=by rw [hgs.out,size_mks,len_B8];omega
  have HSL:=Lib.hid hsl
  have hm9:¬9223372036854775807<1+sp.size:=by have h:=congrArg ByteArray.size hgs.out;rw [size_mks] at h;simp at h;omega
  clear hsl
  go_region_held3 (fun _=>True) (first | trivial | go_keep) (first | (go_at_call 5;((with_reducible refine(DR.out _).mono ?_));rintro e w3 ⟨rfl,rfl⟩) | (go_at_call 16;((with_reducible refine(pr_string B b n r (.bool false) (B8 xs) _ _ hId HSL.out hBd).mono ?_));rintro e w2 ⟨rfl,hP2,hb2,ho2⟩;have hI2:=Lib.hid (HF.out w2 hP2 hb2 ho2)))
  go_wp2_with (fail)
  go_end0
  exact⟨rfl,hI2.out⟩
end Go.Proofs.YtgbkbgiogdhnaaaGreatDoor
