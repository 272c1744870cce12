/- Plain laws: a string that is read byte by byte (the reference) is the string that is read rune by rune, if the source is valid UTF-8. -/
import Derived.Test.YtijoollonkibfaaGreatDoorMO
import Derived.Test.YtijoollonkibfaaGreatDoorMD
import Derived.Test.YtijoollonkibfaaGreatDoorMGk
import Derived.Test.YtijoollonkibfaaGreatDoorMNum
import Derived.Test.YtijoollonkibfaaGreatDoorMG
set_option linter.unusedVariables false
set_option linter.unusedSimpArgs false
set_option linter.defProp false
set_option linter.constructorNameAsVariable false
namespace Go.Proofs.YtijoollonkibfaaGreatDoor
open Go.RowKit
def VU (l:List Nat):Prop:=checkG l.length 0 l=none
theorem VU.nil:VU []:=checkG_end
theorem VU.step {l:List Nat} (h:VU l) (hne:l≠[]):decL l≠(65533,1)∧VU (l.drop (decL l).2):=by
 unfold VU at h
 have hp:=List.length_pos_iff.2 hne
 obtain⟨n,hn⟩:∃n,l.length=n+1:=⟨l.length - 1,by omega⟩
 rw [hn] at h
 obtain⟨h1,h2⟩:=checkG_step hne h
 exact⟨h1,check_gen h2 (by rw [List.length_drop];have:=(decL_bd l).2;omega) (Nat.le_refl _)⟩
theorem VU.tail {c:Nat} {l:List Nat} (h:VU (c :: l)) (hc:c<128):VU l:=by
 unfold VU at h
 rw [List.length_cons,check_ascii hc] at h
 exact check_gen h (Nat.le_refl _) (Nat.le_refl _)
theorem VU.split:∀(n:Nat) (r x:List Nat),r.length≤n→VU (r ++ x)→x.getD 0 0<128→VU x:=by
 intro n
 induction n with
 | zero=>
  intro r x hr h _
  obtain rfl:r = []:=List.eq_nil_of_length_eq_zero (by omega)
  exact h
 | succ n ih=>
  intro r x hr h hx
  by_cases hne:r = []
  ·subst hne;exact h
  ·obtain⟨_,h2⟩:=h.step (by simp [hne])
   obtain⟨_,hk⟩:=decL_local hne hx hx
   have hk1:=(decL_bd (r ++ x)).2
   rw [List.drop_append_of_le_length hk] at h2
   exact ih _ _ (by rw [List.length_drop];omega) h2 hx
theorem VU.drop {l:List Nat} (h:VU l) (n:Nat) (hn:(l.drop n).getD 0 0<128):VU (l.drop n):=
 VU.split _ (l.take n) (l.drop n) (Nat.le_refl _) (by rw [List.take_append_drop];exact h) hn
theorem getD_drop (l:List Nat) (n:Nat):(l.drop n).getD 0 0=l.getD n 0:=by simp [List.getD_eq_getElem?_getD]
theorem VU.pass {l:List Nat} (h:VU l):∀n,(∀j,j<n→l.getD j 0<128)→n≤l.length→VU (l.drop n):=by
 intro n
 induction n with
 | zero=>intro _ _;exact h
 | succ n ih=>
  intro ha hn
  have h1:=ih (fun j hj=>ha j (by omega)) (by omega)
  obtain⟨c,hc⟩:∃c,l[n]? = some c:=⟨_,List.getElem?_eq_getElem (by omega)⟩
  rw [drop_cons hc] at h1
  have hc2:c<128:=by have:=ha n (by omega);rw [List.getD_eq_getElem?_getD,hc] at this;exact this
  exact h1.tail hc2
theorem decL_ascii {c:Nat} (t:List Nat) (hc:c<128):decL (c :: t)=(c,1):=by
 rw [decL_N]
 have:(c :: t).getD 0 0 % 256=c:=by show c % 256=c;omega
 rw [this,Lib.decodeN_ascii _ _ _ _ _ hc]
theorem u8s_back {l:List Nat} (hb:By l):(u8s l).map UInt8.toNat=l:=by
 unfold u8s
 rw [List.map_map]
 refine(List.map_congr_left fun c hc=>?_).trans (List.map_id l)
 have:=hb c hc
 simp;omega
theorem enc_dec {l:List Nat} (hb:By l) (hne:l≠[]) (hv:decL l≠(65533,1)):encL ((decL l).1:Int)=l.take (decL l).2:=by
 have h:=Lib.encode_decode (u8s l) (by intro h;exact hne (List.map_eq_nil_iff.1 h)) (fun h=>hv (by unfold decL;exact Prod.ext h.1 h.2))
 unfold encL
 show(Lib.encodeRune ((Lib.decodeL (u8s l)).1:Int)).map UInt8.toNat=_
 rw [h,List.map_take,u8s_back hb]
 rfl
theorem runeLen_len {l:List Nat} (hb:By l) (hne:l≠[]) (hv:decL l≠(65533,1)):Lib.runeLen ((decL l).1:Int)=((decL l).2:Int):=by
 by_cases h:(decL l).1=65533
 ·have he:=congrArg List.length (enc_dec hb hne hv)
  have hle:=decL_le l hne
  rw [List.length_take,h] at he
  have e3:(encL ((65533:Nat):Int)).length=3:=by decide
  rw [e3] at he
  rw [h]
  have:(decL l).2=3:=by omega
  rw [this]
  rfl
 ·exact Lib.runeLen_decode (u8s l) h
theorem decL_high {c:Nat} {t:List Nat} (hb:By (c :: t)) (hc:¬c<128) (hv:decL (c :: t)≠(65533,1)):128≤(decL (c :: t)).1∧∀x∈(c :: t).take (decL (c :: t)).2,128≤x:=by
 have hne:c :: t≠[]:=List.cons_ne_nil _ _
 have hk:=(decL_bd (c :: t)).2
 constructor
 ·rcases Nat.lt_or_ge (decL (c :: t)).1 128 with h | h
  ·exfalso
   have he:=enc_dec hb hne hv
   obtain⟨k,hk2⟩:∃k,(decL (c :: t)).2=k+1:=⟨(decL (c :: t)).2 - 1,by omega⟩
   rw [hk2,List.take_succ_cons] at he
   unfold encL Lib.encodeRune at he
   rw [Lib.encodeRuneZ_one (by omega) (by omega)] at he
   simp only [List.map_cons,List.map_nil] at he
   injection he with he _
   have:(((decL (c :: t)).1:Int).toNat.toUInt8).toNat=(decL (c :: t)).1:=by simp;omega
   omega
  ·exact h
 ·intro x hx
  obtain⟨j,hj,hxj⟩:=List.getElem_of_mem hx
  have hlt:j<(decL (c :: t)).2:=by rw [List.length_take] at hj;omega
  have hxs:(c :: t)[j]? = some x:=by
   rw [List.getElem_take] at hxj
   rw [←hxj]
   exact List.getElem?_eq_getElem _
  rcases Nat.lt_or_ge x 128 with h | h
  ·exfalso
   cases j with
   | zero=>simp at hxs;omega
   | succ j=>
    have hd:((c :: t).drop (j+1)).getD 0 0<128:=by rw [getD_drop,List.getD_eq_getElem?_getD,hxs];exact h
    have hl:=(decL_local (r:=(c :: t).take (j+1)) (by simp) hd hd).2
    rw [List.take_append_drop,List.length_take] at hl
    omega
  ·exact h
def textG:Nat→List Nat→Nat→List Nat→List Nat×Nat×Nat
 | 0,_,_,_=>([],0,4)
 | f+1,l,p,acc=>
  if l = [] then ([],0,4)
  else if l.getD 0 0=34 then (acc,p+1,0)
  else if l.getD 0 0<32 then ([],p,4)
  else if l.getD 0 0=92 then
   (if (escV l).2.2=0 then textG f (l.drop (escV l).2.1.toNat) (p+(escV l).2.1.toNat) (acc ++ encL (escV l).1) else ([],p,(escV l).2.2.toNat))
  else textG f (l.drop 1) (p+1) (acc ++ [l.getD 0 0])
theorem textG_end {f p:Nat} {acc:List Nat}:textG f [] p acc=([],0,4):=by cases f <;> simp [textG]
theorem textG_high (x:List Nat):∀(m:List Nat) (f p:Nat) (acc:List Nat),(∀c∈m,128≤c)→textG (f+m.length) (m ++ x) p acc=textG f x (p+m.length) (acc ++ m):=by
 intro m
 induction m with
 | nil=>intro f p acc _;simp
 | cons c m ih=>
  intro f p acc h
  have hc:=h c (by simp)
  rw [List.length_cons,show f+(m.length+1)=(f+m.length)+1 by omega,textG,if_neg (by simp)]
  have e:((c :: m) ++ x).getD 0 0=c:=rfl
  rw [e,if_neg (by omega),if_neg (by omega),if_neg (by omega)]
  have e2:((c :: m) ++ x).drop 1=m ++ x:=rfl
  rw [e2,ih f (p+1) (acc ++ [c]) (fun x hx=>h x (by simp [hx])),List.append_assoc,show p+1+m.length=p+(m.length+1) by omega]
  rfl
theorem hexN_ascii {l:List Nat} {n:Nat} (h:0≤hexN l n):∀c∈l,c<128:=by
 induction l generalizing n with
 | nil=>intro c hc;cases hc
 | cons c l ih=>
  unfold hexN at h
  cases hd:hexD c with
  | none=>rw [hd] at h;simp at h
  | some d=>
   rw [hd] at h
   intro x hx
   rcases List.mem_cons.1 hx with rfl | hx
   ·unfold hexD at hd
    (repeat' split at hd) <;> first | omega | cases hd
   ·exact ih h x hx
theorem unitV_ascii {s:List Nat} (h:0≤unitV s):6≤s.length∧∀j,j<6→s.getD j 0<128:=by
 have hl:=unitV_len s h
 refine⟨hl,fun j hj=>?_⟩
 unfold unitV at h
 split at h
 ·rename_i h1
  obtain⟨_,h0,h2⟩:=h1
  have ha:=hexN_ascii h
  rw [List.getD_eq_getElem?_getD]
  match j,hj with
  | 0,_=>rw [h0];decide
  | 1,_=>rw [h2];decide
  | j+2,hj=>
   obtain⟨c,hc⟩:∃c,s[j+2]? = some c:=⟨_,List.getElem?_eq_getElem (by omega)⟩
   rw [hc]
   refine ha c (List.mem_of_getElem? (i:=j) ?_)
   rw [List.getElem?_drop,List.getElem?_take,if_pos (by omega),show 2+j=j+2 by omega]
   exact hc
 ·omega
theorem escV_ascii {l:List Nat} (h0:l.getD 0 0=92) (h:(escV l).2.2=0):2≤(escV l).2.1.toNat∧(escV l).2.1.toNat≤l.length∧∀j,j<(escV l).2.1.toNat→l.getD j 0<128:=by
 unfold escV at h ⊢
 by_cases hu:unitV l<0
 ·rw [if_pos hu] at h ⊢
  by_cases hm:1<l.length∧0<meanV (l.getD 1 0)
  ·rw [if_pos hm]
   refine⟨Nat.le_refl 2,by show 2≤_;omega,fun j hj=>?_⟩
   replace hj:j<2:=hj
   match j,hj with
   | 0,_=>omega
   | 1,_=>
    have hm2:=hm.2
    unfold meanV at hm2
    (repeat' split at hm2) <;> omega
  ·rw [if_neg hm] at h;exact absurd h (by decide)
 ·rw [if_neg hu] at h ⊢
  obtain⟨h6,ha⟩:=unitV_ascii (show 0≤unitV l by omega)
  by_cases h1:unitV l<55296∨57343<unitV l
  ·rw [if_pos h1]
   exact⟨by show 2≤6;omega,h6,ha⟩
  ·rw [if_neg h1] at h ⊢
   by_cases h2:56319<unitV l∨unitV (l.drop 6)<56320∨57343<unitV (l.drop 6)
   ·rw [if_pos h2] at h;exact absurd h (by decide)
   ·rw [if_neg h2]
    obtain⟨h7,hb⟩:=unitV_ascii (show 0≤unitV (l.drop 6) by omega)
    rw [List.length_drop] at h7
    refine⟨by show 2≤12;omega,by show 12≤_;omega,fun j hj=>?_⟩
    replace hj:j<12:=hj
    by_cases hj6:j<6
    ·exact ha j hj6
    ·have:=hb (j - 6) (by omega)
     rw [List.getD_eq_getElem?_getD,List.getElem?_drop,show 6+(j - 6)=j by omega,←List.getD_eq_getElem?_getD] at this
     exact this
theorem quotG_pass (m:Nat):∀(f:Nat) (l:List Nat) (p nx:Nat) (acc:List Nat),m≤l.length→(∀j,j<m→l.getD j 0<128)→p+m=nx→quotG (f+m) l p nx acc=quotG f (l.drop m) nx nx acc:=by
 induction m with
 | zero=>
  intro f l p nx acc _ _ e
  obtain rfl:p=nx:=by omega
  rfl
 | succ m ih=>
  intro f l p nx acc hm ha e
  cases l with
  | nil=>simp at hm
  | cons c t=>
   have hc:c<128:=ha 0 (by omega)
   rw [show f+(m+1)=(f+m)+1 by omega,quotG_skip (List.cons_ne_nil _ _) (by omega),decL_ascii t hc]
   show quotG (f+m) t (p+1) nx acc=_
   rw [ih f t (p+1) nx acc (by simp at hm;omega) (fun j hj=>by have:=ha (j+1) (by omega);simpa using this) (by omega)]
   rfl
theorem quot_text (f:Nat):∀(g:Nat) (l:List Nat) (p:Nat) (acc:List Nat),By l→VU l→l.length≤f→l.length≤g→quotG f l p p acc=textG g l p acc:=by
 induction f using Nat.strongRecOn with
 | ind f ih=>
  intro g l p acc hb hv hf hg
  by_cases hne:l = []
  ·subst hne;rw [quotG_end,textG_end]
  ·have hp:=List.length_pos_iff.2 hne
   obtain⟨f,rfl⟩:∃f',f=f'+1:=⟨f - 1,by omega⟩
   obtain⟨g,rfl⟩:∃g',g=g'+1:=⟨g - 1,by omega⟩
   obtain⟨hd,hvd⟩:=hv.step hne
   obtain⟨c,t,rfl⟩:∃c t,l=c :: t:=by cases l with | nil=>exact absurd rfl hne | cons c t=>exact⟨c,t,rfl⟩
   have e0:(c :: t).getD 0 0=c:=rfl
   have hnn:¬p<p:=by omega
   simp only [List.length_cons] at hf hg
   by_cases hc:c<128
   ·have hdc:=decL_ascii t hc
    by_cases h34:c=34
    ·rw [quotG_quote hne hnn (by rw [hdc];exact h34),textG,if_neg hne,e0,if_pos h34]
    by_cases h32:c<32
    ·rw [quotG_low hne hnn (by rw [hdc];exact h34) (by rw [hdc];exact h32),textG,if_neg hne,e0,if_neg h34,if_pos h32]
    by_cases h92:c=92
    ·by_cases he:(escV (c :: t)).2.2=0
     ·obtain⟨k1,k2,k3⟩:=escV_ascii (by rw [e0];exact h92) he
      rw [quotG_esc hne hnn (by rw [hdc];exact h92) he,hdc,textG,if_neg hne,e0,if_neg h34,if_neg h32,if_pos h92,if_pos he]
      have hvp:=hv.pass _ k3 k2
      generalize escV (c :: t)=x at *
      obtain⟨m,hm⟩:∃m,x.2.1.toNat=m+1:=⟨x.2.1.toNat - 1,by omega⟩
      rw [hm] at k2 k3 hvp ⊢
      show quotG f t (p+1) (p+(m+1)) _=_
      simp only [List.length_cons] at k2
      obtain⟨f,rfl⟩:∃f',f=f'+m:=⟨f - m,by omega⟩
      rw [quotG_pass m f t (p+1) (p+(m+1)) _ (by omega) (fun j hj=>by have:=k3 (j+1) (by omega);simpa using this) (by omega)]
      exact ih f (by omega) g (t.drop m) (p+(m+1)) _ (fun x hx=>hb x (by simp [List.mem_of_mem_drop hx])) hvp (by rw [List.length_drop];omega) (by rw [List.length_drop];omega)
     ·rw [quotG_bad hne hnn (by rw [hdc];exact h92) he,textG,if_neg hne,e0,if_neg h34,if_neg h32,if_pos h92,if_neg he]
    ·rw [quotG_rune hne hnn (by rw [hdc];exact h34) (by rw [hdc];exact h32) (by rw [hdc];exact h92),runeLen_len hb hne hd,enc_dec hb hne hd,hdc,textG,if_neg hne,e0,if_neg h34,if_neg h32,if_neg h92]
     exact ih f (by omega) g t (p+1) _ (fun x hx=>hb x (by simp [hx])) (hv.tail hc) (by omega) (by omega)
   ·obtain⟨hr,hall⟩:=decL_high hb hc hd
    have hk:=(decL_bd (c :: t)).2
    have hle:=decL_le (c :: t) hne
    rw [quotG_rune hne hnn (by omega) (by omega) (by omega),runeLen_len hb hne hd,enc_dec hb hne hd]
    generalize (decL (c :: t)).2=k at *
    have hlt:((c :: t).take k).length=k:=by rw [List.length_take];omega
    simp only [List.length_cons] at hle
    obtain⟨q,hq⟩:∃q,g+1=q+k:=⟨g+1 - k,by omega⟩
    have hT:=textG_high ((c :: t).drop k) ((c :: t).take k) q p acc hall
    rw [List.take_append_drop,hlt] at hT
    rw [hq,hT,Int.toNat_natCast]
    exact ih f (by omega) q _ (p+k) _ (fun x hx=>hb x (List.mem_of_mem_drop hx)) hvd (by rw [List.length_drop,List.length_cons];omega) (by rw [List.length_drop,List.length_cons];omega)
theorem quotV_text {t:List Nat} (hb:By (34 :: t)) (hv:VU (34 :: t)):quotV (34 :: t)=textG t.length t 1 []:=by
 unfold quotV
 rw [List.length_cons,quotG_skip (List.cons_ne_nil _ _) (by omega),decL_ascii t (by omega)]
 exact quot_text t.length t.length t 1 [] (fun x hx=>hb x (by simp [hx])) (hv.tail (by omega)) (Nat.le_refl _) (Nat.le_refl _)
end Go.Proofs.YtijoollonkibfaaGreatDoor
namespace Go.Proofs.YtijoollonkibfaaGreatDoor
open Go.RowKit
theorem VU.after {l:List Nat} (h:VU l) {n:Nat} (h1:1≤n) (hn:n≤l.length) (hc:l.getD (n - 1) 0<128):VU (l.drop n):=by
 have h2:=h.drop (n - 1) (by rw [getD_drop];exact hc)
 obtain⟨c,hx⟩:∃c,l[n - 1]? = some c:=⟨_,List.getElem?_eq_getElem (by omega)⟩
 rw [drop_cons hx] at h2
 rw [List.getD_eq_getElem?_getD,hx] at hc
 have h3:=h2.tail hc
 rwa [show n - 1+1=n by omega] at h3
theorem text_last (f:Nat):∀(l:List Nat) (p:Nat) (acc t:List Nat) (n:Nat),textG f l p acc=(t,n,0)→p<n∧l.getD (n - 1 - p) 0=34:=by
 induction f with
 | zero=>intro l p acc t n h;simp [textG] at h
 | succ f ih=>
  intro l p acc t n h
  rw [textG] at h
  by_cases hl:l = []
  ·rw [if_pos hl] at h;simp at h
  rw [if_neg hl] at h
  by_cases h34:l.getD 0 0=34
  ·rw [if_pos h34] at h
   injection h with _ h
   injection h with h _
   rw [←h]
   refine⟨by omega,?_⟩
   rw [show p+1 - 1 - p=0 by omega]
   exact h34
  rw [if_neg h34] at h
  by_cases h32:l.getD 0 0<32
  ·rw [if_pos h32] at h;simp at h
  rw [if_neg h32] at h
  have step:∀m acc',textG f (l.drop m) (p+m) acc'=(t,n,0)→p<n∧l.getD (n - 1 - p) 0=34:=by
   intro m acc' h
   obtain⟨h1,h2⟩:=ih _ _ _ _ _ h
   refine⟨by omega,?_⟩
   rw [List.getD_eq_getElem?_getD,List.getElem?_drop,show m+(n - 1 - (p+m))=n - 1 - p by omega,←List.getD_eq_getElem?_getD] at h2
   exact h2
  by_cases h92:l.getD 0 0=92
  ·rw [if_pos h92] at h
   by_cases he:(escV l).2.2=0
   ·rw [if_pos he] at h;exact step _ _ h
   ·rw [if_neg he] at h
    injection h with _ h
    injection h with _ h
    have:=(escV_len l).2.2.1
    omega
  ·rw [if_neg h92] at h;exact step _ _ h
theorem idxP_at {a b:Nat}:∀(l:List Nat) (n:Nat),idxP a b l=some n→n+1<l.length∧l.getD (n+1) 0=b:=by
 intro l
 induction l with
 | nil=>intro n h;cases h
 | cons x l ih=>
  intro n h
  rw [idxP] at h
  by_cases hc:x=a∧l.head? = some b
  ·rw [if_pos hc] at h
   injection h with h
   subst h
   cases l with
   | nil=>simp at hc
   | cons y l=>simp at hc;exact⟨by simp,by simpa using hc.2⟩
  ·rw [if_neg hc] at h
   cases hi:idxP a b l with
   | none=>rw [hi] at h;cases h
   | some m=>
    rw [hi] at h
    injection h with h
    obtain⟨h1,h2⟩:=ih m hi
    rw [←h]
    exact⟨by simp;omega,by simpa using h2⟩
theorem tok_after {l:List Nat} (hb:By l) (hv:VU l) (hne:l≠[]) (h:(tokV l).2=0):VU (l.drop (tokV l).1.to_):=by
 obtain⟨c,t,rfl⟩:∃c t,l=c :: t:=by cases l with | nil=>exact absurd rfl hne | cons c t=>exact⟨c,t,rfl⟩
 have e0:(c :: t).getD 0 0=c:=rfl
 unfold tokV at h ⊢
 rw [e0] at h ⊢
 by_cases h1:isPunct c=true
 ·rw [if_pos h1]
  have hc:c<128:=by unfold isPunct at h1;have:=of_decide_eq_true h1;omega
  exact hv.tail hc
 rw [if_neg h1] at h ⊢
 by_cases h2:c=34
 ·rw [if_pos h2] at h ⊢
  subst h2
  have hq:=quotV_text hb hv
  have h0:(quotV (34 :: t)).2.2=0:=h
  obtain⟨tx,n,e⟩:∃x y,quotV (34 :: t)=(x,y,0):=⟨_,_,Prod.ext rfl (Prod.ext rfl h0)⟩
  show VU ((34 :: t).drop (quotV (34 :: t)).2.1)
  have hbd:=quotV_bd (34 :: t)
  rw [e] at hbd ⊢
  rw [hq] at e
  obtain⟨h3,h4⟩:=text_last _ _ _ _ _ _ e
  refine hv.after (by show 1≤n;omega) hbd.1 ?_
  show(34 :: t).getD (n - 1) 0<128
  rw [show n - 1=(n - 1 - 1)+1 by omega]
  have:(34 :: t).getD (n - 1 - 1+1) 0=t.getD (n - 1 - 1) 0:=by simp
  rw [this,h4]
  omega
 rw [if_neg h2] at h ⊢
 by_cases h3:(letB c || numB c)=true
 ·rw [if_pos h3] at h ⊢
  have hs:=seqV_bd (c :: t)
  rw [hs.2.2.1 h]
  refine hv.pass _ (fun j hj=>?_) (seqN_le _)
  have hx:j<(c :: t).length:=Nat.lt_of_lt_of_le hj (seqN_le _)
  rw [List.getD_eq_getElem?_getD,List.getElem?_eq_getElem hx]
  refine seqN_all (c :: t) _ (List.mem_of_getElem? (i:=j) ?_)
  rw [List.getElem?_take,if_pos hj,List.getElem?_eq_getElem hx]
  rfl
 ·rw [if_neg h3] at h;exact absurd h (by decide)
theorem comm_after {l:List Nat} (hv:VU l) (h:0<commV l):(commV l).toNat≤l.length∧VU (l.drop (commV l).toNat):=by
 unfold commV at h ⊢
 by_cases h1:hasP [47,47] l=true
 ·rw [if_pos h1] at h ⊢
  cases hi:idxB 10 l with
  | none=>
   simp only [Int.toNat_natCast]
   exact⟨Nat.le_refl _,by rw [List.drop_length];exact VU.nil⟩
  | some n=>
   obtain⟨n1,n2⟩:=idxB_at hi
   simp only [Int.toNat_natCast]
   exact⟨by omega,hv.drop n (by rw [getD_drop,n2];omega)⟩
 ·rw [if_neg h1] at h ⊢
  by_cases h2:hasP [47,42] l=true
  ·rw [if_pos h2] at h ⊢
   cases hi:idxP 42 47 (l.drop 2) with
   | none=>rw [hi] at h;simp at h
   | some n=>
    obtain⟨n1,n2⟩:=idxP_at _ _ hi
    rw [List.length_drop] at n1
    simp only [Int.toNat_natCast]
    refine⟨by omega,hv.after (by omega) (by omega) ?_⟩
    rw [List.getD_eq_getElem?_getD,List.getElem?_drop,←List.getD_eq_getElem?_getD] at n2
    rw [show n+4 - 1=2+(n+1) by omega,n2]
    omega
  ·rw [if_neg h2] at h;exact absurd h (by decide)
end Go.Proofs.YtijoollonkibfaaGreatDoor
namespace Go.Proofs.YtijoollonkibfaaGreatDoor
open Go.RowKit
def encR (n:Nat):List Nat:=
 if n<128 then [n] else if n<2048 then [192+n / 64,128+n % 64] else if n<65536 then [224+n / 4096,128+n / 64 % 64,128+n % 64]
 else [240+n / 262144,128+n / 4096 % 64,128+n / 64 % 64,128+n % 64]
theorem encR_eq (n:Nat) (h:n≤1114111) (hs:n<55296∨57343<n):encR n=encL (n:Int):=by
 have hb:∀x:Int,0≤x→x<256→(x.toNat.toUInt8).toNat=x.toNat:=fun x h0 h1=>by simp;omega
 unfold encR encL Lib.encodeRune
 by_cases h1:n<128
 ·rw [if_pos h1,Lib.encodeRuneZ_one (by omega) (by omega)]
  simp only [List.map_cons,List.map_nil]
  rw [hb _ (by omega) (by omega)]
  simp
 rw [if_neg h1]
 by_cases h2:n<2048
 ·rw [if_pos h2,Lib.encodeRuneZ_two (by omega) (by omega)]
  simp only [List.map_cons,List.map_nil]
  rw [hb _ (by omega) (by omega),hb _ (by omega) (by omega)]
  simp only [List.cons.injEq,and_true]
  omega
 rw [if_neg h2]
 by_cases h3:n<65536
 ·rw [if_pos h3,Lib.encodeRuneZ_three (by omega)]
  simp only [List.map_cons,List.map_nil]
  rw [hb _ (by omega) (by omega),hb _ (by omega) (by omega),hb _ (by omega) (by omega)]
  simp only [List.cons.injEq,and_true]
  omega
 rw [if_neg h3,Lib.encodeRuneZ_four (by omega) (by omega)]
 simp only [List.map_cons,List.map_nil]
 rw [hb _ (by omega) (by omega),hb _ (by omega) (by omega),hb _ (by omega) (by omega),hb _ (by omega) (by omega)]
 simp only [List.cons.injEq,and_true]
 omega
end Go.Proofs.YtijoollonkibfaaGreatDoor
namespace Go.Proofs.YtijoollonkibfaaGreatDoor
open Go.RowKit
set_option maxHeartbeats 1000000 in
theorem decN_more {n n' b0 b1 b2 b3 c1 c2 c3:Nat} (h:Lib.decodeN n b0 b1 b2 b3≠(65533,1)) (hn:n≤n') (h1:1<n→c1=b1) (h2:2<n→c2=b2) (h3:3<n→c3=b3):Lib.decodeN n' b0 c1 c2 c3=Lib.decodeN n b0 b1 b2 b3:=by
 by_cases a0:b0<128
 ·rw [Lib.decodeN_ascii _ _ _ _ _ a0,Lib.decodeN_ascii _ _ _ _ _ a0]
 unfold Lib.decodeN at h ⊢
 rw [if_neg a0] at h ⊢
 rw [if_neg a0]
 by_cases a1:b0 / 32=6∧(1<n∧b1 / 64=2)
 ·rw [if_pos a1,h1 a1.2.1,if_pos ⟨a1.1,by omega,a1.2.2⟩]
 rw [if_neg a1] at h ⊢
 by_cases a2:b0 / 16=14∧(1<n∧b1 / 64=2)∧(2<n∧b2 / 64=2)
 ·rw [if_pos a2,h1 a2.2.1.1,h2 a2.2.2.1,if_neg (fun e=>by omega),if_pos ⟨a2.1,⟨by omega,a2.2.1.2⟩,by omega,a2.2.2.2⟩]
 rw [if_neg a2] at h ⊢
 by_cases a3:b0 / 8=30∧(1<n∧b1 / 64=2)∧(2<n∧b2 / 64=2)∧(3<n∧b3 / 64=2)
 ·rw [if_pos a3,h1 a3.2.1.1,h2 a3.2.2.1.1,h3 a3.2.2.2.1,if_neg (fun e=>by omega),if_neg (fun e=>by omega),if_pos ⟨a3.1,⟨by omega,a3.2.1.2⟩,⟨by omega,a3.2.2.1.2⟩,by omega,a3.2.2.2.2⟩]
 rw [if_neg a3] at h
 exact absurd rfl h
theorem getD_app_n {l:List Nat} (m:List Nat) {i:Nat} (h:i<l.length):(l ++ m).getD i 0=l.getD i 0:=by
 rw [List.getD_eq_getElem?_getD,List.getD_eq_getElem?_getD,List.getElem?_append_left h]
theorem decL_more {l:List Nat} (m:List Nat) (hne:l≠[]) (h:decL l≠(65533,1)):decL (l ++ m)=decL l:=by
 have hp:=List.length_pos_iff.2 hne
 rw [decL_N] at h
 rw [decL_N,decL_N,getD_app_n m hp]
 exact decN_more h (by rw [List.length_append];omega) (fun h1=>by rw [getD_app_n m h1]) (fun h1=>by rw [getD_app_n m h1]) (fun h1=>by rw [getD_app_n m h1])
theorem VU.cons_step {l:List Nat} (hne:l≠[]) (h:decL l≠(65533,1)) (hv:VU (l.drop (decL l).2)):VU l:=by
 have hp:=List.length_pos_iff.2 hne
 unfold VU at hv ⊢
 obtain⟨n,hn⟩:∃n,l.length=n+1:=⟨l.length - 1,by omega⟩
 rw [hn,checkG,if_neg hne,if_neg h]
 exact check_gen hv (Nat.le_refl _) (by rw [List.length_drop];have:=(decL_bd l).2;omega)
theorem VU.app (m:List Nat) (hm:VU m):∀(n:Nat) (l:List Nat),l.length≤n→VU l→VU (l ++ m):=by
 intro n
 induction n with
 | zero=>intro l h _;rw [List.eq_nil_of_length_eq_zero (by omega:l.length=0)];exact hm
 | succ n ih=>
  intro l hl h
  by_cases hne:l = []
  ·subst hne;exact hm
  obtain⟨h1,h2⟩:=h.step hne
  have hd:=decL_more m hne h1
  refine VU.cons_step (by simp [hne]) (by rw [hd];exact h1) ?_
  rw [hd,List.drop_append_of_le_length (decL_le l hne)]
  exact ih _ (by rw [List.length_drop];have:=(decL_bd l).2;have:=List.length_pos_iff.2 hne;omega) h2
theorem decN_2 {b0 b1 n k:Nat} (hk:1<k) (e0:b0=192+n / 64) (e1:b1=128+n % 64) (h1:128≤n) (h2:n<2048) (x y:Nat):Lib.decodeN k b0 b1 x y=(n,2):=by
 unfold Lib.decodeN
 rw [if_neg (by omega),if_pos ⟨by omega,hk,by omega⟩,if_pos (by omega)]
 have:b0 % 32*64+b1 % 64=n:=by omega
 rw [this]
theorem decN_3 {b0 b1 b2 n k:Nat} (hk:2<k) (e0:b0=224+n / 4096) (e1:b1=128+n / 64 % 64) (e2:b2=128+n % 64) (h1:2048≤n) (h2:n<65536) (hs:n<55296∨57343<n) (y:Nat):Lib.decodeN k b0 b1 b2 y=(n,3):=by
 have this:b0 % 16*4096+b1 % 64*64+b2 % 64=n:=by omega
 unfold Lib.decodeN
 rw [if_neg (by omega),if_neg (fun e=>by omega),if_pos ⟨by omega,⟨by omega,by omega⟩,hk,by omega⟩,this,if_pos (by omega)]
theorem decN_4 {b0 b1 b2 b3 n k:Nat} (hk:3<k) (e0:b0=240+n / 262144) (e1:b1=128+n / 4096 % 64) (e2:b2=128+n / 64 % 64) (e3:b3=128+n % 64) (h1:65536≤n) (h2:n≤1114111):Lib.decodeN k b0 b1 b2 b3=(n,4):=by
 have this:b0 % 8*262144+b1 % 64*4096+b2 % 64*64+b3 % 64=n:=by omega
 unfold Lib.decodeN
 rw [if_neg (by omega),if_neg (fun e=>by omega),if_neg (fun e=>by omega),if_pos ⟨by omega,⟨by omega,by omega⟩,⟨by omega,by omega⟩,hk,by omega⟩,this,if_pos (by omega)]
theorem VU.enc {n:Nat} (h:n≤1114111) (hs:n<55296∨57343<n):VU (encL (n:Int)):=by
 rw [←encR_eq n h hs]
 have fin:∀(l:List Nat) (k:Nat),l≠[]→decL l=(n,k)→k≠1→l.length=k→VU l:=fun l k h1 h2 h3 h4=>by
  refine VU.cons_step h1 (by rw [h2];intro e;injection e with _ e;exact h3 e) ?_
  rw [h2,List.drop_of_length_le (by show l.length≤k;omega)]
  exact VU.nil
 unfold encR
 split
 ·rename_i h1
  refine VU.cons_step (by simp) (by rw [decL_ascii _ h1];intro e;injection e with e;omega) ?_
  rw [decL_ascii _ h1]
  exact VU.nil
 split
 ·refine fin _ 2 (by simp) ?_ (by omega) rfl
  rw [decL_N]
  exact decN_2 (n:=n) (by simp) (by simp;omega) (by simp;omega) (by omega) (by omega) _ _
 split
 ·refine fin _ 3 (by simp) ?_ (by omega) rfl
  rw [decL_N]
  exact decN_3 (n:=n) (by simp) (by simp;omega) (by simp;omega) (by simp;omega) (by omega) (by omega) hs _
 ·refine fin _ 4 (by simp) ?_ (by omega) rfl
  rw [decL_N]
  exact decN_4 (n:=n) (by simp) (by simp;omega) (by simp;omega) (by simp;omega) (by simp;omega) (by omega) h
theorem dec_range {l:List Nat} (h:decL l≠(65533,1)):(decL l).1≤1114111∧((decL l).1<55296∨57343<(decL l).1):=by
 rw [decL_N] at h ⊢
 unfold Lib.decodeN at h ⊢
 split
 ·simp only;omega
 rename_i a0
 rw [if_neg a0] at h
 split
 ·rename_i a1
  rw [if_pos a1] at h
  split
  ·simp only;omega
  ·rename_i a;rw [if_neg a] at h;exact absurd rfl h
 rename_i a1
 rw [if_neg a1] at h
 split
 ·rename_i a2
  rw [if_pos a2] at h
  split
  ·simp only;omega
  ·rename_i a;rw [if_neg a] at h;exact absurd rfl h
 rename_i a2
 rw [if_neg a2] at h
 split
 ·rename_i a3
  rw [if_pos a3] at h
  split
  ·simp only;omega
  ·rename_i a;rw [if_neg a] at h;exact absurd rfl h
 ·rename_i a3
  rw [if_neg a3] at h
  exact absurd rfl h
end Go.Proofs.YtijoollonkibfaaGreatDoor
namespace Go.Proofs.YtijoollonkibfaaGreatDoor
open Go.RowKit
theorem meanV_128 (c:Nat):meanV c<128:=by unfold meanV;(repeat' split) <;> omega
theorem esc_range {l:List Nat} (h:(escV l).2.2=0):∃n:Nat,(escV l).1=(n:Int)∧n≤1114111∧(n<55296∨57343<n):=by
 have hb:=unitV_bd l
 have hb6:=unitV_bd (l.drop 6)
 unfold escV at h ⊢
 by_cases h1:unitV l<0
 ·rw [if_pos h1] at h ⊢
  by_cases h2:1<l.length∧0<meanV (l.getD 1 0)
  ·rw [if_pos h2]
   have:=meanV_128 (l.getD 1 0)
   exact⟨meanV (l.getD 1 0),rfl,by omega,by omega⟩
  ·rw [if_neg h2] at h;exact absurd h (by decide)
 rw [if_neg h1] at h ⊢
 by_cases h3:unitV l<55296∨57343<unitV l
 ·rw [if_pos h3]
  exact⟨(unitV l).toNat,by simp only;omega,by omega,by omega⟩
 rw [if_neg h3] at h ⊢
 by_cases h4:56319<unitV l∨unitV (l.drop 6)<56320∨57343<unitV (l.drop 6)
 ·rw [if_pos h4] at h;exact absurd h (by decide)
 ·rw [if_neg h4]
  exact⟨(65536+(unitV l - 55296)*1024+unitV (l.drop 6) - 56320).toNat,by simp only;omega,by omega,by omega⟩
theorem quot_vu (f:Nat):∀(l:List Nat) (p nx:Nat) (acc:List Nat),VU l→VU acc→VU (quotG f l p nx acc).1:=by
 induction f with
 | zero=>intro l p nx acc _ _;rw [quotG];exact VU.nil
 | succ f ih=>
  intro l p nx acc hl ha
  by_cases hne:l = []
  ·subst hne;rw [quotG_end];exact VU.nil
  obtain⟨hd,hs⟩:=hl.step hne
  have add:∀n:Nat,n≤1114111→(n<55296∨57343<n)→VU (acc ++ encL (n:Int)):=fun n h1 h2=>VU.app _ (VU.enc h1 h2) _ _ (Nat.le_refl _) ha
  by_cases hp:p<nx
  ·rw [quotG_skip hne hp];exact ih _ _ _ _ hs ha
  by_cases h34:(decL l).1=34
  ·rw [quotG_quote hne hp h34];exact ha
  by_cases h32:(decL l).1<32
  ·rw [quotG_low hne hp h34 h32];exact VU.nil
  by_cases h92:(decL l).1=92
  ·by_cases he:(escV l).2.2=0
   ·rw [quotG_esc hne hp h92 he]
    obtain⟨n,e1,e2,e3⟩:=esc_range he
    rw [e1]
    exact ih _ _ _ _ hs (add n e2 e3)
   ·rw [quotG_bad hne hp h92 he];exact VU.nil
  ·rw [quotG_rune hne hp h34 h32 h92]
   have hr:=dec_range hd
   exact ih _ _ _ _ hs (add _ hr.1 hr.2)
def TokU (t:JTok):Prop:=t.kind=2→VU t.text
theorem no_2 {a:Nat} (h:a=2) (h1:a≠2) {p:Prop}:p:=absurd h h1
theorem tokV_u {l:List Nat} (hv:VU l):TokU (tokV l).1:=by
 unfold TokU tokV
 split
 ·intro h;exact no_2 (show(1:Nat)=2 from h) (by decide)
 split
 ·intro _;exact quot_vu _ _ _ _ _ hv VU.nil
 split
 ·unfold seqV
  split
  ·split
   ·intro h;exact no_2 (show(0:Nat)=2 from h) (by decide)
   ·intro h;exact no_2 (show(3:Nat)=2 from h) (by decide)
  ·split
   ·intro h;exact no_2 (show(4:Nat)=2 from h) (by decide)
   ·intro h;exact no_2 (show(0:Nat)=2 from h) (by decide)
 ·intro h;exact no_2 (show(0:Nat)=2 from h) (by decide)
theorem scan_u:∀(f a:Nat) (l:List Nat) (ts:List JTok) (ns:List JNote),By l→VU l→(∀t∈ts,TokU t)→∀t∈(scanG f a l ts ns).toks,TokU t:=by
 intro f
 induction f with
 | zero=>intro a l ts ns _ _ h;rw [scanG];exact h
 | succ f ih=>
  intro a l ts ns hb hv h
  by_cases hne:l = []
  ·subst hne;rw [scanG_end];exact h
  by_cases hbl:isBlank (l.getD 0 0)=true
  ·rw [scanG_blank hne hbl]
   refine ih _ _ _ _ (hb.dropped _) ?_ h
   refine hv.after (Nat.le_refl _) (List.length_pos_iff.2 hne) ?_
   have:=of_decide_eq_true (show decide (_∨_∨_∨_)=true from hbl)
   rw [Nat.sub_self]
   omega
  by_cases hc:commV l<0
  ·rw [scanG_open hne hbl hc];intro t ht;cases ht
  by_cases hc2:0<commV l
  ·rw [scanG_note hne hbl hc2]
   exact ih _ _ _ _ (hb.dropped _) (comm_after hv hc2).2 h
  have hc3:commV l=0:=by omega
  by_cases ht:(tokV l).2=0
  ·rw [scanG_tok hne hbl hc3 ht]
   refine ih _ _ _ _ (hb.dropped _) (tok_after hb hv hne ht) (fun t h'=>?_)
   rcases List.mem_append.1 h' with h' | h'
   ·exact h t h'
   ·have:t=⟨(tokV l).1.kind,a,a+(tokV l).1.to_,(tokV l).1.text⟩:=by simpa using h'
    subst this
    exact tokV_u hv
  ·rw [scanG_bad hne hbl hc3 ht];intro t ht;cases ht
theorem scanV_u (s:List Nat) (hb:By s):∀t∈(scanV s).toks,TokU t:=by
 unfold scanV
 split
 ·intro t ht;cases ht
 ·split
  ·intro t ht;cases ht
  ·rename_i hk
   exact scan_u _ 0 s [] [] hb hk (fun t ht=>by cases ht)
theorem ckErr_vu {l:List Nat} (h:VU l):ckErr (checkV l)=0:=by
 unfold checkV
 rw [h]
 rfl
end Go.Proofs.YtijoollonkibfaaGreatDoor
namespace Go.Proofs.YtijoollonkibfaaGreatDoor
open Go.RowKit
def TokCh (n:Nat):Nat→List JTok→Prop
 | lo,[]=>lo≤n
 | lo,t :: r=>lo≤t.from_∧t.from_<t.to_∧TokCh n t.to_ r
def NoteCh (s:List Nat) (n:Nat):Nat→List JNote→Prop
 | lo,[]=>lo≤n
 | lo,x :: r=>lo≤x.from_∧x.from_<x.to_∧x.text=(s.drop x.from_).take (x.to_ - x.from_)∧NoteCh s n x.to_ r
theorem TokCh.le {n:Nat}:∀{lo:Nat} {l:List JTok},TokCh n lo l→lo≤n
 | _,[],h=>h
 | _,_ :: _,h=>by have:=TokCh.le h.2.2;have:=h.1;have:=h.2.1;omega
theorem TokCh.mono {n m:Nat} (hm:n≤m):∀{lo:Nat} {l:List JTok},TokCh n lo l→TokCh m lo l
 | _,[],h=>Nat.le_trans h hm
 | _,_ :: _,h=>⟨h.1,h.2.1,TokCh.mono hm h.2.2⟩
theorem TokCh.snoc {a b:Nat} (t:JTok) (h1:t.from_=a) (h2:t.to_=b) (hab:a<b):∀{lo:Nat} {l:List JTok},TokCh a lo l→TokCh b lo (l ++ [t])
 | _,[],h=>⟨by rw [h1];exact h,by omega,by rw [h2];exact Nat.le_refl _⟩
 | _,_ :: _,h=>⟨h.1,h.2.1,TokCh.snoc t h1 h2 hab h.2.2⟩
theorem TokCh.off {n:Nat}:∀{lo:Nat} {l:List JTok},TokCh n lo l→OffLe n l
 | _,[],_=>fun t ht=>by cases ht
 | _,x :: r,h=>fun t ht=>by
  rcases List.mem_cons.1 ht with rfl | ht
  ·have:=h.2.2.le;have:=h.2.1;omega
  ·exact TokCh.off h.2.2 t ht
theorem NoteCh.mono {s:List Nat} {n m:Nat} (hm:n≤m):∀{lo:Nat} {l:List JNote},NoteCh s n lo l→NoteCh s m lo l
 | _,[],h=>Nat.le_trans h hm
 | _,_ :: _,h=>⟨h.1,h.2.1,h.2.2.1,NoteCh.mono hm h.2.2.2⟩
theorem NoteCh.snoc {s:List Nat} {a b:Nat} (t:JNote) (h1:t.from_=a) (h2:t.to_=b) (hab:a<b) (htx:t.text=(s.drop t.from_).take (t.to_ - t.from_)):∀{lo:Nat} {l:List JNote},NoteCh s a lo l→NoteCh s b lo (l ++ [t])
 | _,[],h=>⟨by rw [h1];exact h,by omega,htx,by rw [h2];exact Nat.le_refl _⟩
 | _,_ :: _,h=>⟨h.1,h.2.1,h.2.2.1,NoteCh.snoc t h1 h2 hab htx h.2.2.2⟩
theorem scan_pos (s:List Nat):∀(f a:Nat) (l:List Nat) (ts:List JTok) (ns:List JNote),s.drop a=l→a≤s.length→TokCh a 0 ts→NoteCh s a 0 ns →
  ((scanG f a l ts ns).err=0→TokCh s.length 0 (scanG f a l ts ns).toks∧NoteCh s s.length 0 (scanG f a l ts ns).notes)∧(scanG f a l ts ns).at_≤s.length:=by
 intro f
 induction f with
 | zero=>intro a l ts ns _ ha h1 h2;rw [scanG];exact⟨fun _=>⟨h1.mono ha,h2.mono ha⟩,Nat.zero_le _⟩
 | succ f ih=>
  intro a l ts ns hl ha h1 h2
  have hlen:l.length=s.length - a:=by rw [←hl,List.length_drop]
  by_cases hne:l = []
  ·subst hne;rw [scanG_end];exact⟨fun _=>⟨h1.mono ha,h2.mono ha⟩,Nat.zero_le _⟩
  have hpos:1≤l.length:=List.length_pos_iff.2 hne
  have hdrop:∀k,s.drop (a+k)=l.drop k:=fun k=>by rw [←hl,List.drop_drop]
  by_cases hb:isBlank (l.getD 0 0)=true
  ·rw [scanG_blank hne hb]
   exact ih (a+1) _ ts ns (hdrop 1) (by omega) (h1.mono (by omega)) (h2.mono (by omega))
  by_cases hc:commV l<0
  ·rw [scanG_open hne hb hc];exact⟨fun h=>by simp at h,ha⟩
  by_cases hc2:0<commV l
  ·rw [scanG_note hne hb hc2]
   have hbd:=(commV_bd l).2
   have hlt:a<a+(commV l).toNat:=by omega
   refine ih _ _ _ _ (hdrop _) (by omega) (h1.mono (by omega)) (h2.snoc (⟨a,a+(commV l).toNat,l.take (commV l).toNat⟩:JNote) rfl rfl hlt ?_)
   show l.take _=_
   rw [hl,Nat.add_sub_cancel_left]
  have hc3:commV l=0:=by omega
  by_cases ht:(tokV l).2=0
  ·rw [scanG_tok hne hb hc3 ht]
   have hbd:=tokV_bd l hne
   have:=hbd.2.1 ht
   have hlt:a<a+(tokV l).1.to_:=by omega
   exact ih _ _ _ _ (hdrop _) (by omega) (h1.snoc (⟨(tokV l).1.kind,a,a+(tokV l).1.to_,(tokV l).1.text⟩:JTok) rfl rfl hlt) (h2.mono (by omega))
  ·rw [scanG_bad hne hb hc3 ht]
   have hbd:=tokV_bd l hne
   exact⟨fun h=>absurd h ht,by show a+_≤_;omega⟩
theorem check_le:∀(f a:Nat) (l:List Nat) (k:Nat),checkG f a l=some k→k≤a+l.length:=by
 intro f
 induction f with
 | zero=>intro a l k h;simp [checkG] at h
 | succ f ih=>
  intro a l k h
  rw [checkG] at h
  split at h
  ·cases h
  ·rename_i hne
   split at h
   ·injection h with h;omega
   ·have:=ih _ _ _ h
    have hd:=decL_le l hne
    rw [List.length_drop] at this
    omega
theorem scanV_pos (s:List Nat):((scanV s).err=0→TokCh s.length 0 (scanV s).toks∧NoteCh s s.length 0 (scanV s).notes)∧(scanV s).at_≤s.length:=by
 unfold scanV
 split
 ·exact⟨fun h=>by simp at h,Nat.zero_le _⟩
 ·split
  ·rename_i k hk
   exact⟨fun h=>by simp at h,by have:=check_le _ _ _ _ hk;simp only;omega⟩
  ·exact scan_pos s _ 0 s [] [] rfl (Nat.zero_le _) (Nat.zero_le _) (Nat.zero_le _)
end Go.Proofs.YtijoollonkibfaaGreatDoor
namespace Go.Proofs.YtijoollonkibfaaGreatDoor
open Go.RowKit
def kidS (p:Int) (D:List JSpan):List JSpan:=D.filter (fun x=>decide (x.parent=p))
def KidAt:Bool→Int→JSpan→Prop
 | true,lo,c=>lo≤c.kf∧c.kf≤c.kt∧c.kt≤c.from_
 | false,lo,c=>c.kf=0∧c.kt=0∧lo≤c.from_
theorem KidAt.le {m:Bool} {a b:Int} {c:JSpan} (h:KidAt m b c) (hab:a≤b):KidAt m a c:=by
 cases m with
 | true=>exact⟨Int.le_trans hab h.1,h.2⟩
 | false=>exact⟨h.1,h.2.1,Int.le_trans hab h.2.2⟩
def NestCh (m:Bool) (hi:Int):Int→List JSpan→Prop
 | lo,[]=>lo≤hi
 | lo,c :: r=>KidAt m lo c∧c.from_≤c.to_∧NestCh m hi c.to_ r
theorem NestCh.mono {m:Bool} {a b:Int} (hm:a≤b):∀{lo:Int} {l:List JSpan},NestCh m a lo l→NestCh m b lo l
 | _,[],h=>Int.le_trans h hm
 | _,_ :: _,h=>⟨h.1,h.2.1,NestCh.mono hm h.2.2⟩
theorem NestCh.snoc {m:Bool} {a:Int} (c:JSpan) (h1:KidAt m a c) (h2:c.from_≤c.to_) :
  ∀{lo:Int} {l:List JSpan},NestCh m a lo l→NestCh m c.to_ lo (l ++ [c])
 | _,[],h=>⟨h1.le h,h2,Int.le_refl _⟩
 | _,_ :: _,h=>⟨h.1,h.2.1,NestCh.snoc c h1 h2 h.2.2⟩
theorem NestCh.le {m:Bool} {a:Int}:∀{lo:Int} {l:List JSpan},NestCh m a lo l→lo≤a
 | _,[],h=>h
 | lo,c :: _,h=>by
  have h1:=h.2.2.le
  have h2:=h.2.1
  have h3:=h.1
  cases m with
  | true=>have:=h3.1;have:=h3.2.1;have:=h3.2.2;omega
  | false=>have:=h3.2.2;omega
structure SpanI (N:List GNode) (D:List JSpan) (n:Nat) (i:Nat) (x:JSpan):Prop where
 nd:∃(m:Nat) (nd:GNode),x.node=(m:Int)∧N[m]? = some nd∧(kidS (i:Int) D).map (·.node)=nd.items∧NestCh (decide (nd.kind=10)) x.to_ x.from_ (kidS (i:Int) D)
 en:(kidS (i:Int) D).map (·.entry)=(List.range (kidS (i:Int) D).length).map Int.ofNat
 rg:0≤x.from_∧x.from_≤x.to_∧x.to_≤(n:Int)∧0≤x.kf∧x.kf≤x.kt∧x.kt≤(n:Int)
 al:x.alias_=false
 wh:x.whole=true
theorem SpanI.same {N N':List GNode} {D D':List JSpan} {n i:Nat} {x:JSpan} (h:SpanI N D n i x) (hN:∀(m:Nat) (nd:GNode),x.node=(m:Int)→N[m]? = some nd→N'[m]? = some nd) (hD:kidS (i:Int) D'=kidS (i:Int) D):SpanI N' D' n i x:=by
 obtain⟨⟨m,nd,h1,h2,h3,h4⟩,h5,h6,h7,h8⟩:=h
 exact⟨⟨m,nd,h1,hN m nd h1 h2,by rw [hD];exact h3,by rw [hD];exact h4⟩,by rw [hD];exact h5,h6,h7,h8⟩
theorem kidS_app (p:Int) (a b:List JSpan):kidS p (a ++ b)=kidS p a ++ kidS p b:=List.filter_append ..
theorem kidS_none {p:Int} {D:List JSpan} (h:∀x∈D,x.parent≠p):kidS p D = []:=by
 unfold kidS
 rw [List.filter_eq_nil_iff]
 intro x hx
 simp [h x hx]
theorem kidS_cons_ne {p:Int} {c:JSpan} {D:List JSpan} (h:c.parent≠p):kidS p (c :: D)=kidS p D:=by simp [kidS,h]
theorem kidS_cons_eq {p:Int} {c:JSpan} {D:List JSpan} (h:c.parent=p):kidS p (c :: D)=c :: kidS p D:=by simp [kidS,h]
def keysOf (N:List GNode):List Int:=N.flatMap (·.keys)
def itemsOf (N:List GNode):List Int:=N.flatMap (·.items)
def rng (a k:Nat):List Int:=(List.range' a k).map Int.ofNat
theorem rng_app (a k m:Nat):rng a (k+m)=rng a k ++ rng (a+k) m:=by
 unfold rng
 rw [←List.map_append,List.range'_append_1]
theorem rng_one (a:Nat):rng a 1 = [(a:Int)]:=by simp [rng]
structure ValI (st st':PSt) (s:JSpan) (n lo:Nat) (D:List JSpan) (DN:List GNode) (to':Nat):Prop where
 sp:st'.spans=st.spans ++ D
 no:st'.nodes=st.nodes ++ DN
 hd:∃fr rest,D = { s with node:=(st.nodes.length:Int),from_:=fr,to_:=(to':Int),whole:=true } :: rest∧(lo:Int)≤fr∧fr≤(to':Int)
 tk:TokCh n to' st'.left
 ok:∀j x,D[j]? = some x→SpanI st'.nodes D n (st.spans.length+j) x
 up:∀j x,0<j→D[j]? = some x→(st.spans.length:Int)≤x.parent∧x.parent<((st.spans.length+j:Nat):Int)
 ge:∀x∈D,(st.nodes.length:Int)≤x.node
 pm:(D.map (·.node) ++ keysOf DN).Perm (rng st.nodes.length DN.length)
 im:((st.nodes.length:Int) :: itemsOf DN).Perm (D.map (·.node))
structure LoopI (P:List JSpan) (c:JSpan) (Q:List GNode) (cn:GNode) (n:Nat) (obj:Bool) (x:PLoop) (D:List JSpan) (DN:List GNode) (lo hi:Nat):Prop where
 sp:x.st.spans=P ++ c :: D
 no:x.st.nodes=Q ++ cn :: DN
 tk:TokCh n lo x.st.left
 ok:∀j y,D[j]? = some y→SpanI x.st.nodes D n (P.length+1+j) y
 up:∀j y,D[j]? = some y→(P.length:Int)≤y.parent∧y.parent<((P.length+1+j:Nat):Int)
 ge:∀y∈D,(Q.length:Int)<y.node
 pm:(D.map (·.node) ++ keysOf DN ++ x.keys).Perm (rng (Q.length+1) DN.length)
 im:(itemsOf DN ++ x.items).Perm (D.map (·.node))
 it:(kidS (P.length:Int) D).map (·.node)=x.items
 en:(kidS (P.length:Int) D).map (·.entry)=(List.range (kidS (P.length:Int) D).length).map Int.ofNat
 ne:NestCh obj (hi:Int) c.from_ (kidS (P.length:Int) D)
theorem commaV_ch {en:Nat} {x y:PLoop} (h:commaV en x=.ok y):∃l,y = { x with st:={ x.st with left:=l } }∧∀n lo,TokCh n lo x.st.left→∃lo',lo≤lo'∧TokCh n lo' l:=by
 unfold commaV at h
 split at h
 ·injection h with h;exact⟨x.st.left,by rw [←h],fun n lo h=>⟨lo,Nat.le_refl _,h⟩⟩
 ·split at h
  ·injection h with h
   refine⟨x.st.left.drop 1,by rw [←h],fun n lo hc=>?_⟩
   cases hl:x.st.left with
   | nil=>rw [hl] at hc;exact⟨lo,Nat.le_refl _,hc⟩
   | cons t r=>rw [hl] at hc;exact⟨t.to_,by have:=hc.1;have:=hc.2.1;omega,hc.2.2⟩
  ·cases h
theorem keyV_ch {en d:Nat} {x z:PLoop} {s s':JSpan} (h:keyV en d x s=.ok (z,s')):∃tx l ks a b,
  z=⟨⟨l,x.st.nodes ++ [⟨5,tx,false,[],[]⟩],x.st.spans⟩,ks,x.keys ++ [(x.st.nodes.length:Int)],x.items⟩∧s' = { s with kf:=((a:Nat):Int),kt:=((b:Nat):Int) }∧∀n lo,TokCh n lo x.st.left→lo≤a∧a≤b∧b≤n∧∃lo',b≤lo'∧TokCh n lo' l:=by
 unfold keyV at h
 split at h
 ·cases h
 ·rename_i t r hl
  split at h
  ·cases h
  split at h
  ·cases h
  split at h
  ·cases h
  split at h
  ·cases h
  split at h
  ·injection h with h
   injection h with h1 h2
   refine⟨t.text,r.drop 1,_,t.from_,t.to_,h1.symm,h2.symm,fun n lo hc=>?_⟩
   rw [hl] at hc
   have e1:=hc.1
   have e2:=hc.2.1
   have e3:=hc.2.2.le
   refine⟨e1,by omega,e3,?_⟩
   cases r with
   | nil=>exact⟨t.to_,Nat.le_refl _,hc.2.2⟩
   | cons t2 r2=>exact⟨t2.to_,by have:=hc.2.2.1;have:=hc.2.2.2.1;omega,hc.2.2.2.2⟩
  ·cases h
end Go.Proofs.YtijoollonkibfaaGreatDoor
namespace Go.Proofs.YtijoollonkibfaaGreatDoor
open Go.RowKit
theorem perm_counts {a b:List Int} (h:∀x,a.count x=b.count x):a.Perm b:=List.perm_iff_count.2 h
theorem modify_mid {α:Type} (f:α→α):∀(P:List α) (c:α) (D:List α),(P ++ c :: D).modify P.length f=P ++ f c :: D
 | [],c,D=>by simp
 | a :: P,c,D=>by simp [modify_mid f P c D]
theorem set_midJ {α:Type} (y:α):∀(P:List α) (c:α) (D:List α),(P ++ c :: D).set P.length y=P ++ y :: D
 | [],c,D=>by simp
 | a :: P,c,D=>by simp [set_midJ y P c D]
variable {P:List JSpan} {c:JSpan} {Q:List GNode} {cn:GNode} {n:Nat} {obj:Bool}
theorem LoopI.left {x:PLoop} {D:List JSpan} {DN:List GNode} {lo hi:Nat} (h:LoopI P c Q cn n obj x D DN lo hi) {l:List JTok} {lo':Nat} (hl:TokCh n lo' l):LoopI P c Q cn n obj { x with st:={ x.st with left:=l } } D DN lo' hi:=
 ⟨h.sp,h.no,hl,h.ok,h.up,h.ge,h.pm,h.im,h.it,h.en,h.ne⟩
theorem LoopI.nl {x:PLoop} {D:List JSpan} {DN:List GNode} {lo hi:Nat} (h:LoopI P c Q cn n obj x D DN lo hi):x.st.nodes.length=Q.length+1+DN.length:=by
 rw [h.no,List.length_append,List.length_cons];omega
theorem LoopI.sl {x:PLoop} {D:List JSpan} {DN:List GNode} {lo hi:Nat} (h:LoopI P c Q cn n obj x D DN lo hi):x.st.spans.length=P.length+1+D.length:=by
 rw [h.sp,List.length_append,List.length_cons];omega
theorem LoopI.key {x:PLoop} {D:List JSpan} {DN:List GNode} {lo hi:Nat} (h:LoopI P c Q cn n obj x D DN lo hi) {l:List JTok} {lo':Nat} (hl:TokCh n lo' l) (tx:List Nat) (ks:List (List Nat)) :
  LoopI P c Q cn n obj ⟨⟨l,x.st.nodes ++ [⟨5,tx,false,[],[]⟩],x.st.spans⟩,ks,x.keys ++ [(x.st.nodes.length:Int)],x.items⟩ D (DN ++ [⟨5,tx,false,[],[]⟩]) lo' hi:=by
 refine⟨h.sp,by simp [h.no],hl,fun j y hy=>?_,h.up,h.ge,?_,?_,h.it,h.en,h.ne⟩
 ·refine(h.ok j y hy).same (fun m nd _ hm=>?_) rfl
  simp only
  rw [List.getElem?_append_left (List.getElem?_eq_some_iff.1 hm).1]
  exact hm
 ·refine perm_counts fun a=>?_
  have:=h.pm.count_eq a
  rw [List.length_append,List.length_singleton,rng_app,rng_one,h.nl]
  simp only [keysOf,List.flatMap_append,List.flatMap_cons,List.flatMap_nil,List.append_nil,List.count_append] at this ⊢
  omega
 ·have:=h.im
  simp only [itemsOf,List.flatMap_append,List.flatMap_cons,List.flatMap_nil,List.append_nil] at this ⊢
  exact this
theorem LoopI.val {z:PLoop} {D D1:List JSpan} {DN DN1:List GNode} {lo hi to1:Nat} {st1:PSt} {s:JSpan} (h:LoopI P c Q cn n obj z D DN lo hi) (hp:s.parent=(P.length:Int)) (he:s.entry=(z.items.length:Int))
  (hk:∀nd fr te,(lo:Int)≤fr→KidAt obj hi { s with node:=nd,from_:=fr,to_:=te,whole:=true }) (v:ValI z.st st1 s n lo D1 DN1 to1) (ks:List (List Nat)) :
  LoopI P c Q cn n obj ⟨st1,ks,z.keys,z.items ++ [(z.st.nodes.length:Int)]⟩ (D ++ D1) (DN ++ DN1) to1 to1:=by
 have hnl:=h.nl
 have hsl:=h.sl
 obtain⟨fr,rest,hD1,hfr,hto⟩:=v.hd
 have hrest:∀x∈rest,(z.st.spans.length:Int)≤x.parent:=fun x hx=>by
  obtain⟨j,hj,he⟩:=List.mem_iff_getElem.1 hx
  refine(v.up (j+1) x (by omega) ?_).1
  rw [hD1,List.getElem?_cons_succ,List.getElem?_eq_getElem hj,he]
 have hpar1:∀x∈D1,x.parent=(P.length:Int)∨(z.st.spans.length:Int)≤x.parent:=fun x hx=>by
  rw [hD1] at hx
  rcases List.mem_cons.1 hx with rfl | hx
  ·exact .inl hp
  ·exact .inr (hrest x hx)
 have hparD:∀x∈D,x.parent<(z.st.spans.length:Int):=fun x hx=>by
  obtain⟨j,hj,he⟩:=List.mem_iff_getElem.1 hx
  have:=(h.up j x (by rw [List.getElem?_eq_getElem hj,he])).2
  omega
 have hkid:kidS (P.length:Int) (D ++ D1)=kidS (P.length:Int) D ++ [{ s with node:=(z.st.nodes.length:Int),from_:=fr,to_:=(to1:Int),whole:=true }]:=by
  rw [kidS_app,hD1,kidS_cons_eq (by simp only;exact hp),kidS_none (D:=rest) (fun x hx e=>by have:=hrest x hx;omega)]
 have hlen:(kidS (P.length:Int) D).length=z.items.length:=by rw [←h.it,List.length_map]
 refine⟨by simp only;rw [v.sp,h.sp];simp,by simp only;rw [v.no,h.no];simp,v.tk,fun j y hy=>?_,fun j y hy=>?_,fun y hy=>?_,?_,?_,?_,?_,?_⟩
 ·by_cases hj:j<D.length
  ·rw [List.getElem?_append_left hj] at hy
   refine(h.ok j y hy).same (fun m nd _ hm=>?_) ?_
   ·simp only
    rw [v.no,List.getElem?_append_left (List.getElem?_eq_some_iff.1 hm).1]
    exact hm
   ·rw [kidS_app,kidS_none (D:=D1) (fun x hx e=>by rcases hpar1 x hx with h1 | h1 <;> omega),List.append_nil]
  ·rw [List.getElem?_append_right (by omega)] at hy
   have:=v.ok _ y hy
   rw [show z.st.spans.length+(j - D.length)=P.length+1+j by omega] at this
   refine this.same (fun m nd _ hm=>hm) ?_
   rw [kidS_app,kidS_none (D:=D) (fun x hx e=>by have:=hparD x hx;omega),List.nil_append]
 ·by_cases hj:j<D.length
  ·rw [List.getElem?_append_left hj] at hy
   exact h.up j y hy
  ·rw [List.getElem?_append_right (by omega)] at hy
   by_cases h0:j - D.length=0
   ·rw [h0,hD1] at hy
    simp only [List.getElem?_cons_zero,Option.some.injEq] at hy
    subst hy
    simp only
    omega
   ·have:=v.up _ y (by omega) hy
    omega
 ·rcases List.mem_append.1 hy with h1 | h1
  ·exact h.ge y h1
  ·have:=v.ge y h1;omega
 ·refine perm_counts fun a=>?_
  have e1:=h.pm.count_eq a
  have e2:=v.pm.count_eq a
  rw [hnl] at e2
  rw [List.length_append,rng_app,show Q.length+1+DN.length=Q.length+1+DN.length from rfl]
  simp only [keysOf,List.map_append,List.flatMap_append,List.count_append] at e1 e2 ⊢
  omega
 ·refine perm_counts fun a=>?_
  have e1:=h.im.count_eq a
  have e2:=v.im.count_eq a
  simp only [itemsOf,List.map_append,List.flatMap_append,List.count_append,List.count_cons,List.count_nil] at e1 e2 ⊢
  omega
 ·rw [hkid,List.map_append,h.it];rfl
 ·rw [hkid,List.map_append,h.en,List.length_append,List.length_singleton,List.range_succ,List.map_append,hlen]
  simp [he]
 ·rw [hkid]
  exact h.ne.snoc _ (hk _ _ _ hfr) hto
theorem json_spans (en n f:Nat) :
  (∀st s d v st' lo,TokCh n lo st.left→s.alias_=false→s.parent<(st.spans.length:Int)→0≤s.kf→s.kf≤s.kt→s.kt≤(n:Int)→valueV en f st s d=.ok (v,st')→v=(st.nodes.length:Int)∧∃D DN to',ValI st st' s n lo D DN to') ∧
  (∀obj d x y P c Q cn D DN lo hi,LoopI P c Q cn n obj x D DN lo hi→hi≤lo→itemsV en f obj P.length d x=.ok y→∃D' DN' lo' hi',LoopI P c Q cn n obj y D' DN' lo' hi'∧hi'≤lo'∧isV y.st.left (if obj then [125] else [93])=true):=by
 induction f with
 | zero=>
  constructor
  ·intro st s d v st' lo _ _ _ _ _ _ h;rw [valueV] at h;cases h
  ·intro obj d x y P c Q cn D DN lo hi _ _ h;rw [itemsV] at h;cases h
 | succ f ih=>
  constructor
  ·intro st s d v st' lo hc ha hp k1 k2 k3 h
   rw [valueV] at h
   cases hl:st.left with
   | nil=>rw [hl] at h;cases h
   | cons t r=>
    rw [hl] at h hc
    obtain⟨c1,c2,c3⟩:=hc
    have c4:=c3.le
    simp only at h
    split at h
    ·cases h
    split at h
    ·cases h
    split at h
    ·cases h
    split at h
    ·split at h
     ·cases h
     ·rename_i y hy
      injection h with h
      injection h with hv hst
      obtain⟨D,DN,lo',hi',hL,hhl,hcl⟩:=ih.2 _ _ _ y st.spans { s with node:=(st.nodes.length:Int),from_:=(t.from_:Int),whole:=true } st.nodes ⟨if t.text = [123] then 10 else 9,[],false,[],[]⟩ [] [] t.to_ t.to_
       (LoopI.mk rfl rfl c3 (fun j y hy=>by simp at hy) (fun j y hy=>by simp at hy) (fun y hy=>by cases hy) (by simp [keysOf,rng]) (by simp [itemsOf]) (by simp [kidS]) (by simp [kidS]) (by simp only [kidS,List.filter_nil];exact Int.ofNat_le.2 (Nat.le_of_lt c2))) (Nat.le_refl _) hy
      refine⟨hv.symm,?_⟩
      cases hyl:y.st.left with
      | nil=>rw [hyl] at hcl;simp [isV] at hcl
      | cons t2 r2=>
       have htk:=hL.tk
       rw [hyl] at htk
       obtain⟨q1,q2,q3⟩:=htk
       have q4:=q3.le
       have hsp:=hL.sp
       have hno:=hL.no
       rw [hyl,hsp,hno] at hst
       simp only [List.head?_cons,Option.map_some,Option.getD_some,List.drop_succ_cons,List.drop_zero] at hst
       rw [modify_mid,set_midJ] at hst
       subst hst
       have hkc:∀(i:Int) (x0:JSpan),(st.spans.length:Int)≤i→x0.parent=s.parent→kidS i (x0 :: D)=kidS i D:=fun i x0 hi e=>kidS_cons_ne (by omega)
       refine⟨_ :: D,⟨if t.text = [123] then 10 else 9,[],false,y.keys,y.items⟩ :: DN,t2.to_,rfl,rfl,⟨(t.from_:Int),D,rfl,by omega,by have:=hL.ne.le;simp only at this;omega⟩,q3,fun j x hj=>?_,fun j x h0 hj=>?_,fun x hx=>?_,?_,?_⟩
       ·cases j with
        | zero=>
         simp only [List.getElem?_cons_zero,Option.some.injEq] at hj
         subst hj
         refine⟨⟨st.nodes.length,_,rfl,by simp only;rw [List.getElem?_append_right (Nat.le_refl _),Nat.sub_self];rfl,?_,?_⟩,?_,?_,ha,rfl⟩
         ·rw [hkc _ _ (by simp) (by rfl)];exact hL.it
         ·rw [hkc _ _ (by simp) (by rfl)]
          have e:decide ((if t.text = [123] then (10:Int) else 9)=10)=decide (t.text = [123]):=by split <;> simp_all
          simp only [e]
          exact hL.ne.mono (by omega)
         ·rw [hkc _ _ (by simp) (by rfl)];exact hL.en
         ·have:=hL.ne.le
          simp only at this ⊢
          omega
        | succ j=>
         rw [List.getElem?_cons_succ] at hj
         have:=hL.ok j x hj
         rw [show st.spans.length+1+j=st.spans.length+(j+1) by omega] at this
         refine this.same (fun m nd hm hn=>?_) (hkc _ _ (by omega) (by rfl))
         have hg:=hL.ge x (List.mem_of_getElem? hj)
         have hm2:st.nodes.length<m:=by omega
         rw [hno] at hn
         simp only
         rw [List.getElem?_append_right (by omega)] at hn ⊢
         obtain⟨k,hk⟩:∃k,m - st.nodes.length=k+1:=⟨m - st.nodes.length - 1,by omega⟩
         rw [hk,List.getElem?_cons_succ] at hn ⊢
         exact hn
       ·obtain⟨k,rfl⟩:∃k,j=k+1:=⟨j - 1,by omega⟩
        rw [List.getElem?_cons_succ] at hj
        have:=hL.up k x hj
        omega
       ·rcases List.mem_cons.1 hx with rfl | hx
        ·exact Int.le_refl _
        ·exact Int.le_of_lt (hL.ge x hx)
       ·refine perm_counts fun a=>?_
        have e1:=hL.pm.count_eq a
        rw [List.length_cons,show DN.length+1=1+DN.length by omega,rng_app,rng_one]
        simp only [keysOf,List.map_cons,List.flatMap_cons,List.count_append,List.count_cons,List.count_nil] at e1 ⊢
        omega
       ·refine perm_counts fun a=>?_
        have e1:=hL.im.count_eq a
        simp only [itemsOf,List.map_cons,List.flatMap_cons,List.count_append,List.count_cons] at e1 ⊢
        omega
    ·split at h
     ·cases h
     ·rename_i nd hnd
      injection h with h
      injection h with hv hst
      subst hst
      obtain⟨e1,e2⟩:=scalarV_no hnd
      have hk0:∀(i:Int) (x0:JSpan),(st.spans.length:Int)≤i→x0.parent=s.parent→kidS i [x0] = []:=fun i x0 hi e=>kidS_none (fun x hx=>by simp at hx;subst hx;omega)
      refine⟨hv.symm,[_],[nd],t.to_,rfl,rfl,⟨(t.from_:Int),[],rfl,by omega,by omega⟩,c3,fun j x hj=>?_,fun j x h0 hj=>?_,fun x hx=>?_,?_,?_⟩
      ·cases j with
       | zero=>
        simp only [List.getElem?_cons_zero,Option.some.injEq] at hj
        subst hj
        refine⟨⟨st.nodes.length,nd,rfl,by simp,?_,?_⟩,?_,?_,ha,rfl⟩
        ·rw [hk0 _ _ (by simp) (by rfl),e2];rfl
        ·rw [hk0 _ _ (by simp) (by rfl)];exact(by omega:(t.from_:Int)≤(t.to_:Int))
        ·rw [hk0 _ _ (by simp) (by rfl)];rfl
        ·simp only;omega
       | succ j=>simp at hj
      ·cases j with
       | zero=>omega
       | succ j=>simp at hj
      ·simp only [List.mem_singleton] at hx;subst hx;simp
      ·simp [keysOf,e1,rng]
      ·simp [itemsOf,e2]
  ·intro obj d x y P c Q cn D DN lo hi hL hhl h
   rw [itemsV] at h
   by_cases hcl:isV x.st.left (if obj then [125] else [93])=true
   ·rw [if_pos hcl] at h
    injection h with h
    subst h
    exact⟨D,DN,lo,hi,hL,hhl,hcl⟩
   ·rw [if_neg hcl] at h
    split at h
    ·cases h
    ·rename_i z hz
     obtain⟨l,rfl,hch⟩:=commaV_ch hz
     obtain⟨lo1,hlo1,hc1⟩:=hch n lo hL.tk
     have hL1:=hL.left hc1
     cases obj with
     | true=>
      simp only [if_true] at h
      split at h
      ·cases h
      ·rename_i z2 s2 hkv
       obtain⟨tx,l2,ks,a,b,rfl,rfl,hkk⟩:=keyV_ch hkv
       obtain⟨a1,a2,a3,lo2,a4,a5⟩:=hkk n lo1 hc1
       have hL2:=hL1.key a5 tx ks
       split at h
       ·cases h
       ·rename_i v st1 hv
        have hsl:=hL2.sl
        simp only at hsl
        obtain⟨hv1,D1,DN1,to1,hV⟩:=ih.1 _ _ _ _ _ lo2 hL2.tk rfl (by simp only;omega) (by simp only;omega) (by simp only;omega) (by simp only;omega) hv
        subst hv1
        have hL3:=hL2.val rfl rfl (fun nd fr te hfr=>⟨by simp only;omega,by simp only;omega,by simp only;omega⟩) hV ks
        exact ih.2 _ _ _ _ _ _ _ _ _ _ _ _ hL3 (Nat.le_refl _) h
     | false=>
      simp only [Bool.false_eq_true,if_false] at h
      split at h
      ·cases h
      ·rename_i v st1 hv
       have hsl:=hL1.sl
       simp only at hsl
       obtain⟨hv1,D1,DN1,to1,hV⟩:=ih.1 _ _ _ _ _ lo1 hL1.tk rfl (by simp only;omega) (by simp only;omega) (by simp only;omega) (by simp only;omega) hv
       subst hv1
       have hL3:=hL1.val rfl rfl (fun nd fr te hfr=>⟨rfl,rfl,by simp only;omega⟩) hV x.ks
       exact ih.2 _ _ _ _ _ _ _ _ _ _ _ _ hL3 (Nat.le_refl _) h
structure DocJ (s:List Nat) (D:JDoc):Prop where
 root:∃r,D.spans[0]? = some r∧r.node=0∧r.parent = -1∧r.entry=0∧r.kf=0∧r.kt=0
 ok:∀(i:Nat) (x:JSpan),D.spans[i]? = some x→SpanI D.nodes D.spans s.length i x
 up:∀(i:Nat) (x:JSpan),0<i→D.spans[i]? = some x→0≤x.parent∧x.parent<(i:Int)
 pm:(D.spans.map (·.node) ++ keysOf D.nodes).Perm (rng 0 D.nodes.length)
 im:(0 :: itemsOf D.nodes).Perm (D.spans.map (·.node))
 no:NoteCh s s.length 0 D.notes
theorem parseJ_doc {s:List Nat} {D:JDoc} (h:parseJ s=.ok D):DocJ s D:=by
 obtain⟨hT,_⟩:=scanV_pos s
 unfold parseJ at h
 split at h
 ·cases h
 ·rename_i he
  obtain⟨h1,h2⟩:=hT (by omega)
  split at h
  ·cases h
  ·rename_i v st hv
   split at h
   ·injection h with h
    subst h
    obtain⟨_,D,DN,to',hV⟩:=(json_spans _ s.length _).1 _ _ _ _ _ 0 h1 rfl (by simp [spanZ]) (by simp [spanZ]) (by simp [spanZ]) (by simp [spanZ]) hv
    have e1:st.spans=D:=by rw [hV.sp];rfl
    have e2:st.nodes=DN:=by rw [hV.no];rfl
    obtain⟨fr,rest,hD,_⟩:=hV.hd
    refine⟨⟨_,by simp only;rw [e1,hD];rfl,rfl,rfl,rfl,rfl,rfl⟩,fun i x hx=>?_,fun i x hi hx=>?_,?_,?_,h2⟩
    ·have:=hV.ok i x (e1▸hx)
     rw [show([]:List JSpan).length+i=i by simp] at this
     simp only [e1]
     exact this
    ·have:=hV.up i x hi (e1▸hx)
     simp only [List.length_nil,Nat.zero_add] at this
     omega
    ·have:=hV.pm;simp only [e1,e2];exact this
    ·have:=hV.im;simp only [e1,e2];exact this
   ·cases h
end Go.Proofs.YtijoollonkibfaaGreatDoor
namespace Go.Proofs.YtijoollonkibfaaGreatDoor
open Go.RowKit
structure NodeK (N:List GNode) (E:List Nat) (i:Nat) (nd:GNode):Prop where
 dp:E.getD i 0≤32
 ref:∀y∈refs nd,0≤y∧y.toNat<N.length∧E.getD y.toNat 0=E.getD i 0+1
 tw:(nd.keys.map fun y=>(ndAt N y.toNat).text).Nodup
 fm:formV nd (scV nd)=true
structure NK (N:List GNode) (E:List Nat):Prop where
 len:E.length=N.length
 nd:∀(i:Nat) (nd:GNode),N[i]? = some nd→NodeK N E i nd
theorem ndAt_app {N:List GNode} (M:List GNode) {j:Nat} (h:j<N.length):ndAt (N ++ M) j=ndAt N j:=by
 unfold ndAt
 rw [List.getD_eq_getElem?_getD,List.getD_eq_getElem?_getD,List.getElem?_append_left h]
theorem getD_app_l {E:List Nat} (F:List Nat) {j:Nat} (h:j<E.length):(E ++ F).getD j 0=E.getD j 0:=by
 rw [List.getD_eq_getElem?_getD,List.getD_eq_getElem?_getD,List.getElem?_append_left h]
theorem NodeK.app {N M:List GNode} {E F:List Nat} {i:Nat} {nd:GNode} (h:NodeK N E i nd) (hl:E.length=N.length) (hi:i<N.length):NodeK (N ++ M) (E ++ F) i nd where
 dp:=by rw [getD_app_l F (by omega)];exact h.dp
 ref:=fun y hy=>by
  obtain⟨h1,h2,h3⟩:=h.ref y hy
  rw [getD_app_l F (by omega),getD_app_l F (by omega),List.length_append]
  exact⟨h1,by omega,h3⟩
 tw:=by
  have:=h.tw
  rw [List.map_congr_left (g:=fun y=>(ndAt N y.toNat).text) (fun y hy=>by
   have:=(h.ref y (by unfold refs;exact List.mem_append.2 (.inl hy))).2.1
   show(ndAt (N ++ M) y.toNat).text=_
   rw [ndAt_app M this])]
  exact this
 fm:=h.fm
theorem NK.snoc {N:List GNode} {E:List Nat} (h:NK N E) {d:Nat} (hd:d≤32) {nd:GNode} (hk:nd.keys = []) (hi:nd.items = []) (hf:formV nd (scV nd)=true):NK (N ++ [nd]) (E ++ [d]) where
 len:=by simp [h.len]
 nd:=fun i x hx=>by
  by_cases hlt:i<N.length
  ·rw [List.getElem?_append_left hlt] at hx
   exact(h.nd i x hx).app h.len hlt
  ·have hb:=(List.getElem?_eq_some_iff.1 hx).1
   rw [List.length_append,List.length_singleton] at hb
   have e:i=N.length:=by omega
   subst e
   rw [List.getElem?_append_right (Nat.le_refl _),Nat.sub_self] at hx
   have:nd=x:=by simpa using hx
   subst this
   have e2:(E ++ [d]).getD N.length 0=d:=by rw [←h.len];simp [List.getD_eq_getElem?_getD]
   exact⟨by rw [e2];exact hd,fun y hy=>by unfold refs at hy;rw [hk,hi] at hy;simp at hy,by rw [hk];simp,hf⟩
structure ColK (N:List GNode) (E:List Nat) (d:Nat) (obj:Bool) (ks:List (List Nat)) (keys items:List Int):Prop where
 mem:∀y∈keys ++ items,0≤y∧y.toNat<N.length∧E.getD y.toNat 0=d+1
 txt:keys.map (fun y=>(ndAt N y.toNat).text)=ks
 dif:ks.Nodup
 num:if obj then keys.length=items.length else keys = []
theorem ColK.mem_app {N M:List GNode} {E F:List Nat} {d:Nat} {l:List Int} (hl:E.length=N.length) (h:∀y∈l,0≤y∧y.toNat<N.length∧E.getD y.toNat 0=d+1):∀y∈l,0≤y∧y.toNat<(N ++ M).length∧(E ++ F).getD y.toNat 0=d+1:=fun y hy=>by
 obtain⟨h1,h2,h3⟩:=h y hy
 rw [getD_app_l F (by omega),List.length_append]
 exact⟨h1,by omega,h3⟩
theorem txt_app {N M:List GNode} {keys:List Int} (h:∀y∈keys,y.toNat<N.length):keys.map (fun y=>(ndAt (N ++ M) y.toNat).text)=keys.map (fun y=>(ndAt N y.toNat).text):=
 List.map_congr_left fun y hy=>by rw [ndAt_app M (h y hy)]
def TokV (t:JTok):Prop:=∀nd,scalarV t=some nd→formV nd (scV nd)=true
theorem commaV_k {en:Nat} {x y:PLoop} (h:commaV en x=.ok y):∃l,y = { x with st:={ x.st with left:=l } }∧∀t∈l,t∈x.st.left:=by
 unfold commaV at h
 split at h
 ·injection h with h;exact⟨x.st.left,by rw [←h],fun t ht=>ht⟩
 ·split at h
  ·injection h with h
   exact⟨x.st.left.drop 1,by rw [←h],fun t ht=>List.mem_of_mem_drop ht⟩
  ·cases h
theorem keyV_k {en d:Nat} {x z:PLoop} {s s':JSpan} (h:keyV en d x s=.ok (z,s')):∃t l,t∈x.st.left∧t.kind=2∧d+1≤32∧t.text∉x.ks∧(∀u∈l,u∈x.st.left) ∧
  z=⟨⟨l,x.st.nodes ++ [⟨5,t.text,false,[],[]⟩],x.st.spans⟩,x.ks ++ [t.text],x.keys ++ [(x.st.nodes.length:Int)],x.items⟩:=by
 unfold keyV at h
 split at h
 ·cases h
 ·rename_i t r hl
  split at h
  ·cases h
  rename_i h2
  split at h
  ·cases h
  split at h
  ·cases h
  split at h
  ·cases h
  rename_i h5
  split at h
  ·injection h with h
   injection h with h1 h2
   exact⟨t,r.drop 1,by rw [hl];simp,by omega,by omega,h5,fun u hu=>by rw [hl];exact List.mem_cons_of_mem _ (List.mem_of_mem_drop hu),h1.symm⟩
  ·cases h
theorem json_deep (en f:Nat) :
  (∀st s d v st' E,(∀t∈st.left,TokV t)→NK st.nodes E→valueV en f st s d=.ok (v,st')→v=(st.nodes.length:Int)∧(∀t∈st'.left,t∈st.left)∧∃DN F,st'.nodes=st.nodes ++ DN∧NK st'.nodes (E ++ F)∧(E ++ F).getD st.nodes.length 0=d∧0<DN.length) ∧
  (∀obj k d x y E,(∀t∈x.st.left,TokV t)→NK x.st.nodes E→ColK x.st.nodes E d obj x.ks x.keys x.items→itemsV en f obj k d x=.ok y→(∀t∈y.st.left,t∈x.st.left)∧∃DN F,y.st.nodes=x.st.nodes ++ DN∧NK y.st.nodes (E ++ F)∧ColK y.st.nodes (E ++ F) d obj y.ks y.keys y.items):=by
 induction f with
 | zero=>
  constructor
  ·intro st s d v st' E _ _ h;rw [valueV] at h;cases h
  ·intro obj k d x y E _ _ _ h;rw [itemsV] at h;cases h
 | succ f ih=>
  constructor
  ·intro st s d v st' E ht hg h
   rw [valueV] at h
   cases hl:st.left with
   | nil=>rw [hl] at h;cases h
   | cons t r=>
    rw [hl] at h
    simp only at h
    split at h
    ·cases h
    split at h
    ·cases h
    rename_i hd32
    split at h
    ·cases h
    have htr:∀t'∈r,TokV t':=fun t' h'=>ht t' (by rw [hl];simp [h'])
    have hE0:∀F,(E ++ [d] ++ F).getD st.nodes.length 0=d:=fun F=>by
     rw [←hg.len,List.getD_eq_getElem?_getD,List.append_assoc,List.getElem?_append_right (Nat.le_refl _),Nat.sub_self];rfl
    split at h
    ·split at h
     ·cases h
     ·rename_i y hy
      injection h with h
      injection h with hv hst
      have hkk:((if t.text = [123] then (10:Int) else 9)=10∧decide (t.text = [123])=true)∨((if t.text = [123] then (10:Int) else 9)=9∧decide (t.text = [123])=false):=by
       split
       ·exact .inl ⟨rfl,by simp [*]⟩
       ·exact .inr ⟨rfl,by simp [*]⟩
      generalize (if t.text = [123] then (10:Int) else 9)=kd at *
      generalize decide (t.text = [123])=obj at *
      have hf0:formV ⟨kd,[],false,[],[]⟩ (scV ⟨kd,[],false,[],[]⟩)=true:=by
       rcases hkk with⟨e,_⟩ | ⟨e,_⟩ <;> subst e <;> simp [formV]
      obtain⟨m1,DN,F,e1,e2,e3⟩:=ih.2 _ _ d _ y (E ++ [d]) htr (hg.snoc (d:=d) (by omega) rfl rfl hf0) ⟨by simp,rfl,by simp,by split <;> rfl⟩ hy
      subst hst
      have hno:y.st.nodes=st.nodes ++ ⟨kd,[],false,[],[]⟩ :: DN:=by rw [e1];simp
      have hset:y.st.nodes.set st.nodes.length ⟨kd,[],false,y.keys,y.items⟩=st.nodes ++ ⟨kd,[],false,y.keys,y.items⟩ :: DN:=by rw [hno,set_midJ]
      have htx:∀j,(ndAt (y.st.nodes.set st.nodes.length ⟨kd,[],false,y.keys,y.items⟩) j).text=(ndAt y.st.nodes j).text:=fun j=>by
       unfold ndAt
       rw [List.getD_eq_getElem?_getD,List.getD_eq_getElem?_getD,List.getElem?_set]
       by_cases ej:st.nodes.length=j
       ·subst ej
        rw [hno,if_pos rfl]
        simp
       ·rw [if_neg ej]
      have hlen2:(y.st.nodes.set st.nodes.length ⟨kd,[],false,y.keys,y.items⟩).length=y.st.nodes.length:=List.length_set ..
      refine⟨hv.symm,fun u hu=>by simp only at hu;exact List.mem_cons_of_mem _ (m1 u (List.mem_of_mem_drop hu)),_ :: DN,[d] ++ F,hset,?_,by rw [←List.append_assoc];exact hE0 F,by simp⟩
      rw [←List.append_assoc]
      refine⟨by simp only;rw [hlen2];exact e2.len,fun i nd hnd=>?_⟩
      simp only at hnd ⊢
      rw [List.getElem?_set] at hnd
      by_cases ei:st.nodes.length=i
      ·rw [if_pos ei] at hnd
       split at hnd
       ·obtain rfl:=Option.some.inj hnd
        subst ei
        refine⟨by rw [hE0 F];omega,fun q hq=>?_,?_,?_⟩
        ·rw [hE0 F,hlen2]
         exact e3.mem q hq
        ·simp only [htx]
         rw [e3.txt]
         exact e3.dif
        ·have:=e3.num
         rcases hkk with⟨e,e'⟩ | ⟨e,e'⟩ <;> subst e <;> subst e' <;> simp at this <;> simp [formV,this]
       ·cases hnd
      ·rw [if_neg ei] at hnd
       have hk:=e2.nd i nd hnd
       refine⟨hk.dp,fun q hq=>by rw [hlen2];exact hk.ref q hq,?_,hk.fm⟩
       simp only [htx]
       exact hk.tw
    ·split at h
     ·cases h
     ·rename_i nd hnd
      injection h with h
      injection h with hv hst
      subst hst
      refine⟨hv.symm,fun u hu=>List.mem_cons_of_mem _ hu,[nd],[d],rfl,hg.snoc (by omega) (scalarV_no hnd).1 (scalarV_no hnd).2 (ht t (by rw [hl];simp) nd hnd),by have:=hE0 [];rw [List.append_nil] at this;exact this,by simp⟩
  ·intro obj k d x y E ht hg hcol h
   rw [itemsV] at h
   by_cases hcl:isV x.st.left (if obj then [125] else [93])=true
   ·rw [if_pos hcl] at h
    injection h with h
    subst h
    exact⟨fun t h=>h,[],[],by simp,by rw [List.append_nil];exact hg,by rw [List.append_nil];exact hcol⟩
   ·rw [if_neg hcl] at h
    split at h
    ·cases h
    ·rename_i a ha
     obtain⟨l,rfl,hsub⟩:=commaV_k ha
     cases obj with
     | true=>
      simp only [if_true] at h
      split at h
      ·cases h
      ·rename_i z s hkv
       obtain⟨t,l2,k1,k2,k3,k4,k5,rfl⟩:=keyV_k hkv
       simp only at k1 k4 k5
       have htt:TokV t:=ht t (hsub t k1)
       have hf:=htt ⟨5,t.text,false,[],[]⟩ (by unfold scalarV;rw [if_pos k2])
       have hg2:=hg.snoc (d:=d+1) (by omega) (nd:=⟨5,t.text,false,[],[]⟩) rfl rfl hf
       split at h
       ·cases h
       ·rename_i v st1 hv
        obtain⟨b0,b1,DN,F,b2,b3,b4,b5⟩:=ih.1 _ _ _ _ _ _ (fun u hu=>ht u (hsub u (k5 u hu))) hg2 hv
        subst b0
        have hnum:=hcol.num
        simp only [if_true] at hnum
        have hmk:∀q∈x.keys ++ x.items,0≤q∧q.toNat<st1.nodes.length∧((E ++ [d+1]) ++ F).getD q.toNat 0=d+1:=by
         rw [b2]
         exact ColK.mem_app hg2.len (ColK.mem_app hg.len hcol.mem)
        have hkey:(0:Int)≤(x.st.nodes.length:Int)∧((x.st.nodes.length:Int)).toNat<st1.nodes.length∧((E ++ [d+1]) ++ F).getD ((x.st.nodes.length:Int)).toNat 0=d+1:=by
         rw [b2,Int.toNat_natCast,List.length_append,List.length_append,List.length_singleton,List.append_assoc,←hg.len,List.getD_eq_getElem?_getD,List.getElem?_append_right (Nat.le_refl _),Nat.sub_self]
         exact⟨by omega,by omega,rfl⟩
        have hval:(0:Int)≤((x.st.nodes ++ [(⟨5,t.text,false,[],[]⟩:GNode)]).length:Int)∧(((x.st.nodes ++ [(⟨5,t.text,false,[],[]⟩:GNode)]).length:Int)).toNat<st1.nodes.length∧((E ++ [d+1]) ++ F).getD (((x.st.nodes ++ [(⟨5,t.text,false,[],[]⟩:GNode)]).length:Int)).toNat 0=d+1:=by
         rw [Int.toNat_natCast]
         refine⟨by omega,by have:=congrArg List.length b2;rw [List.length_append] at this;simp only at this;omega,?_⟩
         exact b4
        obtain⟨c1,DN2,F2,c2,c3,c4⟩:=ih.2 true _ _ _ _ _ (fun u hu=>ht u (hsub u (k5 u (b1 u hu)))) b3 ⟨fun q hq=>by
          simp only [List.mem_append,List.mem_singleton] at hq
          rcases hq with(h1 | h1) | h1 | h1
          ·exact hmk q (List.mem_append.2 (.inl h1))
          ·subst h1;exact hkey
          ·exact hmk q (List.mem_append.2 (.inr h1))
          ·subst h1;exact hval,by
          simp only
          rw [b2,List.map_append,List.append_assoc,txt_app (fun q hq=>(hcol.mem q (List.mem_append.2 (.inl hq))).2.1),hcol.txt]
          simp [ndAt,List.getD_eq_getElem?_getD],by
          simp only
          rw [List.nodup_append]
          exact⟨hcol.dif,by simp,fun a ha b hb e=>by simp at hb;subst hb;subst e;exact k4 ha⟩,by simp [hnum]⟩ h
        refine⟨fun u hu=>hsub u (k5 u (b1 u (c1 u hu))),[⟨5,t.text,false,[],[]⟩] ++ DN ++ DN2,[d+1] ++ F ++ F2,by rw [c2,b2];simp,?_,?_⟩
        ·have:=c3;simp only [List.append_assoc] at this ⊢;exact this
        ·have:=c4;simp only [List.append_assoc] at this ⊢;exact this
     | false=>
      simp only [Bool.false_eq_true,if_false] at h
      split at h
      ·cases h
      ·rename_i v st1 hv
       obtain⟨b0,b1,DN,F,b2,b3,b4,b5⟩:=ih.1 ⟨l,x.st.nodes,x.st.spans⟩ _ _ _ _ E (fun u hu=>ht u (hsub u hu)) hg hv
       subst b0
       have hnum:=hcol.num
       simp only [Bool.false_eq_true,if_false] at hnum
       simp only at b2 b4
       have hmk:∀q∈x.keys ++ x.items,0≤q∧q.toNat<st1.nodes.length∧(E ++ F).getD q.toNat 0=d+1:=by
        rw [b2]
        exact ColK.mem_app hg.len hcol.mem
       obtain⟨c1,DN2,F2,c2,c3,c4⟩:=ih.2 false k d ⟨st1,x.ks,x.keys,x.items ++ [(x.st.nodes.length:Int)]⟩ y _ (fun u hu=>ht u (hsub u (b1 u hu))) b3 ⟨fun q hq=>by
         simp only [List.mem_append,List.mem_singleton] at hq
         rcases hq with h1 | h1 | h1
         ·exact hmk q (List.mem_append.2 (.inl h1))
         ·exact hmk q (List.mem_append.2 (.inr h1))
         ·subst h1
          rw [Int.toNat_natCast]
          exact⟨by omega,by rw [b2,List.length_append];omega,b4⟩,by
         have:=hcol.txt
         simp only
         rw [hnum] at this ⊢
         exact this,hcol.dif,by simp [hnum]⟩ h
       refine⟨fun u hu=>hsub u (b1 u (c1 u hu)),DN ++ DN2,F ++ F2,by rw [c2,b2];simp,?_,?_⟩
       ·have:=c3;simp only [List.append_assoc] at this ⊢;exact this
       ·have:=c4;simp only [List.append_assoc] at this ⊢;exact this
end Go.Proofs.YtijoollonkibfaaGreatDoor
namespace Go.Proofs.YtijoollonkibfaaGreatDoor
open Go.RowKit
theorem top_dg {m:Nat} (h:m≠0):∃d r,(dg m).reverse=d :: r∧1≤d∧d<10:=by
 induction m using Nat.strongRecOn with
 | _ m ih=>
  rw [dg_pos h,List.reverse_cons]
  by_cases h1:m / 10=0
  ·rw [h1,dg_zero]
   exact⟨m % 10,[],rfl,by omega,by omega⟩
  ·obtain⟨d,r,e,h2,h3⟩:=ih (m / 10) (by omega) h1
   exact⟨d,r ++ [m % 10],by rw [e];rfl,h2,h3⟩
theorem ntx_pos {m:Nat} (h:m≠0) (neg:Bool):ntx neg m=(if neg then [45] else []) ++ (asc (dg m)).reverse:=by unfold ntx;rw [if_neg h]
theorem asc_top {m:Nat} (h:m≠0):∃c r,(asc (dg m)).reverse=c :: r∧49≤c∧c≤57:=by
 obtain⟨d,r,e,h1,h2⟩:=top_dg h
 refine⟨48+d,asc r,?_,by omega,by omega⟩
 unfold asc
 rw [←List.map_reverse,e]
 rfl
theorem all_asc (m:Nat):((asc (dg m)).reverse).all isDig=true:=by
 rw [List.all_eq_true]
 intro c hc
 rw [List.mem_reverse] at hc
 obtain⟨d,hd,rfl⟩:=List.mem_map.1 hc
 have:=ten_dg m d hd
 unfold isDig
 exact decide_eq_true (by omega)
theorem dec_asc (ds:List Nat):(dec (asc ds).reverse).reverse=ds:=by
 unfold dec asc
 rw [←List.map_reverse,List.reverse_reverse,List.map_map]
 have:((fun x=>x - 48) ∘ (fun x=>48+x))=(id:Nat→Nat):=by funext x;simp
 rw [this,List.map_id]
theorem parseC_ntx (neg:Bool) (m:Nat) (h:(dg m).length≤400):parseC (ntx neg m)=some (neg && decide (0<m),m):=by
 by_cases h0:m=0
 ·subst h0
  have e:ntx neg 0 = [48]:=by unfold ntx;rw [if_pos rfl]
  have hn:negL [48]=false:=by decide
  have hb:bodyL [48] = [48]:=by unfold bodyL;rw [hn];rfl
  rw [e]
  unfold parseC
  rw [if_neg (by unfold badL;rw [hb];simp),hb,hn]
  cases neg <;> rfl
 ·obtain⟨c,r,e,h1,h2⟩:=asc_top h0
  have hl:(c :: r).length≤400:=by rw [←e];simpa [asc] using h
  have hall:=all_asc m
  have hval:val (dec (asc (dg m)).reverse).reverse=m:=by rw [dec_asc,val_dg]
  rw [ntx_pos h0,e]
  rw [e] at hall hval
  cases neg with
  | true=>
   have hn:negL ([45] ++ c :: r)=true:=by unfold negL;exact decide_eq_true ⟨by simp,rfl⟩
   have hb:bodyL ([45] ++ c :: r)=c :: r:=by unfold bodyL;rw [hn];rfl
   show parseC ([45] ++ c :: r)=_
   unfold parseC
   rw [if_neg (by unfold badL;rw [hb];simp at hl ⊢;omega),hb,hn,if_pos hall,hval]
   simp;omega
  | false=>
   have hn:negL (c :: r)=false:=by unfold negL;refine decide_eq_false ?_;rintro⟨_,h⟩;have:=Option.some.inj h;omega
   have hb:bodyL (c :: r)=c :: r:=by unfold bodyL;rw [hn];rfl
   show parseC (c :: r)=_
   unfold parseC
   rw [if_neg (by unfold badL;rw [hb];simp at hl ⊢;omega),hb,hn,if_pos hall,hval]
   simp
end Go.Proofs.YtijoollonkibfaaGreatDoor
namespace Go.Proofs.YtijoollonkibfaaGreatDoor
open Go.RowKit
/-! ### A decimal number and back -/
theorem decFrom_snoc:∀(l:List UInt8) (acc n d:Nat) (b:UInt8),Lib.decFrom acc l=some n→Lib.digitVal b=some d→Lib.decFrom acc (l ++ [b])=some (n*10+d)
 | [],acc,n,d,b,h,hd=>by
  injection h with h
  subst h
  simp [Lib.decFrom,hd]
 | c :: r,acc,n,d,b,h,hd=>by
  rw [List.cons_append]
  rw [Lib.decFrom] at h ⊢
  cases hc:Lib.digitVal c with
  | none=>rw [hc] at h;cases h
  | some k=>rw [hc] at h;exact decFrom_snoc r _ n d b h hd
theorem digit_val {d:Nat} (h:d<10):Lib.digitVal (UInt8.ofNat (48+d))=some d:=by
 have e:(UInt8.ofNat (48+d)).toNat=48+d:=by simp;omega
 unfold Lib.digitVal
 rw [e,if_pos (by omega)]
 congr 1
 omega
theorem digits_back (u:Nat):Lib.decFrom 0 (Lib.decDigits u)=some u∧∃b r,Lib.decDigits u=b :: r∧48≤b.toNat:=by
 induction u using Nat.strongRecOn with
 | _ u ih=>
  by_cases h:u<10
  ·rw [Lib.decDigits,dif_pos h]
   refine⟨by rw [Lib.decFrom,digit_val h];simp [Lib.decFrom],_,_,rfl,?_⟩
   have e:(UInt8.ofNat (48+u)).toNat=48+u:=by simp;omega
   omega
  ·rw [Lib.decDigits,dif_neg h]
   obtain⟨h1,b,r,h2,h3⟩:=ih (u / 10) (by omega)
   refine⟨?_,b,r ++ [UInt8.ofNat (48+u % 10)],by rw [h2];rfl,h3⟩
   rw [decFrom_snoc _ _ _ _ _ h1 (digit_val (by omega))]
   congr 1
   omega
theorem atoi_back (e:Int):atoiV (itoaL e)=some e:=by
 unfold atoiV itoaL
 have hu:u8s ((Lib.itoa e).map UInt8.toNat)=Lib.itoa e:=by
  unfold u8s
  rw [List.map_map]
  have:(UInt8.ofNat ∘ UInt8.toNat)=id:=by funext x;simp
  rw [this,List.map_id]
 rw [hu]
 unfold Lib.itoa
 have back:∀u,Lib.decNat (Lib.decDigits u)=some u:=fun u=>by
  obtain⟨h1,b,r,h2,_⟩:=digits_back u
  unfold Lib.decNat
  rw [h2] at h1 ⊢
  exact h1
 split
 ·rw [Lib.atoi,if_pos (by rfl),back]
  simp only [Option.map_some,Option.some.injEq]
  omega
 ·obtain⟨_,b,r,h2,h3⟩:=digits_back e.toNat
  have hb:=back e.toNat
  rw [h2] at hb ⊢
  rw [Lib.atoi,if_neg (by intro e;have:=eq_of_beq e;subst this;revert h3;decide),if_neg (by intro e;have:=eq_of_beq e;subst this;revert h3;decide),hb]
  simp only [Option.map_some,Option.some.injEq]
  omega
theorem itoaL_short {e:Int} (h1:-2000≤e) (h2:e≤2000):(itoaL e).length≤5:=by
 have hd:∀u,u≤2000→(Lib.decDigits u).length≤4:=fun u hu=>by
  rw [Lib.decDigits_length]
  by_cases a1:u<10
  ·rw [Lib.nDigits_small a1];omega
  rw [Lib.nDigits_big a1]
  by_cases a2:u / 10<10
  ·rw [Lib.nDigits_small a2];omega
  rw [Lib.nDigits_big a2]
  by_cases a3:u / 10 / 10<10
  ·rw [Lib.nDigits_small a3];omega
  rw [Lib.nDigits_big a3,Lib.nDigits_small (by omega)]
  omega
 unfold itoaL Lib.itoa
 rw [List.length_map]
 split
 ·have:=hd e.natAbs (by omega);rw [List.length_cons];omega
 ·have:=hd e.toNat (by omega);omega
/-! ### Norm of what is normal -/
theorem tlen_take:∀l:List Nat,tlen (l.take (tlen l))=tlen l
 | []=>rfl
 | d :: ds=>by
  have ih:=tlen_take ds
  by_cases h:tlen ds=0∧d=0
  ·have e:tlen (d :: ds)=0:=by unfold tlen;rw [if_pos h]
   rw [e];rfl
  ·have e:tlen (d :: ds)=tlen ds+1:=by rw [tlen,if_neg h]
   rw [e,List.take_succ_cons,tlen,ih,if_neg h]
theorem lead_head (z:Nat):∀l:List Nat,lead z l = []∨∃c t,lead z l=c :: t∧c≠z
 | []=>.inl rfl
 | c :: l=>by
  by_cases h:c=z
  ·subst h;rw [lead_eq];exact lead_head c l
  ·exact .inr ⟨c,l,lead_ne h,h⟩
theorem lead_take (z:Nat) (l:List Nat) (k:Nat):lead z ((lead z l).take k)=(lead z l).take k:=by
 rcases lead_head z l with h | ⟨c,t,h,hc⟩
 ·rw [h];simp [lead]
 ·rw [h]
  cases k with
  | zero=>rfl
  | succ k=>rw [List.take_succ_cons];exact lead_ne hc
def NormX (x:Bool×List Nat×Int):Prop:=x=(false,[],0)∨(x.2.1≠[]∧x.2.1[0]?≠some 0∧normV x.1 x.2.1 x.2.2=x)
theorem normV_x (neg:Bool) (d:List Nat) (e:Int):NormX (normV neg d e):=by
 unfold normV
 by_cases h:tlen (lead 0 d)=0
 ·rw [if_pos h];exact .inl rfl
 ·rw [if_neg h]
  have hl:=tlen_le (lead 0 d)
  have hlen:((lead 0 d).take (tlen (lead 0 d))).length=tlen (lead 0 d):=by rw [List.length_take];omega
  refine .inr ⟨fun e=>?_,?_,?_⟩
  ·simp only at e;rw [e] at hlen;simp at hlen;omega
  ·rcases lead_head 0 d with h2 | ⟨c,t,h2,hc⟩
   ·rw [h2] at h;exact absurd rfl h
   ·simp only
    rw [List.getElem?_take,if_pos (by omega),h2]
    intro e
    exact hc (Option.some.inj e)
  ·simp only
   rw [normV,lead_take,tlen_take,if_neg h,hlen,Nat.sub_self,List.take_of_length_le (by rw [hlen];exact Nat.le_refl _)]
   simp
theorem bodyV_x {neg:Bool} {b:List Nat} {x:Bool×List Nat×Int} (h:bodyV neg b=some x):NormX x:=by
 unfold bodyV at h
 split at h
 ·cases h
 ·split at h
  ·cases h
  ·split at h
   ·cases h
   ·obtain rfl:=Option.some.inj h
    exact normV_x _ _ _
theorem numeralV_x {s:List Nat} {x:Bool×List Nat×Int} (h:numeralV s=some x):NormX x:=bodyV_x h
theorem idxB_app_at {c:Nat}:∀(a b:List Nat),c∉a→idxB c (a ++ c :: b)=some a.length
 | [],b,_=>by simp [idxB]
 | x :: a,b,h=>by
  rw [List.cons_append,idxB,if_neg (fun e=>h (by simp [e])),idxB_app_at a b (fun e=>h (by simp [e]))]
  rfl
theorem dec_asc2 (d:List Nat):dec (asc d)=d:=by
 unfold dec asc
 rw [List.map_map]
 conv=>rhs;rw [←List.map_id d]
 exact List.map_congr_left fun x _=>by simp
theorem coef_parse {neg:Bool} {d:List Nat} (ht:Ten d) (hl:d.length≤400) (hne:d≠[]) (h0:d[0]?≠some 0) :
  (parseC (signL neg ++ asc d)).isSome=true∧trimM (signL neg ++ asc d)=asc d∧hasP [45] (signL neg ++ asc d)=neg∧101∉signL neg ++ asc d:=by
 obtain⟨c,t,rfl⟩:∃c t,d=c :: t:=by cases d with | nil=>exact absurd rfl hne | cons c t=>exact⟨c,t,rfl⟩
 have hc0:c≠0:=fun e=>h0 (by rw [e];rfl)
 have hc:=ht c (by simp)
 have hall:(asc (c :: t)).all isDig=true:=by
  rw [List.all_eq_true]
  intro x hx
  obtain⟨y,hy,rfl⟩:=List.mem_map.1 hx
  have:=ht y hy
  unfold isDig
  exact decide_eq_true (by omega)
 have hal:(asc (c :: t)).length=t.length+1:=by rw [length_asc,List.length_cons]
 rw [List.length_cons] at hl
 have hmem:∀x∈asc (c :: t),48≤x∧x≤57:=fun x hx=>by
  obtain⟨y,hy,rfl⟩:=List.mem_map.1 hx
  have:=ht y hy
  omega
 have hcons:asc (c :: t)=(48+c) :: asc t:=rfl
 cases neg with
 | true=>
  have e:signL true ++ asc (c :: t)=45 :: asc (c :: t):=rfl
  rw [e]
  have hn:negL (45 :: asc (c :: t))=true:=by unfold negL;exact decide_eq_true ⟨by rw [List.length_cons,hal];omega,rfl⟩
  have hb:bodyL (45 :: asc (c :: t))=asc (c :: t):=by unfold bodyL;rw [if_pos hn];rfl
  refine⟨?_,by simp [trimM,hasP],by simp [hasP],fun h=>?_⟩
  ·unfold parseC
   rw [if_neg,hb,if_pos hall]
   ·rfl
   ·unfold badL
    rw [hb,hal,hcons]
    simp only [List.getElem?_cons_zero,Option.some.injEq]
    omega
  ·rcases List.mem_cons.1 h with h | h
   ·omega
   ·have:=hmem _ h;omega
 | false=>
  have e:signL false ++ asc (c :: t)=asc (c :: t):=rfl
  rw [e]
  have hp:hasP [45] (asc (c :: t))=false:=by rw [hcons];unfold hasP;exact decide_eq_false (by simp;omega)
  have hn:negL (asc (c :: t))=false:=by unfold negL;rw [hcons];exact decide_eq_false (by simp;omega)
  have hb:bodyL (asc (c :: t))=asc (c :: t):=by unfold bodyL;rw [hn];rfl
  refine⟨?_,by unfold trimM;rw [hp];rfl,hp,fun h=>by have:=hmem _ h;omega⟩
  unfold parseC
  rw [if_neg,hb,if_pos hall]
  ·rfl
  ·unfold badL
   rw [hb,hal,hcons]
   simp only [List.getElem?_cons_zero,Option.some.injEq]
   omega
theorem text_valid {x:Bool×List Nat×Int} (hx:NormX x) (ht:Ten x.2.1) (hl:limV x=0):validD (textV x)=true:=by
 have hlim:x.2.1.length≤400∧-2000≤x.2.2∧x.2.2≤2000:=by
  unfold limV at hl
  split at hl
  ·cases hl
  ·split at hl
   ·cases hl
   ·omega
 have hit:=itoaL_short hlim.2.1 hlim.2.2
 have key:∀C:List Nat,coefL x.1 x.2.1=C→(parseC C).isSome=true→101∉C→hasP [45] (C ++ 101 :: itoaL x.2.2)=x.1→normV x.1 (dec (trimM C)) x.2.2=x→validD (textV x)=true:=by
  intro C hC h1 h2 h3 h4
  have e:textV x=C ++ 101 :: itoaL x.2.2:=by unfold textV;rw [hC];simp
  have hr:readV (textV x)=some x:=by
   unfold readV
   rw [e,idxB_app_at _ _ h2]
   simp only
   have a1:(C ++ 101 :: itoaL x.2.2).take C.length=C:=List.take_left
   have a2:(C ++ 101 :: itoaL x.2.2).drop (C.length+1)=itoaL x.2.2:=by
    rw [show C.length+1=(C ++ [101]).length by simp,show C ++ 101 :: itoaL x.2.2=(C ++ [101]) ++ itoaL x.2.2 by simp]
    exact List.drop_left
   have a3:(C ++ 101 :: itoaL x.2.2).length - C.length≤6:=by
    rw [List.length_append,List.length_cons];omega
   rw [a1,a2,if_neg (by rw [h1];simp;omega),atoi_back]
   simp only
   rw [h3,h4]
  unfold validD
  rw [hr]
  simp [hl]
 rcases hx with hx | ⟨h1,h2,h3⟩
 ·refine key [48] (by rw [hx];rfl) (by decide) (by decide) (by rw [hx];rfl) (by rw [hx];decide)
 ·obtain⟨c1,c2,c3,c4⟩:=coef_parse (neg:=x.1) ht hlim.1 h1 h2
  refine key (signL x.1 ++ asc x.2.1) (by unfold coefL;rw [if_neg h1]) c1 c4 ?_ (by rw [c2,dec_asc2];exact h3)
  have hne:signL x.1 ++ asc x.2.1≠[]:=by
   cases hd:x.2.1 with
   | nil=>exact absurd hd h1
   | cons c t=>simp [asc]
  generalize signL x.1 ++ asc x.2.1=C at *
  cases C with
  | nil=>exact absurd rfl hne
  | cons c t=>rw [←c3];simp [hasP]
theorem tok_form {t:JTok} (hu:TokU t) (hk:t.kind=4→t.text=litTrue∨t.text=litFalse∨t.text=litNull):TokV t:=by
 intro nd h
 unfold scalarV at h
 split at h
 ·rename_i h2
  obtain rfl:=Option.some.inj h
  simp [formV,scV,ckErr_vu (hu h2)]
 split at h
 ·rename_i h4
  split at h
  ·obtain rfl:=Option.some.inj h
   simp [formV,scV]
  ·rename_i hn
   obtain rfl:=Option.some.inj h
   have:=hk h4
   have:t.text=litTrue∨t.text=litFalse:=by
    rcases this with e | e | e
    ·exact .inl e
    ·exact .inr e
    ·exact absurd e hn
   simp [formV,scV,this]
 split at h
 ·split at h
  ·rename_i hp
   obtain rfl:=Option.some.inj h
   have hv:validD (parseDV t.text).1=true:=by
    cases hn:numeralV t.text with
    | none=>rw [parseDV_none hn] at hp;exact absurd hp (by decide)
    | some x=>
     have hx:=numeralV_ok hn
     rw [parseDV_some hn] at hp ⊢
     unfold resV at hp ⊢
     by_cases hl:limV x=0
     ·rw [if_pos hl];exact text_valid (numeralV_x hn) hx.1 hl
     ·rw [if_neg hl] at hp;exact absurd hp hl
   simp [formV,scV,hv]
  ·cases h
 ·split at h
  ·rename_i hp
   obtain rfl:=Option.some.inj h
   have hv:(parseC (parR t.text 10).1).isSome=true:=by
    unfold parR at hp ⊢
    split
    ·rename_i h1
     rw [if_pos h1] at hp
     split
     ·rename_i h2;rw [if_pos h2] at hp;exact absurd hp (by decide)
     ·rename_i h2
      rw [if_neg h2] at hp
      unfold pB at hp ⊢
      split
      ·rename_i h3
       rw [if_pos h3] at hp
       split
       ·rename_i h4
        rw [if_pos h4] at hp
        simp only at hp ⊢
        unfold tE at hp
        split at hp
        ·rename_i h5
         unfold tS
         rw [if_pos h5,parseC_ntx _ _ h5]
         rfl
        ·exact absurd hp (by decide)
       ·rename_i h4;rw [if_neg h4] at hp;exact absurd hp (by decide)
      ·rename_i h3;rw [if_neg h3] at hp;exact absurd hp (by decide)
    ·rename_i h1;rw [if_neg h1] at hp;exact absurd hp (by decide)
   simp [formV,scV,hv]
  ·cases h
theorem no_4 {a:Nat} (h:a=4) (h1:a≠4) {p:Prop}:p:=absurd h h1
theorem tokV_word {l:List Nat}:(tokV l).1.kind=4→(tokV l).1.text=litTrue∨(tokV l).1.text=litFalse∨(tokV l).1.text=litNull:=by
 unfold tokV
 split
 ·intro h;exact no_4 (show(1:Nat)=4 from h) (by decide)
 split
 ·intro h;exact no_4 (show(2:Nat)=4 from h) (by decide)
 split
 ·unfold seqV
  split
  ·split
   ·intro h;exact no_4 (show(0:Nat)=4 from h) (by decide)
   ·intro h;exact no_4 (show(3:Nat)=4 from h) (by decide)
  ·split
   ·rename_i h;intro _;exact h
   ·intro h;exact no_4 (show(0:Nat)=4 from h) (by decide)
 ·intro h;exact no_4 (show(0:Nat)=4 from h) (by decide)
theorem scan_word:∀(f a:Nat) (l:List Nat) (ts:List JTok) (ns:List JNote),(∀t∈ts,t.kind=4→t.text=litTrue∨t.text=litFalse∨t.text=litNull)→∀t∈(scanG f a l ts ns).toks,t.kind=4→t.text=litTrue∨t.text=litFalse∨t.text=litNull:=by
 intro f
 induction f with
 | zero=>intro a l ts ns h;rw [scanG];exact h
 | succ f ih=>
  intro a l ts ns h
  by_cases hne:l = []
  ·subst hne;rw [scanG_end];exact h
  by_cases hbl:isBlank (l.getD 0 0)=true
  ·rw [scanG_blank hne hbl];exact ih _ _ _ _ h
  by_cases hc:commV l<0
  ·rw [scanG_open hne hbl hc];intro t ht;cases ht
  by_cases hc2:0<commV l
  ·rw [scanG_note hne hbl hc2];exact ih _ _ _ _ h
  have hc3:commV l=0:=by omega
  by_cases ht:(tokV l).2=0
  ·rw [scanG_tok hne hbl hc3 ht]
   refine ih _ _ _ _ (fun t h'=>?_)
   rcases List.mem_append.1 h' with h' | h'
   ·exact h t h'
   ·have:t=⟨(tokV l).1.kind,a,a+(tokV l).1.to_,(tokV l).1.text⟩:=by simpa using h'
    subst this
    exact tokV_word
  ·rw [scanG_bad hne hbl hc3 ht];intro t ht;cases ht
theorem scanV_forms (s:List Nat) (hb:By s):∀t∈(scanV s).toks,TokV t:=by
 intro t ht
 refine tok_form (scanV_u s hb t ht) ?_
 revert t
 unfold scanV
 split
 ·intro t ht;cases ht
 ·split
  ·intro t ht;cases ht
  ·exact scan_word _ 0 s [] [] (fun t ht=>by cases ht)
end Go.Proofs.YtijoollonkibfaaGreatDoor
namespace Go.Proofs.YtijoollonkibfaaGreatDoor
open Go.RowKit
theorem idx_yes {N:List GNode} (hI:Idx N) (h0:0<N.length):indicesV N 0=true:=by
 unfold indicesV
 rw [Bool.and_eq_true,List.all_eq_true]
 refine⟨inB_iff.2 ⟨by omega,by omega⟩,fun x hx=>?_⟩
 obtain⟨j,hj,rfl⟩:=List.getElem_of_mem hx
 have e:ndAt N j=N[j]:=ndAt_of (List.getElem?_eq_getElem hj)
 rw [←e]
 unfold inAll
 rw [Bool.and_eq_true,List.all_eq_true,List.all_eq_true]
 exact⟨fun y hy=>inB_iff.2 (hI j hj y (List.mem_append.2 (.inl hy))),fun y hy=>inB_iff.2 (hI j hj y (List.mem_append.2 (.inr hy)))⟩
theorem count_refs (a:Int):∀N:List GNode,(N.flatMap refs).count a=(keysOf N).count a+(itemsOf N).count a
 | []=>rfl
 | nd :: N=>by
  have ih:=count_refs a N
  simp only [keysOf,itemsOf,List.flatMap_cons,List.count_append,refs] at ih ⊢
  omega
theorem rng_count {a k i:Nat}:(rng a k).count (i:Int)=if a≤i∧i<a+k then 1 else 0:=by
 have hn:(rng a k).Nodup:=by
  unfold rng List.Nodup
  rw [List.pairwise_map]
  exact(List.nodup_range' (s:=a) (n:=k)).imp (fun h e=>h (Int.ofNat.inj e))
 have hm:(i:Int)∈rng a k↔a≤i∧i<a+k:=by
  unfold rng
  rw [List.mem_map]
  constructor
  ·rintro⟨j,hj,e⟩
   rw [List.mem_range'_1] at hj
   have:j=i:=Int.ofNat.inj e
   omega
  ·intro h
   exact⟨i,by rw [List.mem_range'_1];exact h,rfl⟩
 split
 ·rename_i h
  have h3:=List.one_le_count_iff.2 (hm.2 h)
  have h4:=List.nodup_iff_count.1 hn (i:Int)
  omega
 ·rename_i h
  exact List.count_eq_zero.2 (fun e=>h (hm.1 e))
theorem DocJ.cnt {s:List Nat} {D:JDoc} (h:DocJ s D) {i:Nat} (hi:i<D.nodes.length):cnt D.nodes 0 i=1:=by
 unfold Go.Proofs.YtijoollonkibfaaGreatDoor.cnt
 have e1:=h.pm.count_eq (i:Int)
 have e2:=h.im.count_eq (i:Int)
 rw [rng_count,if_pos ⟨by omega,by omega⟩] at e1
 rw [List.count_cons,count_refs]
 rw [List.count_append] at e1
 rw [List.count_cons] at e2
 omega
theorem DocJ.reach {s:List Nat} {D:JDoc} (h:DocJ s D) (hJ:JG D.nodes):∀i,i<D.nodes.length→Reach D.nodes 0 i:=by
 intro i
 induction i using Nat.strongRecOn with
 | _ i ih=>
  intro hi
  by_cases h0:i=0
  ·subst h0;exact .refl
  have hc:=h.cnt hi
  unfold Go.Proofs.YtijoollonkibfaaGreatDoor.cnt at hc
  rw [List.count_cons,if_neg (by simp;omega)] at hc
  have hm:(i:Int)∈D.nodes.flatMap refs:=List.count_pos_iff.1 (by omega)
  obtain⟨nd,hnd,hr⟩:=List.mem_flatMap.1 hm
  obtain⟨j,hj,rfl⟩:=List.getElem_of_mem hnd
  have e:ndAt D.nodes j=D.nodes[j]:=ndAt_of (List.getElem?_eq_getElem hj)
  have hlt:=((hJ j _ (List.getElem?_eq_getElem hj)).ref (i:Int) hr).1
  have:=(ih j (by omega) hj).step hj (x:=(i:Int)) (by rw [e];exact hr)
  rwa [Int.toNat_natCast] at this
theorem dup_no {N:List GNode}:∀(ks seen:List Int),((seen ++ ks).map fun y=>(ndAt N y.toNat).text).Nodup→dupF N seen ks=false
 | [],_,_=>rfl
 | k :: ks,seen,h=>by
  rw [dupF,dup_no ks (seen ++ [k]) (by rw [List.append_assoc];exact h),Bool.or_false]
  rw [Bool.eq_false_iff]
  intro e
  obtain⟨q,hq,hs⟩:=List.any_eq_true.1 e
  unfold leafSame at hs
  rw [Bool.and_eq_true,Bool.and_eq_true] at hs
  have ht:=of_decide_eq_true hs.1.2
  rw [List.map_append,List.nodup_append] at h
  exact h.2.2 _ (List.mem_map.2 ⟨q,hq,rfl⟩) _ (List.mem_map.2 ⟨k,by simp,rfl⟩) ht.symm
def hgtF (N:List GNode):Nat→Int→Int
 | 0,_=>0
 | f+1,x=>1+maxL (hgtF N f) (refs (ndAt N x.toNat)) 0
theorem maxL_congr {H K:Int→Int}:∀(l:List Int) (m:Int),(∀y∈l,H y=K y)→maxL H l m=maxL K l m
 | [],_,_=>rfl
 | y :: l,m,h=>by
  unfold maxL
  rw [List.foldl_cons,List.foldl_cons,h y (by simp)]
  exact maxL_congr l _ (fun z hz=>h z (by simp [hz]))
theorem maxL_le {H:Int→Int} {b:Int}:∀(l:List Int) (m:Int),m≤b→(∀y∈l,H y≤b)→maxL H l m≤b
 | [],_,hm,_=>hm
 | y :: l,m,hm,h=>by
  unfold maxL
  rw [List.foldl_cons]
  exact maxL_le l _ (Int.max_le.2 ⟨hm,h y (by simp)⟩) (fun z hz=>h z (by simp [hz]))
theorem hgt_stable {N:List GNode} (hJ:JG N):∀(f g:Nat) (x:Int),InN N.length x→N.length - x.toNat≤f→N.length - x.toNat≤g→hgtF N f x=hgtF N g x:=by
 intro f
 induction f with
 | zero=>intro g x hx h;have:=hx.1;have:=hx.2;omega
 | succ f ih=>
  intro g x hx h1 h2
  obtain⟨g,rfl⟩:∃k,g=k+1:=⟨g - 1,by have:=hx.1;have:=hx.2;omega⟩
  rw [hgtF,hgtF]
  congr 1
  refine maxL_congr _ _ (fun y hy=>?_)
  have hr:=(hJ.at_ (i:=x.toNat) (by have:=hx.1;have:=hx.2;omega)).ref y hy
  exact ih g y ⟨by omega,hr.2⟩ (by omega) (by omega)
theorem hgt_eq {N:List GNode} (hJ:JG N) (x:Int) (hx:InN N.length x):hgtF N N.length x=1+maxL (hgtF N N.length) (refs (ndAt N x.toNat)) 0:=by
 have h1:=hx.1
 have h2:=hx.2
 rw [hgt_stable hJ N.length (N.length+1) x hx (by omega) (by omega)]
 rfl
theorem hgt_le {N:List GNode} {E:List Nat} (hJ:JG N) (hK:NK N E):∀(f:Nat) (x:Int),InN N.length x→hgtF N f x≤33 - (E.getD x.toNat 0:Int):=by
 intro f
 induction f with
 | zero=>
  intro x hx
  have:=(hK.nd x.toNat _ (ndAt_get (by have:=hx.1;have:=hx.2;omega))).dp
  rw [hgtF];omega
 | succ f ih=>
  intro x hx
  have hk:=hK.nd x.toNat _ (ndAt_get (by have:=hx.1;have:=hx.2;omega))
  have hd:=hk.dp
  rw [hgtF]
  have:maxL (hgtF N f) (refs (ndAt N x.toNat)) 0≤32 - (E.getD x.toNat 0:Int):=maxL_le _ _ (by omega) (fun y hy=>by
   have hr:=(hJ.at_ (i:=x.toNat) (by have:=hx.1;have:=hx.2;omega)).ref y hy
   have:=ih y ⟨by omega,hr.2⟩
   have:=(hk.ref y hy).2.2
   omega)
  omega
theorem parseJ_NK {s:List Nat} (hs:By s) {D:JDoc} (h:parseJ s=.ok D):∃E,NK D.nodes E∧E.getD 0 0=0:=by
 unfold parseJ at h
 split at h
 ·cases h
 split at h
 ·cases h
 rename_i v st hv
 split at h
 ·injection h with h
  subst h
  obtain⟨_,_,DN,F,_,h2,h3,_⟩:=(json_deep _ _).1 _ _ _ _ _ [] (scanV_forms s hs) ⟨rfl,fun i nd hnd=>by simp at hnd⟩ hv
  exact⟨_,h2,h3⟩
 ·cases h
theorem parseJ_chk {s:List Nat} (hs:By s) {D:JDoc} (h:parseJ s=.ok D):chkV D.nodes 0=0:=by
 obtain⟨hJ,h0,_⟩:=parseJ_JG hs h
 have hD:=parseJ_doc h
 obtain⟨E,hK,hE⟩:=parseJ_NK hs h
 have hI:=hJ.idx
 have hre:=hD.reach hJ
 have hr:InN D.nodes.length 0:=⟨by omega,by omega⟩
 have hix:=idx_yes hI h0
 have hok:(List.range D.nodes.length).all (okN D.nodes 0)=true:=all_yes fun j hj=>by
  unfold okN
  rw [(reached_iff hI (at_:=0) ⟨by omega,hr.2⟩ j).2 (hre j hj),Bool.true_and]
  exact(hK.nd j _ (ndAt_get hj)).fm
 have hkk:(List.range D.nodes.length).all (okK D.nodes 0)=true:=all_yes fun j hj=>by
  unfold okK
  rw [counts_get hix hj,hD.cnt hj]
  simp
 have htw:twiceV D.nodes=false:=by
  unfold twiceV
  rw [Bool.eq_false_iff]
  intro e
  obtain⟨nd,hnd,hd⟩:=List.any_eq_true.1 e
  obtain⟨j,hj,rfl⟩:=List.getElem_of_mem hnd
  rw [dup_no _ _ (by rw [List.nil_append];exact(hK.nd j _ (List.getElem?_eq_getElem hj)).tw)] at hd
  cases hd
 have hdp:depD D.nodes 0≤32:=by
  unfold depD
  rw [depthV_dag hI hJ.ranks hr (by show _ - _≤_;omega) hre (hgt_eq hJ)]
  simp only
  have:=hgt_le hJ hK D.nodes.length 0 hr
  rw [show(0:Int).toNat=0 from rfl,hE] at this
  omega
 unfold chkV
 rw [hix,hok,hkk,htw,if_neg (by decide),if_neg (by decide),if_neg (by decide),if_neg (by decide),if_neg (by omega)]
end Go.Proofs.YtijoollonkibfaaGreatDoor
namespace Go.Proofs.YtijoollonkibfaaGreatDoor
open Go.RowKit
def spAt (spans:List JSpan) (i:Nat):JSpan:=spans.getD i ⟨0,-1,0,0,0,0,0,false,false⟩
theorem spAt_get {spans:List JSpan} {i:Nat} (h:i<spans.length):spans[i]? = some (spAt spans i):=by
 unfold spAt
 rw [List.getD_eq_getElem?_getD,List.getElem?_eq_getElem h];rfl
theorem spAt_of {spans:List JSpan} {i:Nat} {x:JSpan} (h:spans[i]? = some x):spAt spans i=x:=by
 unfold spAt
 rw [List.getD_eq_getElem?_getD,h];rfl
def kidI (spans:List JSpan) (p:Int) (k:Nat):List Int:=((List.range k).filter fun i=>decide ((spAt spans i).parent=p)).map Int.ofNat
theorem kidI_succ (spans:List JSpan) (p:Int) (k:Nat):kidI spans p (k+1)=kidI spans p k ++ (if (spAt spans k).parent=p then [(k:Int)] else []):=by
 unfold kidI
 rw [List.range_succ,List.filter_append,List.map_append]
 congr 1
 by_cases h:(spAt spans k).parent=p
 ·rw [if_pos h,List.filter_cons_of_pos (by simpa using h)];rfl
 ·rw [if_neg h,List.filter_cons_of_neg (by simpa using h)];rfl
theorem kidI_len (spans:List JSpan) (p:Int) (k:Nat):(kidI spans p k).length≤k:=by
 unfold kidI
 rw [List.length_map]
 have:=List.length_filter_le (fun i=>decide ((spAt spans i).parent=p)) (List.range k)
 rw [List.length_range] at this
 exact this
theorem kidI_mem {spans:List JSpan} {p:Int} {k:Nat} {x:Int} (h:x∈kidI spans p k):∃i:Nat,x=(i:Int)∧i<k∧(spAt spans i).parent=p:=by
 unfold kidI at h
 obtain⟨i,hi,rfl⟩:=List.mem_map.1 h
 have:=List.mem_filter.1 hi
 exact⟨i,rfl,List.mem_range.1 this.1,by simpa using this.2⟩
end Go.Proofs.YtijoollonkibfaaGreatDoor
namespace Go.Proofs.YtijoollonkibfaaGreatDoor
open Go.RowKit
def defsV (spans:List JSpan) (n k:Nat):List Int:=((spans.take k).map (·.node)).foldl bump (List.replicate n 0)
def kidsV (spans:List JSpan) (i:Nat):List Int:=kidI spans (i:Int) spans.length
structure OccOK (N:List GNode) (root:Int) (spans:List JSpan):Prop where
 ne:0<spans.length
 le:spans.length≤4096
 wf:∀i,i<spans.length→(Lit.int .i64 (spAt spans i).parent).wf=true
 h0:(spAt spans 0).node=root∧(spAt spans 0).parent = -1∧(spAt spans 0).entry=0∧(spAt spans 0).alias_=false
 up:∀i,0<i→i<spans.length→∃p m t:Nat,(spAt spans i).parent=(p:Int)∧p<i∧(spAt spans p).node=(m:Int)∧m<N.length∧(spAt spans i).entry=(t:Int)∧(ndAt N m).items[t]? = some (spAt spans i).node
 nd:∀i,i<spans.length→∃m:Nat,(spAt spans i).node=(m:Int)∧m<N.length∧(kidsV spans i).length=(ndAt N m).items.length
 kd:∀(i j:Nat) (x:Int),i<spans.length→(kidsV spans i)[j]? = some x→(spAt spans x.toNat).entry=(j:Int)
 al:∀i,i<spans.length→(spAt spans i).alias_=false
 df:∀m,m<N.length→(defsV spans N.length spans.length).getD m 0=if (inKeysV N).getD m false=true then 0 else 1
theorem kidI_map (spans:List JSpan) (p:Int):∀k,k≤spans.length→(kidI spans p k).map (fun x=>spAt spans x.toNat)=kidS p (spans.take k):=by
 intro k
 induction k with
 | zero=>intro _;rfl
 | succ k ih=>
  intro hk
  rw [kidI_succ,List.map_append,ih (by omega),List.take_add_one,spAt_get (by omega:k<spans.length),kidS_app]
  congr 1
  show _=kidS p [spAt spans k]
  by_cases h:(spAt spans k).parent=p
  ·rw [if_pos h,kidS_cons_eq h];simp [kidS]
  ·rw [if_neg h,kidS_cons_ne h];simp [kidS]
theorem kidsV_map (spans:List JSpan) (i:Nat):(kidsV spans i).map (fun x=>spAt spans x.toNat)=kidS (i:Int) spans:=by
 have:=kidI_map spans (i:Int) spans.length (Nat.le_refl _)
 rwa [List.take_length] at this
theorem parseJ_occ {s:List Nat} (hs:By s) {D:JDoc} (h:parseJ s=.ok D):OccOK D.nodes 0 D.spans:=by
 obtain⟨hJ,hn0,hn1⟩:=parseJ_JG hs h
 have hD:=parseJ_doc h
 have hI:=hJ.idx
 have hlen:D.spans.length+(keysOf D.nodes).length=D.nodes.length:=by
  have:=hD.pm.length_eq
  simpa [rng] using this
 obtain⟨r,r0,r1,r2,r3,_,_⟩:=hD.root
 have hr:=spAt_of r0
 have h0:=(List.getElem?_eq_some_iff.1 r0).1
 have hup:∀i,0<i→i<D.spans.length→0≤(spAt D.spans i).parent∧(spAt D.spans i).parent<(i:Int):=fun i h1 h2=>hD.up i _ h1 (spAt_get h2)
 have hnd:∀i,i<D.spans.length→SpanI D.nodes D.spans s.length i (spAt D.spans i):=fun i hi=>hD.ok i _ (spAt_get hi)
 have hkl:∀i:Nat,(kidS (i:Int) D.spans).length=(kidsV D.spans i).length:=fun i=>by rw [←kidsV_map,List.length_map]
 have hent:∀(i j:Nat) (x:JSpan),i<D.spans.length→(kidS (i:Int) D.spans)[j]? = some x→x.entry=(j:Int):=fun i j x hi hx=>by
  have e:=(hnd i hi).en
  have:=congrArg (fun l=>l[j]?) e
  simp only [List.getElem?_map] at this
  have hj:=(List.getElem?_eq_some_iff.1 hx).1
  rw [hx,List.getElem?_range hj] at this
  simpa using this
 refine⟨h0,by omega,fun i hi=>?_,by rw [hr];exact⟨r1,r2,r3,by have:=(hnd 0 h0).al;rwa [hr] at this⟩,fun i h1 h2=>?_,fun i hi=>?_,fun i j x hi hx=>?_,fun i hi=>(hnd i hi).al,fun m hm=>?_⟩
 ·by_cases hi0:i=0
  ·subst hi0;rw [hr,r2];decide
  ·have:=hup i (by omega) hi
   exact WalkArith.wf_i64 (by omega)
 ·obtain⟨u1,u2⟩:=hup i h1 h2
  obtain⟨p,hp⟩:∃p:Nat,(spAt D.spans i).parent=(p:Int):=⟨(spAt D.spans i).parent.toNat,by omega⟩
  have hpi:p<i:=by omega
  obtain⟨⟨m,nd,e1,e2,e3,_⟩,_,_,_,_⟩:=hnd p (by omega)
  have hm:=(List.getElem?_eq_some_iff.1 e2).1
  have hmem:spAt D.spans i∈kidS (p:Int) D.spans:=by
   unfold kidS
   exact List.mem_filter.2 ⟨List.mem_of_getElem? (spAt_get h2),by simpa using hp⟩
  obtain⟨t,ht,he⟩:=List.getElem_of_mem hmem
  have hg:(kidS (p:Int) D.spans)[t]? = some (spAt D.spans i):=by rw [List.getElem?_eq_getElem ht,he]
  refine⟨p,m,t,hp,hpi,e1,hm,hent p t _ (by omega) hg,?_⟩
  rw [ndAt_of e2,←e3,List.getElem?_map,hg]
  rfl
 ·obtain⟨⟨m,nd,e1,e2,e3,_⟩,_,_,_,_⟩:=hnd i hi
  refine⟨m,e1,(List.getElem?_eq_some_iff.1 e2).1,?_⟩
  rw [ndAt_of e2,←e3,List.length_map,hkl]
 ·refine hent i j _ hi ?_
  rw [←kidsV_map,List.getElem?_map,hx]
  rfl
 ·have hpos:∀x∈D.spans.map (·.node),(0:Int)≤x:=fun x hx=>by
   obtain⟨y,hy,rfl⟩:=List.mem_map.1 hx
   obtain⟨j,hj,rfl⟩:=List.getElem_of_mem hy
   obtain⟨⟨m,nd,e1,_⟩,_⟩:=hD.ok j _ (List.getElem?_eq_getElem hj)
   omega
  have hc:(defsV D.spans D.nodes.length D.spans.length).getD m 0=((D.spans.map (·.node)).count (m:Int):Int):=by
   unfold defsV
   rw [List.take_length,bumps_get _ _ _ (by simpa using hm) hpos]
   have:(List.replicate D.nodes.length (0:Int)).getD m 0=0:=by
    rw [List.getD_eq_getElem?_getD,List.getElem?_replicate];split <;> rfl
   rw [this];simp
  have hsum:=hD.pm.count_eq (m:Int)
  rw [rng_count,if_pos ⟨by omega,by omega⟩,List.count_append] at hsum
  have hkr:∀k∈D.nodes.flatMap GNode.keys,0≤k∧k<(D.nodes.length:Int):=fun k hk=>by
   obtain⟨nd,hnd2,hk2⟩:=List.mem_flatMap.1 hk
   obtain⟨j,hj,rfl⟩:=List.getElem_of_mem hnd2
   have:=(hJ j _ (List.getElem?_eq_getElem hj)).ref k (by unfold refs;exact List.mem_append.2 (.inl hk2))
   omega
  have hik:(inKeysV D.nodes).getD m false=true↔(m:Int)∈keysOf D.nodes:=by
   have hf:=(inKeys_fold hI _ hkr (noMarks D.nodes.length) (by simp [noMarks]) (noMarks_closed _ _)).2 m
   unfold inKeysV
   rw [hf,noMarks_get]
   constructor
   ·rintro(h | ⟨k,hk,hre⟩)
    ·cases h
    ·have hkm:∀i,Reach D.nodes k.toNat i→i=k.toNat:=fun i hi=>by
      induction hi with
      | refl=>rfl
      | step _ hb hx ihr=>
       subst ihr
       obtain⟨nd,hnd2,hk2⟩:=List.mem_flatMap.1 hk
       obtain⟨j,hj,rfl⟩:=List.getElem_of_mem hnd2
       obtain⟨nk,n1,n2⟩:=(hJ j _ (List.getElem?_eq_getElem hj)).key k hk2
       have hlf:=(hJ _ nk n1).leaf (by omega) (by omega)
       rw [ndAt_of n1] at hx
       unfold refs at hx
       rw [hlf.1,hlf.2] at hx
       cases hx
     have:=hkm m hre
     have:=(hkr k hk).1
     have e:k=(m:Int):=by omega
     subst e
     exact hk
   ·intro hk
    exact .inr ⟨(m:Int),hk,by rw [Int.toNat_natCast];exact .refl⟩
  rw [hc]
  by_cases hin:(inKeysV D.nodes).getD m false=true
  ·rw [if_pos hin]
   have:=List.count_pos_iff.2 (hik.1 hin)
   omega
  ·rw [if_neg hin]
   have:(keysOf D.nodes).count (m:Int)=0:=List.count_eq_zero.2 (fun e=>hin (hik.2 e))
   omega
structure RngOK (N:List GNode) (spans:List JSpan) (n:Nat):Prop where
 rg:∀i,i<spans.length→0≤(spAt spans i).from_∧(spAt spans i).from_≤(spAt spans i).to_∧(spAt spans i).to_≤(n:Int)∧0≤(spAt spans i).kf∧(spAt spans i).kf≤(spAt spans i).kt∧(spAt spans i).kt≤(n:Int)
 kz:∀i,i<spans.length→((spAt spans i).parent<0∨∃p m:Nat,(spAt spans i).parent=(p:Int)∧p<spans.length∧(spAt spans p).node=(m:Int)∧m<N.length∧(ndAt N m).kind≠10)→(spAt spans i).kf=0∧(spAt spans i).kt=0
 ch:∀i (m:Nat),i<spans.length→(spAt spans i).node=(m:Int)→NestCh (decide ((ndAt N m).kind=10)) (spAt spans i).to_ (spAt spans i).from_ ((kidsV spans i).map fun x=>spAt spans x.toNat)
theorem nestch_mem {m:Bool} {hi:Int}:∀{l:List JSpan} {lo:Int} {c:JSpan},NestCh m hi lo l→c∈l→∃b,KidAt m b c
 | _ :: _,lo,c,h,hc=>by
  rcases List.mem_cons.1 hc with rfl | hc
  ·exact⟨lo,h.1⟩
  ·exact nestch_mem h.2.2 hc
theorem parseJ_rng {s:List Nat} {D:JDoc} (h:parseJ s=.ok D):RngOK D.nodes D.spans s.length:=by
 have hD:=parseJ_doc h
 obtain⟨r,r0,r1,r2,r3,r4,r5⟩:=hD.root
 have hr:=spAt_of r0
 have hnd:∀i,i<D.spans.length→SpanI D.nodes D.spans s.length i (spAt D.spans i):=fun i hi=>hD.ok i _ (spAt_get hi)
 refine⟨fun i hi=>(hnd i hi).rg,fun i hi hc=>?_,fun i m hi hm=>?_⟩
 ·rcases hc with hc | ⟨p,m,h1,h2,h3,h4,h5⟩
  ·by_cases h0:i=0
   ·subst h0;rw [hr];exact⟨r4,r5⟩
   ·have:=hD.up i _ (by omega) (spAt_get hi)
    omega
  ·obtain⟨⟨m',nd,e1,e2,_,e4⟩,_,_,_,_⟩:=hnd p h2
   have hmm:m'=m:=by omega
   subst hmm
   rw [ndAt_of e2] at h5
   have hmem:spAt D.spans i∈kidS (p:Int) D.spans:=by
    unfold kidS
    exact List.mem_filter.2 ⟨List.mem_of_getElem? (spAt_get hi),by simpa using h1⟩
   rw [decide_eq_false h5] at e4
   obtain⟨b,hb⟩:=nestch_mem e4 hmem
   exact⟨hb.1,hb.2.1⟩
 ·obtain⟨⟨m',nd,e1,e2,_,e4⟩,_,_,_,_⟩:=hnd i hi
  have hmm:m'=m:=by omega
  subst hmm
  rw [ndAt_of e2,kidsV_map]
  exact e4
end Go.Proofs.YtijoollonkibfaaGreatDoor
namespace Go.Proofs.YtijoollonkibfaaGreatDoor
open Go.RowKit
theorem checkG_le:∀(f a:Nat) (l:List Nat) (k:Nat),checkG f a l=some k→k≤a+l.length:=by
 intro f
 induction f with
 | zero=>intro a l k h;cases h
 | succ f ih=>
  intro a l k h
  rw [checkG] at h
  by_cases hne:l = []
  ·rw [if_pos hne] at h;cases h
  ·rw [if_neg hne] at h
   by_cases hd:decL l=(65533,1)
   ·rw [if_pos hd] at h
    injection h with h
    omega
   ·rw [if_neg hd] at h
    have:=ih _ _ _ h
    have h2:=decL_le l hne
    rw [List.length_drop] at this
    omega
theorem scan_in (M:Nat):∀(f a:Nat) (l:List Nat) (ts:List JTok) (ns:List JNote),a+l.length≤M→OffLe M ts→(scanG f a l ts ns).at_≤M∧OffLe M (scanG f a l ts ns).toks:=by
 intro f
 induction f with
 | zero=>intro a l ts ns _ h;exact⟨Nat.zero_le _,h⟩
 | succ f ih=>
  intro a l ts ns ha h
  by_cases hne:l = []
  ·subst hne;rw [scanG_end];exact⟨Nat.zero_le _,h⟩
  ·have hp:=List.length_pos_iff.2 hne
   by_cases h1:isBlank (l.getD 0 0)=true
   ·rw [scanG_blank hne h1]
    exact ih _ _ _ _ (by rw [List.length_drop];omega) h
   ·by_cases h2:commV l<0
    ·rw [scanG_open hne h1 h2];exact⟨by simp only;omega,fun t ht=>by cases ht⟩
    ·by_cases h3:0<commV l
     ·rw [scanG_note hne h1 h3]
      have hc:=(commV_bd l).2
      exact ih _ _ _ _ (by rw [List.length_drop];omega) h
     ·have h4:commV l=0:=by omega
      have hd:=tokV_bd l hne
      by_cases h5:(tokV l).2=0
      ·rw [scanG_tok hne h1 h4 h5]
       refine ih _ _ _ _ (by rw [List.length_drop];omega) (fun t ht=>?_)
       rcases List.mem_append.1 ht with h6 | h6
       ·exact h t h6
       ·obtain rfl:=List.mem_singleton.1 h6
        simp only;omega
      ·rw [scanG_bad hne h1 h4 h5];exact⟨by simp only;omega,fun t ht=>by cases ht⟩
theorem scanV_in (s:List Nat):(scanV s).at_≤s.length∧OffLe s.length (scanV s).toks:=by
 unfold scanV
 split
 ·exact⟨Nat.zero_le _,fun t ht=>by cases ht⟩
 ·cases hc:checkV s with
  | some k=>exact⟨by have:=checkG_le _ _ _ _ hc;simp only;omega,fun t ht=>by cases ht⟩
  | none=>exact scan_in s.length s.length 0 s [] [] (by omega) (fun t ht=>by cases ht)
theorem parseJ_in {s:List Nat} {x:PErr} (h:parseJ s=.error x):x.1≤s.length:=by
 obtain⟨h1,h2⟩:=scanV_in s
 unfold parseJ at h
 split at h
 ·injection h with h;subst h;exact h1
 ·have hi:PInv (⟨(scanV s).toks,[],[]⟩:PSt):=⟨by simp,by simp⟩
  cases hv:valueV s.length (2*(scanV s).toks.length+1) ⟨(scanV s).toks,[],[]⟩ spanZ 0 with
  | error e=>
   rw [hv] at h
   injection h with h
   subst h
   exact(err_off (Nat.le_refl _) _).1 _ _ _ _ hi h2 hv
  | ok p=>
   obtain⟨v,st⟩:=p
   rw [hv] at h
   simp only at h
   have hsub:=OffLe.sub ((val_ok _ _).1 _ _ _ _ _ hi hv).2 h2
   split at h
   ·cases h
   ·rename_i t r hl2
    injection h with h
    subst h
    exact hsub t (by rw [hl2];simp)
end Go.Proofs.YtijoollonkibfaaGreatDoor
