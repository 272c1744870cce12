/- Plain laws: what the scanner of jsonlex reads in front does not depend on what stands behind. -/
import Derived.Test.YtijoollonkibfaaGreatDoorMH
set_option linter.unusedVariables false
set_option linter.unusedSimpArgs false
set_option linter.defProp false
set_option linter.constructorNameAsVariable false
namespace Go.Proofs.YtijoollonkibfaaGreatDoor
open Go.RowKit
theorem u8s_getD (l:List Nat) (i:Nat):((u8s l).getD i 0).toNat=l.getD i 0 % 256:=by
 unfold u8s
 rw [List.getD_eq_getElem?_getD,List.getD_eq_getElem?_getD,List.getElem?_map]
 cases l[i]? with
 | none=>rfl
 | some c=>simp
theorem decL_N (l:List Nat):decL l=Lib.decodeN l.length (l.getD 0 0 % 256) (l.getD 1 0 % 256) (l.getD 2 0 % 256) (l.getD 3 0 % 256):=by
 unfold decL
 rw [Lib.decodeL_N,u8s_getD,u8s_getD,u8s_getD,u8s_getD]
 congr 1
 unfold u8s
 exact List.length_map ..
theorem decN1 (n n' b0 b1 b2 b3 c1 c2 c3:Nat) (h:b1 / 64≠2) (h':c1 / 64≠2):Lib.decodeN n' b0 c1 c2 c3=Lib.decodeN n b0 b1 b2 b3∧(Lib.decodeN n b0 b1 b2 b3).2≤1:=by
 by_cases h0:b0<128
 ·rw [Lib.decodeN_ascii _ _ _ _ _ h0,Lib.decodeN_ascii _ _ _ _ _ h0];exact⟨rfl,Nat.le_refl _⟩
 ·rw [Lib.decodeN_alone _ _ _ _ _ (by omega) (.inr h),Lib.decodeN_alone _ _ _ _ _ (by omega) (.inr h')];exact⟨rfl,Nat.le_refl _⟩
set_option maxRecDepth 100000 in
set_option maxHeartbeats 4000000 in
theorem decN2 (n n' b0 b1 b2 b3 c2 c3:Nat) (hn:2≤n) (hn':2≤n') (h:b2 / 64≠2) (h':c2 / 64≠2):Lib.decodeN n' b0 b1 c2 c3=Lib.decodeN n b0 b1 b2 b3∧(Lib.decodeN n b0 b1 b2 b3).2≤2:=by
 unfold Lib.decodeN
 have e1:(1<n)=True:=eq_true (by omega)
 have e2:(1<n')=True:=eq_true (by omega)
 have e3:(b2 / 64=2)=False:=eq_false h
 have e4:(c2 / 64=2)=False:=eq_false h'
 simp only [e1,e2,e3,e4,and_false,true_and,false_and,if_false]
 (repeat' split) <;> first | simp | exact⟨rfl,by simp⟩
set_option maxRecDepth 100000 in
set_option maxHeartbeats 4000000 in
theorem decN3 (n n' b0 b1 b2 b3 c3:Nat) (hn:3≤n) (hn':3≤n') (h:b3 / 64≠2) (h':c3 / 64≠2):Lib.decodeN n' b0 b1 b2 c3=Lib.decodeN n b0 b1 b2 b3∧(Lib.decodeN n b0 b1 b2 b3).2≤3:=by
 unfold Lib.decodeN
 have e1:(1<n)=True:=eq_true (by omega)
 have e2:(1<n')=True:=eq_true (by omega)
 have e5:(2<n)=True:=eq_true (by omega)
 have e6:(2<n')=True:=eq_true (by omega)
 have e3:(b3 / 64=2)=False:=eq_false h
 have e4:(c3 / 64=2)=False:=eq_false h'
 simp only [e1,e2,e3,e4,e5,e6,and_false,true_and,if_false]
 (repeat' split) <;> first | simp | exact⟨rfl,by simp⟩
set_option maxRecDepth 100000 in
set_option maxHeartbeats 4000000 in
theorem decN4 (n n' b0 b1 b2 b3:Nat) (hn:4≤n) (hn':4≤n'):Lib.decodeN n' b0 b1 b2 b3=Lib.decodeN n b0 b1 b2 b3∧(Lib.decodeN n b0 b1 b2 b3).2≤4:=by
 unfold Lib.decodeN
 have e1:(1<n)=True:=eq_true (by omega)
 have e2:(1<n')=True:=eq_true (by omega)
 have e3:(2<n)=True:=eq_true (by omega)
 have e4:(2<n')=True:=eq_true (by omega)
 have e5:(3<n)=True:=eq_true (by omega)
 have e6:(3<n')=True:=eq_true (by omega)
 simp only [e1,e2,e3,e4,e5,e6,true_and]
 (repeat' split) <;> first | simp | exact⟨rfl,by simp⟩
theorem decL_local {r x y:List Nat} (hr:r≠[]) (hx:x.getD 0 0<128) (hy:y.getD 0 0<128):decL (r ++ y)=decL (r ++ x)∧(decL (r ++ x)).2≤r.length:=by
 rw [decL_N,decL_N]
 match r,hr with
 | [a],_=>
  simp only [List.cons_append,List.nil_append,List.getD_cons_succ,List.getD_cons_zero,List.length_cons]
  exact decN1 _ _ _ _ _ _ _ _ _ (by omega) (by omega)
 | [a,b],_=>
  simp only [List.cons_append,List.nil_append,List.getD_cons_succ,List.getD_cons_zero,List.length_cons]
  exact decN2 _ _ _ _ _ _ _ _ (by omega) (by omega) (by omega) (by omega)
 | [a,b,c],_=>
  simp only [List.cons_append,List.nil_append,List.getD_cons_succ,List.getD_cons_zero,List.length_cons]
  exact decN3 _ _ _ _ _ _ _ (by omega) (by omega) (by omega) (by omega)
 | a :: b :: c :: d :: t,_=>
  simp only [List.cons_append,List.getD_cons_succ,List.getD_cons_zero,List.length_cons]
  have:=decN4 ((t ++ x).length+1+1+1+1) ((t ++ y).length+1+1+1+1) (a % 256) (b % 256) (c % 256) (d % 256) (by omega) (by omega)
  exact⟨this.1,by omega⟩
def tokB (c:Nat):Bool:=isPunct c || decide (c=34) || letB c || numB c
theorem tokB_bd {c:Nat} (h:tokB c=true):c<128∧c≠10∧c≠47∧isBlank c=false:=by
 unfold tokB isPunct letB numB at h
 unfold isBlank
 simp at h ⊢
 omega
theorem idxB_at {c:Nat} {l:List Nat} {n:Nat} (h:idxB c l=some n):n<l.length∧l.getD n 0=c:=by
 induction l generalizing n with
 | nil=>cases h
 | cons a l ih=>
  unfold idxB at h
  split at h
  ·rename_i e;cases h;exact⟨by simp,e⟩
  ·cases h1:idxB c l with
   | none=>rw [h1] at h;cases h
   | some m=>rw [h1] at h;cases h;have:=ih h1;exact⟨by simp;omega,this.2⟩
end Go.Proofs.YtijoollonkibfaaGreatDoor
namespace Go.Proofs.YtijoollonkibfaaGreatDoor
open Go.RowKit
theorem scanG_end {f a:Nat} {ts:List JTok} {ns:List JNote}:scanG f a [] ts ns=⟨ts,ns,0,0⟩:=by cases f <;> simp [scanG]
section
variable {f a:Nat} {l:List Nat} {ts:List JTok} {ns:List JNote}
theorem scanG_blank (hl:l≠[]) (h:isBlank (l.getD 0 0)=true):scanG (f+1) a l ts ns=scanG f (a+1) (l.drop 1) ts ns:=by rw [scanG,if_neg hl,if_pos h]
theorem scanG_open (hl:l≠[]) (h:¬isBlank (l.getD 0 0)=true) (h2:commV l<0):scanG (f+1) a l ts ns=⟨[],[],a,4⟩:=by rw [scanG,if_neg hl,if_neg h,if_pos h2]
theorem scanG_note (hl:l≠[]) (h:¬isBlank (l.getD 0 0)=true) (h2:0<commV l) :
  scanG (f+1) a l ts ns=scanG f (a+(commV l).toNat) (l.drop (commV l).toNat) ts (ns ++ [⟨a,a+(commV l).toNat,l.take (commV l).toNat⟩]):=by rw [scanG,if_neg hl,if_neg h,if_neg (by omega),if_pos h2]
theorem scanG_tok (hl:l≠[]) (h:¬isBlank (l.getD 0 0)=true) (h2:commV l=0) (h3:(tokV l).2=0) :
  scanG (f+1) a l ts ns=scanG f (a+(tokV l).1.to_) (l.drop (tokV l).1.to_) (ts ++ [⟨(tokV l).1.kind,a,a+(tokV l).1.to_,(tokV l).1.text⟩]) ns:=by rw [scanG,if_neg hl,if_neg h,if_neg (by omega),if_neg (by omega),if_pos h3]
theorem scanG_bad (hl:l≠[]) (h:¬isBlank (l.getD 0 0)=true) (h2:commV l=0) (h3:(tokV l).2≠0) :
  scanG (f+1) a l ts ns=⟨[],[],a+(tokV l).1.to_,(tokV l).2⟩:=by rw [scanG,if_neg hl,if_neg h,if_neg (by omega),if_neg (by omega),if_neg h3]
end
def insL:List Nat:=[32,47,42,44,32,34,42,47,10]
theorem checkG_end {f a:Nat}:checkG f a []=none:=by cases f <;> simp [checkG]
theorem checkG_step {f a:Nat} {l:List Nat} (hne:l≠[]) (h:checkG (f+1) a l=none):decL l≠(65533,1)∧checkG f (a+(decL l).2) (l.drop (decL l).2)=none:=by
 rw [checkG,if_neg hne] at h
 by_cases hd:decL l=(65533,1)
 ·rw [if_pos hd] at h;cases h
 ·rw [if_neg hd] at h;exact⟨hd,h⟩
theorem check_gen {l:List Nat} {f a g b:Nat} (h:checkG f a l=none) (hf:l.length≤f) (hg:l.length≤g):checkG g b l=none:=by
 induction f generalizing l a g b with
 | zero=>have:l = []:=List.eq_nil_of_length_eq_zero (by omega);subst this;exact checkG_end
 | succ f ih=>
  by_cases hne:l = []
  ·subst hne;exact checkG_end
  ·obtain⟨h1,h2⟩:=checkG_step hne h
   have:=List.length_pos_iff.2 hne
   have hk:=(decL_bd l).2
   obtain⟨g,rfl⟩:∃g',g=g'+1:=⟨g - 1,by omega⟩
   rw [checkG,if_neg hne,if_neg h1]
   exact ih h2 (by rw [List.length_drop];omega) (by rw [List.length_drop];omega)
theorem check_ascii {c:Nat} {l:List Nat} (hc:c<128) {g b:Nat}:checkG (g+1) b (c :: l)=checkG g (b+1) l:=by
 have hd:decL (c :: l)=(c,1):=by
  rw [decL_N]
  have:(c :: l).getD 0 0 % 256=c:=by show c % 256=c;omega
  rw [this,Lib.decodeN_ascii _ _ _ _ _ hc]
 rw [checkG,if_neg (by simp),hd,if_neg (by intro e;injection e with e;omega)]
 rfl
end Go.Proofs.YtijoollonkibfaaGreatDoor
namespace Go.Proofs.YtijoollonkibfaaGreatDoor
open Go.RowKit
def Off (a b:Nat):Prop:=b=a∨b=a+9
def TokR9 (t t':JTok):Prop:=t'.kind=t.kind∧t'.text=t.text∧Off t.from_ t'.from_
inductive Toks9:List JTok→List JTok→Prop
 | nil:Toks9 [] []
 | cons {t t':JTok} {l l':List JTok} (h:TokR9 t t') (k:Toks9 l l'):Toks9 (t :: l) (t' :: l')
theorem Toks9.refl:∀l:List JTok,Toks9 l l
 | []=>.nil
 | _ :: l=>.cons ⟨rfl,rfl,.inl rfl⟩ (Toks9.refl l)
theorem Toks9.app {a a' b b':List JTok} (h:Toks9 a a') (k:Toks9 b b'):Toks9 (a ++ b) (a' ++ b'):=by
 induction h with
 | nil=>exact k
 | cons h1 _ ih=>exact .cons h1 ih
theorem Toks9.len {a b:List JTok} (h:Toks9 a b):b.length=a.length:=by
 induction h with
 | nil=>rfl
 | cons _ _ ih=>simp [ih]
structure St9 (st st':PSt):Prop where
 left:Toks9 st.left st'.left
 nodes:st'.nodes=st.nodes
 spans:st'.spans.length=st.spans.length
structure Lp9 (x x':PLoop):Prop where
 st:St9 x.st x'.st
 ks:x'.ks=x.ks
 keys:x'.keys=x.keys
 items:x'.items=x.items
def RelE {α:Type} (R:α→α→Prop):Except PErr α→Except PErr α→Prop
 | .error e,.error e'=>Off e.1 e'.1∧e'.2=e.2
 | .ok a,.ok a'=>R a a'
 | _,_=>False
def ValR9 (a b:Int×PSt):Prop:=b.1=a.1∧St9 a.2 b.2
structure JDoc where
 nodes:List GNode
 spans:List JSpan
 notes:List JNote
def spanZ:JSpan:=⟨0,-1,0,0,0,0,0,false,false⟩
def parseJ (s:List Nat):Except PErr JDoc:=
 if (scanV s).err≠0 then .error ((scanV s).at_,(scanV s).err)
 else match valueV s.length (2*(scanV s).toks.length+1) ⟨(scanV s).toks,[],[]⟩ spanZ 0 with
  | .error e=>.error e
  | .ok (_,st)=>match st.left with
   | []=>.ok ⟨st.nodes,st.spans,(scanV s).notes⟩
   | t :: _=>.error (t.from_,4)
end Go.Proofs.YtijoollonkibfaaGreatDoor
namespace Go.Proofs.YtijoollonkibfaaGreatDoor
open Go.RowKit
theorem encL_by (r:Int):By (encL r)∧(encL r).length≤4:=by
  refine⟨By.u8 _,?_⟩
  unfold encL
  rw [List.length_map]
  exact enc_len r
theorem quotG_text (f:Nat) (l:List Nat) (p nx:Nat) (acc:List Nat) (h:By acc):By (quotG f l p nx acc).1∧(quotG f l p nx acc).1.length≤acc.length+4*f:=by
  induction f generalizing l p nx acc with
  | zero=>simp [quotG,By.nil]
  | succ f ih=>
    have app:∀r:Int,By (acc ++ encL r)∧(acc ++ encL r).length≤acc.length+4:=fun r=>by
      have:=encL_by r
      refine⟨fun c hc=>?_,by rw [List.length_append];omega⟩
      rcases List.mem_append.1 hc with h1 | h1
      · exact h c h1
      · exact this.1 c h1
    by_cases hne:l = []
    · subst hne;rw [quotG_end];exact⟨By.nil,by simp⟩
    · by_cases hp:p<nx
      · rw [quotG_skip hne hp];have:=ih (l.drop (decL l).2) (p+(decL l).2) nx acc h;exact⟨this.1,by omega⟩
      · by_cases h34:(decL l).1=34
        · rw [quotG_quote hne hp h34];exact⟨h,by simp only;omega⟩
        · by_cases h32:(decL l).1<32
          · rw [quotG_low hne hp h34 h32];exact⟨By.nil,by simp⟩
          · by_cases h92:(decL l).1=92
            · by_cases he:(escV l).2.2=0
              · rw [quotG_esc hne hp h92 he]
                have h1:=app (escV l).1
                have:=ih (l.drop (decL l).2) (p+(decL l).2) (p+(escV l).2.1.toNat) _ h1.1
                exact⟨this.1,by omega⟩
              · rw [quotG_bad hne hp h92 he];exact⟨By.nil,by simp⟩
            · rw [quotG_rune hne hp h34 h32 h92]
              have h1:=app ((decL l).1:Int)
              have:=ih (l.drop (decL l).2) (p+(decL l).2) (p+(Lib.runeLen ((decL l).1:Int)).toNat) _ h1.1
              exact⟨this.1,by omega⟩
theorem seqN_all (l:List Nat):∀c∈l.take (seqN l),c<128:=by
  induction l with
  | nil=>simp
  | cons a l ih=>
    unfold seqN
    by_cases ha:(letB a || numB a)=true
    · rw [if_pos ha]
      intro c hc
      rw [List.take_succ_cons] at hc
      rcases List.mem_cons.1 hc with rfl | hc
      · have : tokB c = true := by unfold tokB; simp only [Bool.or_eq_true] at ha ⊢; rcases ha with h | h
                                   · exact .inl (.inr h)
                                   · exact .inr h
        exact(tokB_bd this).1
      · exact ih c hc
    · rw [if_neg ha];simp
theorem By.taken {l:List Nat} (h:By l) (n:Nat):By (l.take n):=fun c hc=>h c (List.mem_of_mem_take hc)
theorem tokV_ok {l:List Nat} (hb:By l) (hl:l.length≤65536) (h:(tokV l).2=0):By (tokV l).1.text∧(tokV l).1.text.length≤4294967200∧((tokV l).1.kind≠1→(tokV l).1.kind≠2→(tokV l).1.kind≠4→∀c∈(tokV l).1.text,c<128):=by
  have htk:∀n,(l.take n).length≤4294967200:=fun n=>by rw [List.length_take];omega
  unfold tokV at h ⊢
  split
  · exact⟨hb.taken 1,htk 1,fun h=>absurd rfl h⟩
  · rename_i h1
    rw [if_neg h1] at h
    split
    · have:=quotG_text l.length l 0 1 [] By.nil
      exact⟨this.1,by show(quotG l.length l 0 1 []).1.length≤_;have:=this.2;simp at this;omega,fun _ h=>absurd rfl h⟩
    · rename_i h2
      rw [if_neg h2] at h
      split
      · rename_i h3
        rw [if_pos h3] at h
        unfold seqV at h ⊢
        split
        · split
          · simp [noTok,By.nil]
          · exact⟨hb.taken _,htk _,fun _ _ _=>seqN_all l⟩
        · split
          · exact⟨hb.taken _,htk _,fun _ _ h=>absurd rfl h⟩
          · simp [noTok,By.nil]
      · simp [noTok,By.nil]
theorem By.dropped {l:List Nat} (h:By l) (n:Nat):By (l.drop n):=fun c hc=>h c (List.mem_of_mem_drop hc)
theorem scan_toks : ∀ (f a : Nat) (l : List Nat) (ts : List JTok) (ns : List JNote), By l → a + l.length ≤ 65536 → (∀ t ∈ ts, TokOK t) →
    (∀t∈(scanG f a l ts ns).toks,TokOK t)∧(scanG f a l ts ns).toks.length≤ts.length+l.length:=by
  intro f
  induction f with
  | zero=>intro a l ts ns _ _ h;exact⟨h,by simp [scanG]⟩
  | succ f ih=>
    intro a l ts ns hb ha h
    by_cases hne:l = []
    · subst hne;rw [scanG_end];exact⟨h,by simp⟩
    · have hp:=List.length_pos_iff.2 hne
      by_cases h1:isBlank (l.getD 0 0)=true
      · rw [scanG_blank hne h1]
        have:=ih (a+1) (l.drop 1) ts ns (hb.dropped 1) (by rw [List.length_drop];omega) h
        rw [List.length_drop] at this
        exact⟨this.1,by omega⟩
      · by_cases h2:commV l<0
        · rw [scanG_open hne h1 h2];exact⟨by simp,by simp⟩
        · by_cases h3:0<commV l
          · rw [scanG_note hne h1 h3]
            have hc:=(commV_bd l).2
            have:=ih (a+(commV l).toNat) (l.drop (commV l).toNat) ts (ns ++ [⟨a,a+(commV l).toNat,l.take (commV l).toNat⟩]) (hb.dropped _) (by rw [List.length_drop];omega) h
            rw [List.length_drop] at this
            exact⟨this.1,by omega⟩
          · have h4:commV l=0:=by omega
            by_cases h5:(tokV l).2=0
            · rw [scanG_tok hne h1 h4 h5]
              have hd:=tokV_bd l hne
              have hk:=tokV_ok hb (by omega) h5
              have hd1:=hd.2.1 h5
              have:=ih (a+(tokV l).1.to_) (l.drop (tokV l).1.to_) (ts ++ [⟨(tokV l).1.kind,a,a+(tokV l).1.to_,(tokV l).1.text⟩]) ns (hb.dropped _) (by rw [List.length_drop];omega) (fun t ht=>by
                rcases List.mem_append.1 ht with h6 | h6
                · exact h t h6
                · obtain rfl:=List.mem_singleton.1 h6
                  exact⟨hk.1,hk.2.1,hk.2.2,by simp only;omega,by simp only;omega⟩)
              rw [List.length_append,List.length_singleton,List.length_drop] at this
              exact⟨this.1,by omega⟩
            · rw [scanG_bad hne h1 h4 h5];exact⟨by simp,by simp⟩
theorem scanV_toks (s:List Nat) (hb:By s):(∀t∈(scanV s).toks,TokOK t)∧(scanV s).toks.length≤65536∧((scanV s).err=0→s.length≤65536):=by
  unfold scanV
  by_cases hl:65536<s.length
  · rw [if_pos hl];exact⟨by simp,by simp,by simp⟩
  · rw [if_neg hl]
    cases checkV s with
    | some k=>exact⟨by simp,by simp,by simp⟩
    | none=>
      have:=scan_toks s.length 0 s [] [] hb (by omega) (by simp)
      simp only [List.length_nil] at this
      exact⟨this.1,by simp only;omega,fun _=>by omega⟩
def NB (L:Nat) (l:List GNode):Prop:=∀nd∈l,nd.keys.length≤L∧nd.items.length≤L
theorem NB.snoc {L:Nat} {l:List GNode} (h:NB L l) (nd:GNode) (hk:nd.keys = []) (hi:nd.items = []):NB L (l ++ [nd]):=fun x hx=>by
  rcases List.mem_append.1 hx with h1 | h1
  · exact h x h1
  · obtain rfl:=List.mem_singleton.1 h1
    rw [hk,hi];simp
theorem scalarV_no {t:JTok} {nd:GNode} (h:scalarV t=some nd):nd.keys = []∧nd.items = []:=by
  unfold scalarV at h
  (repeat' split at h) <;> first | (obtain rfl:=Option.some.inj h;exact⟨rfl,rfl⟩) | cases h
theorem nodes_bd (en L : Nat) (f : Nat) :
    (∀st s d v st',NB L st.nodes→st.left.length≤L→PInv st→valueV en f st s d=.ok (v,st')→NB L st'.nodes) ∧
    (∀obj k d x y,NB L x.st.nodes→x.items.length+x.st.left.length≤L→x.keys.length+x.st.left.length≤L→PInv x.st→itemsV en f obj k d x=.ok y→NB L y.st.nodes∧y.items.length≤L∧y.keys.length≤L):=by
  induction f with
  | zero=>
    constructor
    · intro st s d v st' _ _ _ h;rw [valueV] at h;cases h
    · intro obj k d x y _ _ _ _ h;rw [itemsV] at h;cases h
  | succ f ih=>
    constructor
    · intro st s d v st' hn hl hi h
      rw [valueV] at h
      cases hll:st.left with
      | nil=>rw [hll] at h;cases h
      | cons t r=>
        rw [hll] at h hl
        simp only at h
        rw [List.length_cons] at hl
        split at h
        · cases h
        split at h
        · cases h
        split at h
        · cases h
        rename_i hn4
        split at h
        · split at h
          · cases h
          · rename_i x hx
            have hi1:PInv (⟨r,st.nodes ++ [⟨if t.text = [123] then 10 else 9,[],false,[],[]⟩],st.spans ++ [{ s with node:=st.nodes.length,from_:=t.from_,whole:=true }]⟩:PSt):=⟨by simp;omega,by have:=hi.2;simp;omega⟩
            obtain⟨h1,h2,h3⟩:=ih.2 _ _ _ _ _ (hn.snoc _ rfl rfl) (by simp;omega) (by simp;omega) hi1 hx
            injection h with h
            injection h with _ h
            subst h
            intro nd hnd
            rcases List.mem_or_eq_of_mem_set hnd with h4 | rfl
            · exact h1 nd h4
            · exact⟨h3,h2⟩
        · split at h
          · cases h
          · rename_i nd hnd
            injection h with h
            injection h with _ h
            subst h
            exact hn.snoc _ (scalarV_no hnd).1 (scalarV_no hnd).2
    · intro obj k d x y hn hli hlk hi h
      rw [itemsV] at h
      by_cases hc:isV x.st.left (if obj then [125] else [93])=true
      · rw [if_pos hc] at h
        injection h with h
        subst h
        exact⟨hn,by omega,by omega⟩
      · rw [if_neg hc] at h
        cases hcm:commaV en x with
        | error e=>rw [hcm] at h;cases h
        | ok a=>
          rw [hcm] at h
          simp only at h
          obtain⟨a1,a2,a3,a4,a5,a6⟩:=commaV_ok hcm
          have hia:PInv a.st:=⟨by rw [a4];exact hi.1,by rw [a4,a5];exact hi.2⟩
          have hal:=a6.len
          have key:∀(z:PLoop) (s:JSpan),PInv z.st→NB L z.st.nodes→z.items.length+z.st.left.length≤L→z.keys.length+z.st.left.length≤L→(match valueV en f z.st s (d+1) with | .error e=>.error e | .ok (v,st)=>itemsV en f obj k d ⟨st,z.ks,z.keys,z.items ++ [v]⟩)=Except.ok y→NB L y.st.nodes∧y.items.length≤L∧y.keys.length≤L:=by
            intro z s hz hzn hz1 hz2 hh
            cases hv:valueV en f z.st s (d+1) with
            | error e=>rw [hv] at hh;cases hh
            | ok p=>
              obtain⟨v,st⟩:=p
              rw [hv] at hh
              simp only at hh
              have b0:=ih.1 _ _ _ _ _ hzn (by omega) hz hv
              obtain⟨b1,b2⟩:=(val_ok en f).1 _ _ _ _ _ hz hv
              have b3:=b2.len
              exact ih.2 _ _ _ _ _ b0 (by simp;omega) (by simp;omega) b1 hh
          cases obj with
          | false=>exact key a _ hia (by rw [a4];exact hn) (by rw [a3];omega) (by rw [a2];omega) h
          | true=>
            simp only [if_true] at h
            cases hk:keyV en d a ⟨0,k,x.items.length,0,0,0,0,false,false⟩ with
            | error e=>rw [hk] at h;cases h
            | ok p=>
              obtain⟨z,s⟩:=p
              rw [hk] at h
              obtain⟨k1,k2,_⟩:=keyV_sub hk hia
              obtain⟨t,r,r2,t2,hl,_,_,_,hn4,_,_,rfl,_⟩:=keyV_ok hk
              rw [hl] at hal
              simp only [List.length_cons] at hal
              exact key _ s k1 (by rw [a4];exact hn.snoc _ rfl rfl) (by simp only [a3];omega) (by simp [a2];omega) h
end Go.Proofs.YtijoollonkibfaaGreatDoor
namespace Go.Proofs.YtijoollonkibfaaGreatDoor
open Go.RowKit
theorem commaV_nz {en:Nat} {x:PLoop} {e:PErr} (h:commaV en x=.error e):e.2≠0:=by
 unfold commaV at h
 split at h
 ·cases h
 ·split at h
  ·cases h
  ·injection h with h;subst h;simp
theorem keyV_nz {en d:Nat} {x:PLoop} {s:JSpan} {e:PErr} (h:keyV en d x s=.error e):e.2≠0:=by
 unfold keyV at h
 split at h
 ·injection h with h;subst h;simp
 ·(repeat' split at h) <;> first | (injection h with h;subst h;simp) | cases h
theorem err_nz (en:Nat) (f:Nat) :
  (∀st s d e,PInv st→2*st.left.length<f→valueV en f st s d=.error e→e.2≠0) ∧
  (∀obj k d x e,PInv x.st→2*x.st.left.length+1<f→itemsV en f obj k d x=.error e→e.2≠0):=by
 induction f with
 | zero=>exact⟨fun _ _ _ _ _ h=>by omega,fun _ _ _ _ _ _ h=>by omega⟩
 | succ f ih=>
  constructor
  ·intro st s d e hi hf h
   rw [valueV] at h
   cases hl:st.left with
   | nil=>rw [hl] at h;injection h with h;subst h;simp
   | cons t r=>
    rw [hl] at h hf
    simp only at h
    rw [List.length_cons] at hf
    split at h
    ·injection h with h;subst h;simp
    split at h
    ·injection h with h;subst h;simp
    split at h
    ·injection h with h;subst h;simp
    rename_i hn4
    split at h
    ·have hi1:PInv (⟨r,st.nodes ++ [⟨if t.text = [123] then 10 else 9,[],false,[],[]⟩],st.spans ++ [{ s with node:=st.nodes.length,from_:=t.from_,whole:=true }]⟩:PSt):=⟨by simp;omega,by have:=hi.2;simp;omega⟩
     split at h
     ·rename_i e' he
      injection h with h
      subst h
      exact ih.2 _ _ _ _ _ hi1 (by simp only;omega) he
     ·cases h
    ·split at h
     ·injection h with h;subst h;simp
     ·cases h
  ·intro obj k d x e hi hf h
   rw [itemsV] at h
   by_cases hc:isV x.st.left (if obj then [125] else [93])=true
   ·rw [if_pos hc] at h;cases h
   ·rw [if_neg hc] at h
    cases hcm:commaV en x with
    | error e'=>rw [hcm] at h;injection h with h;subst h;exact commaV_nz hcm
    | ok a=>
     rw [hcm] at h
     simp only at h
     obtain⟨a1,a2,a3,a4,a5,a6⟩:=commaV_ok hcm
     have hia:PInv a.st:=⟨by rw [a4];exact hi.1,by rw [a4,a5];exact hi.2⟩
     have hal:=a6.len
     have key:∀(z:PLoop) (s:JSpan),PInv z.st→z.st.left.length≤a.st.left.length→(match valueV en f z.st s (d+1) with | .error e=>.error e | .ok (v,st)=>itemsV en f obj k d ⟨st,z.ks,z.keys,z.items ++ [v]⟩)=Except.error e→e.2≠0:=by
      intro z s hz hzl hh
      cases hv:valueV en f z.st s (d+1) with
      | error e'=>rw [hv] at hh;injection hh with hh;subst hh;exact ih.1 _ _ _ _ hz (by omega) hv
      | ok p=>
       obtain⟨v,st⟩:=p
       rw [hv] at hh
       simp only at hh
       obtain⟨b1,b2⟩:=(val_ok en f).1 _ _ _ _ _ hz hv
       have b3:=b2.len
       exact ih.2 _ _ _ _ _ b1 (by simp only;omega) hh
     cases obj with
     | false=>exact key a _ hia (Nat.le_refl _) h
     | true=>
      simp only [if_true] at h
      cases hk:keyV en d a ⟨0,k,x.items.length,0,0,0,0,false,false⟩ with
      | error e'=>rw [hk] at h;injection h with h;subst h;exact keyV_nz hk
      | ok p=>
       obtain⟨z,s⟩:=p
       rw [hk] at h
       obtain⟨k1,k2,_⟩:=keyV_sub hk hia
       have:=k2.len
       exact key z s k1 (by omega) h
theorem parseJ_nz {s:List Nat} {x:PErr} (h:parseJ s=.error x):x.2≠0:=by
 unfold parseJ at h
 by_cases he:(scanV s).err≠0
 ·rw [if_pos he] at h;injection h with h;subst h;exact he
 ·rw [if_neg he] at h
  cases hv:valueV s.length (2*(scanV s).toks.length+1) ⟨(scanV s).toks,[],[]⟩ spanZ 0 with
  | error e=>
   rw [hv] at h
   injection h with h
   subst h
   exact(err_nz _ _).1 _ _ _ _ ⟨by simp,by simp⟩ (by simp) hv
  | ok p=>
   obtain⟨v,st⟩:=p
   rw [hv] at h
   simp only at h
   split at h
   ·cases h
   ·injection h with h;subst h;simp
theorem parseJ_nb {s:List Nat} {D:JDoc} (hs:By s) (h:parseJ s=.ok D):NB 65536 D.nodes∧D.nodes.length≤65536:=by
 unfold parseJ at h
 by_cases he:(scanV s).err≠0
 ·rw [if_pos he] at h;cases h
 ·rw [if_neg he] at h
  cases hv:valueV s.length (2*(scanV s).toks.length+1) ⟨(scanV s).toks,[],[]⟩ spanZ 0 with
  | error e=>rw [hv] at h;cases h
  | ok p=>
   obtain⟨v,st⟩:=p
   rw [hv] at h
   simp only at h
   split at h
   ·injection h with h
    subst h
    have hi:PInv (⟨(scanV s).toks,[],[]⟩:PSt):=⟨by simp,by simp⟩
    exact⟨(nodes_bd _ 65536 _).1 _ _ _ _ _ (by intro nd h;cases h) (scanV_toks s hs).2.1 hi hv,by have:=((val_ok _ _).1 _ _ _ _ _ hi hv).1.1;simp only;omega⟩
   ·cases h
def OffLe (M:Nat) (l:List JTok):Prop:=∀t∈l,t.from_≤M
theorem OffLe.sub {M m:Nat} {a b:PSt} (h:PSub m a b) (ha:OffLe M a.left):OffLe M b.left:=by
 obtain⟨⟨j,h1,h2,h3⟩,_⟩:=h
 intro t ht
 rw [h3] at ht
 exact ha t (List.mem_of_mem_drop ht)
theorem offV_le {en M:Nat} (he:en≤M) {l:List JTok} (h:OffLe M l):offV en l≤M:=by
 cases l with
 | nil=>exact he
 | cons t r=>exact h t (by simp)
theorem commaV_off {en M:Nat} (he:en≤M) {x:PLoop} {e:PErr} (hx:OffLe M x.st.left) (h:commaV en x=.error e):e.1≤M:=by
 unfold commaV at h
 split at h
 ·cases h
 ·split at h
  ·cases h
  ·injection h with h;subst h;exact offV_le he hx
theorem keyV_off {en M d:Nat} (he:en≤M) {x:PLoop} {s:JSpan} {e:PErr} (hx:OffLe M x.st.left) (h:keyV en d x s=.error e):e.1≤M:=by
 unfold keyV at h
 cases hl:x.st.left with
 | nil=>rw [hl] at h;injection h with h;subst h;exact he
 | cons t r=>
  rw [hl] at h hx
  simp only at h
  have ht:=hx t (by simp)
  have hr:OffLe M r:=fun t' h'=>hx t' (List.mem_cons_of_mem _ h')
  (repeat' split at h) <;> first | (injection h with h;subst h;first | exact ht | exact offV_le he hr) | cases h
theorem err_off {en M:Nat} (he:en≤M) (f:Nat) :
  (∀st s d e,PInv st→OffLe M st.left→valueV en f st s d=.error e→e.1≤M) ∧
  (∀obj k d x e,PInv x.st→OffLe M x.st.left→itemsV en f obj k d x=.error e→e.1≤M):=by
 induction f with
 | zero=>
  constructor
  ·intro st s d e _ _ h;rw [valueV] at h;injection h with h;subst h;exact Nat.zero_le _
  ·intro obj k d x e _ _ h;rw [itemsV] at h;injection h with h;subst h;exact Nat.zero_le _
 | succ f ih=>
  constructor
  ·intro st s d e hi hf h
   rw [valueV] at h
   cases hl:st.left with
   | nil=>rw [hl] at h;injection h with h;subst h;exact he
   | cons t r=>
    rw [hl] at h hf
    simp only at h
    have ht:=hf t (by simp)
    split at h
    ·injection h with h;subst h;exact ht
    split at h
    ·injection h with h;subst h;exact ht
    split at h
    ·injection h with h;subst h;exact ht
    rename_i hn4
    split at h
    ·have hi1:PInv (⟨r,st.nodes ++ [⟨if t.text = [123] then 10 else 9,[],false,[],[]⟩],st.spans ++ [{ s with node:=st.nodes.length,from_:=t.from_,whole:=true }]⟩:PSt):=⟨by simp;omega,by have:=hi.2;simp;omega⟩
     split at h
     ·rename_i e' he'
      injection h with h
      subst h
      exact ih.2 _ _ _ _ _ hi1 (fun t' h'=>hf t' (List.mem_cons_of_mem _ h')) he'
     ·cases h
    ·split at h
     ·injection h with h;subst h;exact ht
     ·cases h
  ·intro obj k d x e hi hf h
   rw [itemsV] at h
   by_cases hc:isV x.st.left (if obj then [125] else [93])=true
   ·rw [if_pos hc] at h;cases h
   ·rw [if_neg hc] at h
    cases hcm:commaV en x with
    | error e'=>rw [hcm] at h;injection h with h;subst h;exact commaV_off he hf hcm
    | ok a=>
     rw [hcm] at h
     simp only at h
     obtain⟨a1,a2,a3,a4,a5,a6⟩:=commaV_ok hcm
     have hia:PInv a.st:=⟨by rw [a4];exact hi.1,by rw [a4,a5];exact hi.2⟩
     have hal:=OffLe.sub a6 hf
     have key:∀(z:PLoop) (s:JSpan),PInv z.st→OffLe M z.st.left→(match valueV en f z.st s (d+1) with | .error e=>.error e | .ok (v,st)=>itemsV en f obj k d ⟨st,z.ks,z.keys,z.items ++ [v]⟩)=Except.error e→e.1≤M:=by
      intro z s hz hzl hh
      cases hv:valueV en f z.st s (d+1) with
      | error e'=>rw [hv] at hh;injection hh with hh;subst hh;exact ih.1 _ _ _ _ hz hzl hv
      | ok p=>
       obtain⟨v,st⟩:=p
       rw [hv] at hh
       simp only at hh
       obtain⟨b1,b2⟩:=(val_ok en f).1 _ _ _ _ _ hz hv
       exact ih.2 _ _ _ _ _ b1 (OffLe.sub b2 hzl) hh
     cases obj with
     | false=>exact key a _ hia hal h
     | true=>
      simp only [if_true] at h
      cases hk:keyV en d a ⟨0,k,x.items.length,0,0,0,0,false,false⟩ with
      | error e'=>rw [hk] at h;injection h with h;subst h;exact keyV_off he hal hk
      | ok p=>
       obtain⟨z,s⟩:=p
       rw [hk] at h
       obtain⟨k1,k2,_⟩:=keyV_sub hk hia
       exact key z s k1 (OffLe.sub k2 hal) h
theorem scan_notes:∀(f a:Nat) (l:List Nat) (ts:List JTok) (ns:List JNote),(scanG f a l ts ns).notes.length≤ns.length+l.length:=by
 intro f
 induction f with
 | zero=>intro a l ts ns;simp [scanG]
 | succ f ih=>
  intro a l ts ns
  by_cases hne:l = []
  ·subst hne;rw [scanG_end];simp
  ·have hp:=List.length_pos_iff.2 hne
   by_cases h1:isBlank (l.getD 0 0)=true
   ·rw [scanG_blank hne h1]
    have:=ih (a+1) (l.drop 1) ts ns
    rw [List.length_drop] at this
    omega
   ·by_cases h2:commV l<0
    ·rw [scanG_open hne h1 h2];simp
    ·by_cases h3:0<commV l
     ·rw [scanG_note hne h1 h3]
      have hc:=(commV_bd l).2
      have:=ih (a+(commV l).toNat) (l.drop (commV l).toNat) ts (ns ++ [⟨a,a+(commV l).toNat,l.take (commV l).toNat⟩])
      rw [List.length_append,List.length_singleton,List.length_drop] at this
      omega
     ·have h4:commV l=0:=by omega
      by_cases h5:(tokV l).2=0
      ·rw [scanG_tok hne h1 h4 h5]
       have:=ih (a+(tokV l).1.to_) (l.drop (tokV l).1.to_) (ts ++ [⟨(tokV l).1.kind,a,a+(tokV l).1.to_,(tokV l).1.text⟩]) ns
       rw [List.length_drop] at this
       omega
      ·rw [scanG_bad hne h1 h4 h5];simp
theorem parseJ_notes {s:List Nat} {D:JDoc} (h:parseJ s=.ok D):D.notes.length≤65536:=by
 unfold parseJ at h
 by_cases he:(scanV s).err≠0
 ·rw [if_pos he] at h;cases h
 ·rw [if_neg he] at h
  have hn:(scanV s).notes.length≤65536:=by
   unfold scanV
   split
   ·simp
   ·split
    ·simp
    ·have:=scan_notes s.length 0 s [] [];simp at this;omega
  cases hv:valueV s.length (2*(scanV s).toks.length+1) ⟨(scanV s).toks,[],[]⟩ spanZ 0 with
  | error e=>rw [hv] at h;cases h
  | ok p=>
   obtain⟨v,st⟩:=p
   rw [hv] at h
   simp only at h
   split at h
   ·injection h with h;subst h;exact hn
   ·cases h
theorem node_cells {ncs:List Value} {k:Nat} {a b c d e:Value} (h:(ncs.drop (k*5)).take 5 = [a,b,c,d,e]):ncs[k*5]? = some a∧ncs[k*5+1]? = some b∧ncs[k*5+2]? = some c∧ncs[k*5+3]? = some d∧ncs[k*5+4]? = some e:=by
 have g:∀j,j<5→ncs[k*5+j]? = [a,b,c,d,e][j]?:=fun j hj=>by rw [←h,List.getElem?_take_of_lt hj,List.getElem?_drop]
 exact⟨g 0 (by omega),g 1 (by omega),g 2 (by omega),g 3 (by omega),g 4 (by omega)⟩
end Go.Proofs.YtijoollonkibfaaGreatDoor
namespace Go.Proofs.YtijoollonkibfaaGreatDoor
open Go.RowKit
def src1:List Nat:=[91,49,44,32,50,46,53,48,44,32,45,48,93]
def src2:List Nat:=[123,34,97,34,58,49,44,34,97,34,58,50,125]
def good1 (o:Except PErr JDoc):Bool:=match o with
 | .ok D=>decide (D.spans.length=4) && (match D.spans[2]? with | some s=>decide (s.from_=4) && decide (s.to_=8) | none=>false) && (match D.nodes[2]? with | some n=>decide (n.text = [50,53,101,45,49]) | none=>false)
 | .error _=>false
def good2 (o:Except PErr JDoc):Bool:=match o with
 | .ok _=>false
 | .error e=>decide (e=(7,8))
theorem src1_good:good1 (parseJ src1)=true:=by decide +kernel
theorem src2_good:good2 (parseJ src2)=true:=by decide +kernel
end Go.Proofs.YtijoollonkibfaaGreatDoor
