/- Laws for slices of structs that a call owns: append of one struct; two rows of different kinds lie apart. -/
import Derived.Test.YtijoollonkibfaaGreatDoorMB
import Derived.Deep.MidRow
import Derived.Test.YtijoollonkibfaaGreatDoorMF
import Derived.Recover
namespace Go.Proofs.YtijoollonkibfaaGreatDoor
open Go.RowKit
theorem cells_new (w:World) (t:TypeId) (us:List Value):∀j u,us[j]? = some u→(w.alloc (.cells us.toArray t)).cell? ((⟨w.heap.size,0,none⟩:Addr).add j)=some u:=by
 intro j u h
 obtain⟨ad,e,hc⟩:=(Arr.new w t us).rd j u h
 obtain rfl:=Option.some.inj e
 exact hc
section
variable {P:Program} {w:World} {ops:Array Oper} {rest:List Oper} {o:Oper} {a:Act} {Q:Exit→Act→World→Prop}
theorem wpList_apS (hg:o.guard=none) (s x:Operand) (t:TypeId) (ho:o.op=.call { callee:=.builtin .append,args:=#[s,x],argTypes:=#[t,t] }) (base:Nat) (e:TypeId) (z:Value) (k bytes:Nat)
  (ht:P.underlying t=some (.slice e)) (h2:(P.info? e).map (fun i=>(i.zero,i.size,i.bytes))=some (some z,k,bytes)) (hz:z.cells.size=k) (hk:0<k)
  (v:Value) (n:Nat) (xs:List Value) (hs:a.eval s=v) (hown:w.ownsRow base e k v n xs) (ad:Addr) (c:Nat) (us:List Value) (hus:us.length=k) (hx:a.eval x=.slice (some ad) 1 c)
  (hc:∀j u,us[j]? = some u→w.cell? (ad.add j)=some u) (h1:us.all (·.oneCell')=true) (hm:n+1≤maxLen) (hb:(n+1)*bytes≤140737488355328) (hbase:base≤w.heap.size)
  (hK:∀v' w',w'.ownsRow base e k v' (n+1) (xs ++ us)→w.grownBy w' v.ownBlock→(v'.ownBlock=v.ownBlock∨v'.ownBlock=some w.heap.size)→wpList P ops Q rest (a.put o.dst v') w'):wpList P ops Q (o :: rest) a w:=by
 obtain⟨i,hi,hz1,hz2,hz3⟩:=info_parts h2
 exact wpList_append_own_at w hg s x t ho base e i z k bytes ht hi hz1 hz2 hz3 hz hk v n xs hs hown ad 1 c us hx (by omega) hc (fun u hu=>(List.all_eq_true.1 h1) u hu) hm hb hbase (fun v' w' h3 h4 _ h5=>hK v' w' h3 h4 h5)
end
section
variable {P:Program} {w:World} {ops:Array Oper} {o:Oper} {a:Act} {K:Act→World→Prop} {Q:Exit→Act→World→Prop} {E:Prop}
theorem step_apS (hg:o.guard=none) (s x:Operand) (t:TypeId) (ho:o.op=.call { callee:=.builtin .append,args:=#[s,x],argTypes:=#[t,t] }) (base:Nat) (e:TypeId) (z:Value) (k bytes:Nat)
  (ht:P.underlying t=some (.slice e)) (h2:(P.info? e).map (fun i=>(i.zero,i.size,i.bytes))=some (some z,k,bytes)) (hz:z.cells.size=k) (hk:0<k)
  (v:Value) (n:Nat) (xs:List Value) (hs:a.eval s=v) (hown:w.ownsRow base e k v n xs) (ad:Addr) (c:Nat) (us:List Value) (hus:us.length=k) (hx:a.eval x=.slice (some ad) 1 c)
  (hc:∀j u,us[j]? = some u→w.cell? (ad.add j)=some u) (h1:us.all (·.oneCell')=true) (hm:n+1≤maxLen) (hb:(n+1)*bytes≤140737488355328) (hbase:base≤w.heap.size)
  (hK:∀v' w',w'.ownsRow base e k v' (n+1) (xs ++ us)→w.grownBy w' v.ownBlock→(v'.ownBlock=v.ownBlock∨v'.ownBlock=some w.heap.size)→K (a.put o.dst v') w') :
  if Region.wanted o (yielded ops a.tmps)=true then Oper.wp P o a w K Q else E:=by
 have hw:Region.wanted o (yielded ops a.tmps)=true:=by simp [Region.wanted,hg]
 rw [if_pos hw]
 obtain⟨i,hi,hz1,hz2,hz3⟩:=info_parts h2
 obtain⟨v',w',hr,h3,h4,_,h5⟩:=run_append_own_at (P:=P) w base t o.type e i z k bytes ht hi hz1 hz2 hz3 hz hk v n xs hown ad 1 c us (by omega) hc (fun u hu=>(List.all_eq_true.1 h1) u hu) hm hb hbase
 unfold Oper.wp execOp
 simp only [ho,resolve,invoke,builtin,Sem.run_bind,Sem.run_pure,Result.andThen_ok,List.map_toArray,List.map_cons,List.map_nil,hs,hx,hr]
 exact hK _ _ h3 h4 h5
end
theorem quiet_left {P:Program} {f:FuncId} {args:Array Value} {w:World} {n:Nat} {v:Value}
  (h:Calls P f args (w.drewN n) fun e w'=>e=.returned v∧w.drewN n=w'):Calls P f args (w.drewN n) fun e w'=>e=.returned v∧∃m,w'=w.drewN m:=
 h.mono fun _ _ ⟨he,hm⟩=>⟨he,n,hm.symm⟩
theorem results_tmp4 {fn:Func} {t u v x:Tmp} (h:fn.results=#[.tmp t,.tmp u,.tmp v,.tmp x]) (tmps:Array Value) (P:Program) (w:World) :
  (results fn tmps).run P w=.ok (.tuple #[tmps.getD t undef,tmps.getD u undef,tmps.getD v undef,tmps.getD x undef]) w:=by simp [results,h]
theorem own_ne {w:World} {b b':Nat} {e e':TypeId} {k k':Nat} {v v':Value} {n n':Nat} {xs xs':List Value} (h:w.ownsRow b e k v n xs) (h':w.ownsRow b' e' k' v' n' xs') (hne:e≠e') :
  v.ownBlock=none∨v.ownBlock≠v'.ownBlock:=by
 rcases h.2 with⟨rfl,_⟩ | ⟨g,cap,cur,rfl,_,hg,_⟩
 ·exact .inl rfl
 ·rcases h'.2 with⟨rfl,_⟩ | ⟨g',cap',cur',rfl,_,hg',_⟩
  ·exact .inr (by simp [Value.ownBlock])
  ·refine .inr ?_
   simp only [Value.ownBlock,ne_eq,Option.some.injEq]
   rintro rfl
   rw [hg] at hg'
   injection hg' with h1
   injection h1 with _ h2
   exact hne h2
theorem own_kind {w:World} {b:Nat} {e:TypeId} {k:Nat} {v:Value} {n:Nat} {xs:List Value} (h:w.ownsRow b e k v n xs) {g:Nat} (hg:v.ownBlock=some g):∃C fz,w.heap[g]? = some (.cells C e fz):=by
 rcases h.2 with⟨rfl,_⟩ | ⟨g',cap,cur,rfl,_,hgg,_⟩
 ·simp [Value.ownBlock] at hg
 ·simp only [Value.ownBlock,Option.some.injEq] at hg
  subst hg
  exact⟨cur,_,hgg⟩
theorem cells_kind {w:World} {g:Nat} {C C':Array Value} {t t':TypeId} {fz fz':Nat×Nat} (h:w.heap[g]? = some (.cells C t fz)) (h':w.heap[g]? = some (.cells C' t' fz')):t=t':=by
 rw [h] at h'
 injection h' with e1
 injection e1
theorem own_slice {w:World} {b:Nat} {e:TypeId} {k:Nat} {v:Value} {n:Nat} {xs:List Value} (h:w.ownsRow b e k v n xs):∃A c,v=.slice A n c∧n≤c∧c≤maxLen:=by
 rcases h.2 with⟨rfl,rfl⟩ | ⟨g,cap,cur,rfl,_,_,h1,h2,_⟩
 ·exact⟨none,0,rfl,Nat.le_refl _,by decide⟩
 ·exact⟨_,cap,rfl,h1,h2⟩
theorem own_same {w w':World} {b:Nat} {e:TypeId} {k:Nat} {v:Value} {n:Nat} {xs:List Value} (h:w.ownsRow b e k v n xs) (hs:∀g,v.ownBlock=some g→w'.heap[g]? = w.heap[g]?):w'.ownsRow b e k v n xs:=by
 refine⟨h.1,?_⟩
 rcases h.2 with hn | ⟨g,cap,cur,rfl,hb,hg,rest⟩
 ·exact .inl hn
 ·exact .inr ⟨g,cap,cur,rfl,hb,by rw [hs g rfl];exact hg,rest⟩
theorem own_below {w w':World} {b:Nat} {e:TypeId} {k:Nat} {v:Value} {n:Nat} {xs:List Value} (h:w.ownsRow b e k v n xs) (hb:Below w.heap.size w w'):w'.ownsRow b e k v n xs:=by
 refine h.kept (row:=none) ⟨hb.os,hb.tape,hb.output,hb.size,fun k hk _=>hb.block k hk⟩ ?_
 cases v.ownBlock with
 | none=>exact .inl rfl
 | some g=>exact .inr (by simp)
theorem own_arr {w:World} {b:Nat} {e:TypeId} {k:Nat} {v:Value} {n:Nat} {xs:List Value} {g:Nat} {t:TypeId} {us:List Value} (h:w.ownsRow b e k v n xs) (ha:Arr w g t us) (hne:e≠t):v.ownBlock≠some g:=by
 intro hg
 rcases h.2 with⟨rfl,_⟩ | ⟨g',cap,cur,rfl,_,hgg,_⟩
 ·simp [Value.ownBlock] at hg
 ·simp only [Value.ownBlock,Option.some.injEq] at hg
  subst hg
  unfold Arr at ha
  rw [hgg] at ha
  injection ha with h1
  injection h1 with _ h2
  exact hne h2
theorem own_far {w:World} {b:Nat} {e:TypeId} {k:Nat} {v:Value} {n:Nat} {xs:List Value} (h:w.ownsRow b e k v n xs) {p:Addr} (hp:v.ownBlock≠some p.block) (u:Value):(w.setCell p u).ownsRow b e k v n xs:=by
 refine h.kept (row:=some p.block) ⟨rfl,rfl,rfl,by simp [World.setCell],fun k _ hk=>Below.heap_setCell w p u k (by rintro rfl;exact hk rfl)⟩ (.inr hp)
end Go.Proofs.YtijoollonkibfaaGreatDoor
namespace Go.Proofs.YtijoollonkibfaaGreatDoor
open Go.RowKit
structure GNode where
 kind:Int
 text:List Nat
 ord:Bool
 keys:List Int
 items:List Int
end Go.Proofs.YtijoollonkibfaaGreatDoor
namespace Go.Proofs.YtijoollonkibfaaGreatDoor
open Go.RowKit
theorem decL_le (l:List Nat) (hne:l≠[]):(decL l).2≤l.length:=by
 have:=Lib.decodeL_le (u8s l) (by intro h;exact hne (List.map_eq_nil_iff.1 h))
 rwa [show(u8s l).length=l.length by unfold u8s;rw [List.length_map]] at this
theorem quotG_bd (f:Nat) (l:List Nat) (p nx:Nat) (acc:List Nat):(quotG f l p nx acc).2.1≤p+l.length∧((quotG f l p nx acc).2.2=0→p<(quotG f l p nx acc).2.1)∧(quotG f l p nx acc).2.2≤12:=by
 induction f generalizing l p nx acc with
 | zero=>simp [quotG]
 | succ f ih=>
  by_cases hne:l = []
  ·subst hne;rw [quotG_end];simp
  ·have hk:=decL_le l hne
   have hp0:0<l.length:=List.length_pos_iff.2 hne
   have hx:=escV_len l
   have step:∀nx' acc',(quotG f (l.drop (decL l).2) (p+(decL l).2) nx' acc').2.1≤p+l.length∧((quotG f (l.drop (decL l).2) (p+(decL l).2) nx' acc').2.2=0→p<(quotG f (l.drop (decL l).2) (p+(decL l).2) nx' acc').2.1)∧(quotG f (l.drop (decL l).2) (p+(decL l).2) nx' acc').2.2≤12:=by
    intro nx' acc'
    have h:=ih (l.drop (decL l).2) (p+(decL l).2) nx' acc'
    rw [List.length_drop] at h
    exact⟨by omega,fun h0=>by have:=h.2.1 h0;omega,h.2.2⟩
   by_cases hp:p<nx
   ·rw [quotG_skip hne hp];exact step _ _
   ·by_cases h34:(decL l).1=34
    ·rw [quotG_quote hne hp h34];simp only;omega
    ·by_cases h32:(decL l).1<32
     ·rw [quotG_low hne hp h34 h32];simp only;omega
     ·by_cases h92:(decL l).1=92
      ·by_cases he:(escV l).2.2=0
       ·rw [quotG_esc hne hp h92 he];exact step _ _
       ·rw [quotG_bad hne hp h92 he];simp only;omega
      ·rw [quotG_rune hne hp h34 h32 h92];exact step _ _
theorem quotV_bd (l:List Nat):(quotV l).2.1≤l.length∧((quotV l).2.2=0→1≤(quotV l).2.1)∧(quotV l).2.2≤12:=by
 have h:=quotG_bd l.length l 0 1 []
 unfold quotV
 omega
theorem seqV_bd (l:List Nat):(seqV l).1.to_≤l.length∧((seqV l).2≠0→(seqV l).1.to_=0)∧((seqV l).2=0→(seqV l).1.to_=seqN l)∧(seqV l).2≤12:=by
 have:=seqN_le l
 unfold seqV
 split
 ·split
  ·simp [noTok]
  ·exact⟨this,fun h=>absurd rfl h,fun _=>rfl,by simp⟩
 ·split
  ·exact⟨this,fun h=>absurd rfl h,fun _=>rfl,by simp⟩
  ·simp [noTok]
theorem seqN_pos {l:List Nat} (h:(letB (l.getD 0 0) || numB (l.getD 0 0))=true) (hne:l≠[]):1≤seqN l:=by
 cases l with
 | nil=>exact absurd rfl hne
 | cons c t=>
  unfold seqN
  have:(letB c || numB c)=true:=h
  rw [if_pos this];omega
theorem tokV_bd (l:List Nat) (hne:l≠[]):(tokV l).1.to_≤l.length∧((tokV l).2=0→1≤(tokV l).1.to_)∧(tokV l).2≤12:=by
 have hp0:0<l.length:=List.length_pos_iff.2 hne
 have hq:=quotV_bd l
 have hs:=seqV_bd l
 unfold tokV
 split
 ·simp only;omega
 ·split
  ·simp only;exact hq
  ·split
   ·rename_i hln
    have:=seqN_pos hln hne
    exact⟨hs.1,fun h=>by rw [hs.2.2.1 h];exact this,hs.2.2.2⟩
   ·simp [noTok]
def noteC (t:JNote):List Value:=[.int .i64 (t.from_:Int),.int .i64 (t.to_:Int),.string (mks t.text)]
def toksC (ts:List JTok):List Value:=ts.flatMap tokC
def notesC (ns:List JNote):List Value:=ns.flatMap noteC
theorem toksC_snoc (ts:List JTok) (t:JTok):toksC (ts ++ [t])=toksC ts ++ tokC t:=by simp [toksC]
theorem notesC_snoc (ns:List JNote) (n:JNote):notesC (ns ++ [n])=notesC ns ++ noteC n:=by simp [notesC]
end Go.Proofs.YtijoollonkibfaaGreatDoor
namespace Go.Proofs.YtijoollonkibfaaGreatDoor
open Go.RowKit
theorem Tryz.infoS67:(Tryz.prog.info? 67).map (fun i=>(i.zero,i.size,i.bytes))=some (some (.agg zTok.toArray),4,40):=by kernel_rfl
theorem Tryz.infoS65:(Tryz.prog.info? 65).map (fun i=>(i.zero,i.size,i.bytes))=some (some (.agg #[.int .i64 0,.int .i64 0,.string ⟨#[]⟩]),3,32):=by kernel_rfl
theorem token_h (s:List Nat) (c:Nat) (hs:By s) (hl:s.length<4294967281) (hc:s[0]? = some c):Hid (∀w,LibOK w→Calls Tryz.prog 25 #[.string (mks s)] w (TokR w (tokV s))):=fun w hw=>token_any s c hs hl hc w hw
theorem comment_h (s:List Nat) (hs:By s) (hl:s.length<4294967281):Hid (∀w,LibOK w→Calls Tryz.prog 24 #[.string (mks s)] w fun e w'=>e=.returned (.int .i64 (commV s))∧w=w'):=fun w hw=>comment_any s hs hl w hw
theorem check_h (l:List Nat) (hlen:l.length<4294967296):Hid (∀w,LibOK w→Calls Tryz.prog 22 #[.string (mks l)] w (CheckR w (checkV l))):=fun w hw=>check_any l hlen w hw
def ScanR (w:World) (x:Scanned) (e:Ending) (w':World):Prop:=∃vo vn,e=.returned (.tuple #[vo,vn,.int .i64 (x.at_:Int),.int .i64 (x.err:Int)]) ∧
 w'.ownsRow w.heap.size 67 4 vo x.toks.length (toksC x.toks)∧w'.ownsRow w.heap.size 65 3 vn x.notes.length (notesC x.notes)∧Below w.heap.size w w'
section
variable {f k:Nat} {l:List Nat} {ts:List JTok} {ns:List JNote} {v:Scanned}
theorem scan_cases {c:Nat} (hc:l[0]? = some c) (h:scanG (f+1) k l ts ns=v) :
  (isBlank c=true∧scanG f (k+1) (l.drop 1) ts ns=v) ∨
  (isBlank c=false∧commV l<0∧v=⟨[],[],k,4⟩) ∨
  (isBlank c=false∧0<commV l∧scanG f (k+(commV l).toNat) (l.drop (commV l).toNat) ts (ns ++ [⟨k,k+(commV l).toNat,l.take (commV l).toNat⟩])=v) ∨
  (isBlank c=false∧commV l=0∧(tokV l).2=0∧scanG f (k+(tokV l).1.to_) (l.drop (tokV l).1.to_) (ts ++ [⟨(tokV l).1.kind,k,k+(tokV l).1.to_,(tokV l).1.text⟩]) ns=v) ∨
  (isBlank c=false∧commV l=0∧(tokV l).2≠0∧v=⟨[],[],k+(tokV l).1.to_,(tokV l).2⟩):=by
 have hne:l≠[]:=by rintro rfl;simp at hc
 have hd:l.getD 0 0=c:=by simp [List.getD,hc]
 rw [scanG,if_neg hne,hd] at h
 cases hb:isBlank c with
 | true=>rw [hb] at h;exact .inl ⟨rfl,h⟩
 | false=>
  rw [hb,if_neg (by simp)] at h
  by_cases h1:commV l<0
  ·rw [if_pos h1] at h;exact .inr (.inl ⟨rfl,h1,h.symm⟩)
  ·rw [if_neg h1] at h
   by_cases h2:0<commV l
   ·rw [if_pos h2] at h;exact .inr (.inr (.inl ⟨rfl,h2,h⟩))
   ·rw [if_neg h2] at h
    by_cases h3:(tokV l).2=0
    ·rw [if_pos h3] at h;exact .inr (.inr (.inr (.inl ⟨rfl,by omega,h3,h⟩)))
    ·rw [if_neg h3] at h;exact .inr (.inr (.inr (.inr ⟨rfl,by omega,h3,h.symm⟩)))
theorem scan_end:scanG f k [] ts ns=⟨ts,ns,0,0⟩:=by cases f <;> simp [scanG]
end
set_option maxRecDepth 20000 in
set_option maxHeartbeats 8000000 in
theorem scan_body (s:List Nat) (hs:By s) (hlen:s.length≤65536) (hck:checkV s=none) (w:World) (hw:LibOK w):Calls Tryz.prog 8 #[.string (mks s)] w (ScanR w (scanV s)):=by
 have hv:scanV s=scanG s.length 0 s [] []:=by unfold scanV;rw [if_neg (by omega),hck]
 rw [hv]
 generalize hx:scanG s.length 0 s [] []=v
 have HV:Hid (scanG s.length 0 (s.drop 0) [] []=v):=hx
 have HW:=Lib.hid hw
 have DC0:=check_h s (by omega)
 rw [hck] at DC0
 have DC:Hid (∀w,LibOK w→Calls Tryz.prog 22 #[.string (mks s)] w fun e w'=>e=.returned (.tuple #[.int .i64 (-1),.int .i64 0])∧Below w.heap.size w w'):=DC0
 clear DC0
 have hlen':(s.length:Int)≤65536:=by omega
 clear hx hv hck
 go_enter Tryz.func8,Tryz.ntmps8
 go_upto_region 4 with(go_at_call 22;((with_reducible refine(DC.out _ hw).mono ?_));rintro e w5 ⟨rfl,hb5⟩)
 go_wp2
 go_loopw [8,9,10] (fun vo vn av wr=>∃(k fuel:Nat) (ts:List JTok) (ns:List JNote),k≤s.length∧av=.int .i64 (k:Int)∧wr.ownsRow w.heap.size 67 4 vo ts.length (toksC ts)∧wr.ownsRow w.heap.size 65 3 vn ns.length (notesC ns) ∧
  Below w.heap.size w wr∧Hid (scanG fuel k (s.drop k) ts ns=v)∧s.length≤k+fuel∧ts.length≤k∧ns.length≤k) (fun _ _ av _=>s.length - (intOf av).toNat)
 case atStart=>exact⟨0,s.length,[],[],by omega,rfl,World.ownsRow_nil _ _ _ _,World.ownsRow_nil _ _ _ _,hb5,HV,by omega,by simp,by simp⟩
 case round=>
  clear HV hb5
  obtain⟨k,fuel,ts,ns,hk,rfl,hto,hno,hbw,hq,hfu,htl,hnl⟩:=hrel
  have hok:=HW.out.keep hbw
  by_cases hlt:k<s.length
  ·obtain⟨f,rfl⟩:∃f,fuel=f+1:=⟨fuel - 1,by omega⟩
   obtain⟨c,hc⟩:∃c,s[k]? = some c:=⟨_,List.getElem?_eq_getElem hlt⟩
   have hcb:=hs.get hc
   have hg:((mks s)[k]'(by rw [size_mks];exact hlt)).toNat=c:=get_mks hc hcb _
   have hc0:(s.drop k)[0]? = some c:=by rw [List.getElem?_drop];exact hc
   have hne:s.drop k≠[]:=by intro h;rw [h] at hc0;simp at hc0
   have hcases:=scan_cases hc0 hq.out
   have hcb2:=commV_bd (s.drop k)
   have htb2:=tokV_bd (s.drop k) hne
   have DB:=ixBlank_h c hcb
   have DM:=comment_h (s.drop k) (hs.drop k) (by rw [List.length_drop];omega)
   have DT:=token_h (s.drop k) c (hs.drop k) (by rw [List.length_drop];omega) hc0
   have hbi:=blank_ix c
   rw [List.length_drop] at hcb2 htb2
   simp only [List.drop_drop] at hcases
   clear hq hc hc0 hne
   generalize commV (s.drop k)=cm at *
   generalize tokV (s.drop k)=tk at *
   generalize ixBV c [32,9,13,10]=bi at *
   have hkl:(k:Int)<s.length:=by omega
   have hkl2:(k:Int)≤s.length:=by omega
   rcases hcases with⟨hb,hq⟩ | ⟨hb,hc1,hq⟩ | ⟨hb,hc1,hq⟩ | ⟨hb,hc1,ht1,hq⟩ | ⟨hb,hc1,ht1,hq⟩
   ·have hbi':0≤bi:=by rcases hbi with h | ⟨h,_⟩;exact h.2;rw [hb] at h;cases h
    have HQ:=Lib.hid hq
    clear hq hb hbi
    go_wp2_with (go_at_call 23;((with_reducible refine(DB.out _).mono ?_));rintro e wn ⟨rfl,rfl⟩)
    go_roundw
    case rel=>exact⟨k+1,f,ts,ns,by omega,by go_num,hto,hno,hbw,HQ,by omega,by omega,by omega⟩
    case measure=>simp [intOf];omega
   all_goals
    have hbi':bi<0:=by
     rcases hbi with⟨h,_⟩ | h
     ·rw [hb] at h;cases h
     ·omega
    clear hb hbi
   ·subst hq
    go_wp2_with (first | (go_at_call 23;((with_reducible refine(DB.out _).mono ?_));rintro e wn ⟨rfl,rfl⟩) | (go_at_call 24;((with_reducible refine(DM.out _ hok).mono ?_));rintro e wn ⟨rfl,rfl⟩))
    refine bodyPost_ret (results_tmp4 rfl _ _ _) rfl ?_
    exact⟨_,_,rfl,World.ownsRow_nil _ _ _ _,World.ownsRow_nil _ _ _ _,hbw⟩
   ·have HQ:=Lib.hid hq
    clear hq
    have hsz:=hbw.size
    obtain⟨m,rfl⟩:∃m:Nat,cm=(m:Int):=⟨cm.toNat,by omega⟩
    rw [Int.toNat_natCast] at HQ
    have hm1:1≤m:=by omega
    have hkm:(k:Int)+(m:Int)≤s.length:=by omega
    have htk:(s.take (k+m)).drop k=(s.drop k).take m:=by rw [List.drop_take];congr 1;omega
    go_wp2_with (first | (go_at_call 23;((with_reducible refine(DB.out _).mono ?_));rintro e wn ⟨rfl,rfl⟩) | (go_at_call 24;((with_reducible refine(DM.out _ hok).mono ?_));rintro e wn ⟨rfl,rfl⟩) | (at_builtin;go_loud (refine wpList_apS rfl (.tmp 48) (.tmp 60) 27 rfl w.heap.size 65 _ 3 _ Tryz.underlying27 Tryz.infoS65 rfl (by decide) _ (ns.length) (notesC ns) rfl (hno.alloc _) ⟨wr.heap.size,0,none⟩ _ ([.int .i64 (k:Int),.int .i64 ((k:Int)+(m:Int)),.string (mks ((s.drop k).take m))]) rfl rfl (cells_new _ _ _) rfl (by unfold maxLen;omega) (by omega) (by simp;omega) ?_;intro v' w6 hno2 hgr hat)))
    have hto2:=(hto.alloc (.cells #[.int .i64 (k:Int),.int .i64 ((k:Int)+(m:Int)),.string (mks ((s.drop k).take m))] 65)).kept hgr (own_ne hto hno (by decide))
    have hb6:Below w.heap.size w w6:=Below.grown (hbw.alloc hsz _) hgr (by simp;omega) (fun k h=>(hno.lt k h).1)
    have hnw:notesC ns ++ [.int .i64 (k:Int),.int .i64 ((k:Int)+(m:Int)),.string (mks ((s.drop k).take m))]=notesC (ns ++ [⟨k,k+m,(s.drop k).take m⟩]):=by
     rw [notesC_snoc];simp [noteC]
    have hnl2:ns.length+1=(ns ++ [(⟨k,k+m,(s.drop k).take m⟩:JNote)]).length:=by simp
    rw [hnw,hnl2] at hno2
    go_roundw
    case rel=>exact⟨k+m,f,ts,ns ++ [⟨k,k+m,(s.drop k).take m⟩],by omega,by go_num,hto2,hno2,hb6,HQ,by omega,by omega,by simp;omega⟩
    case measure=>simp [intOf];omega
   ·have HQ:=Lib.hid hq
    clear hq
    have hsz:=hbw.size
    obtain⟨⟨kd,fr,tt,tx⟩,te⟩:=tk
    simp only at ht1 htb2 DT HQ
    have htt:=htb2.2.1 ht1
    subst ht1
    subst hc1
    have hkt:(k:Int)+(tt:Int)≤s.length:=by omega
    go_upto_region 21 with(first | (go_at_call 23;((with_reducible refine(DB.out _).mono ?_));rintro e wn ⟨rfl,rfl⟩) | (go_at_call 24;((with_reducible refine(DM.out _ hok).mono ?_));rintro e wn ⟨rfl,rfl⟩) | (go_at_call 25;((with_reducible refine(DT.out _ hok).mono ?_));rintro e w5 ⟨rfl,hb5⟩;have hz5:=hb5.size;have X0:=Lib.hid (Arr.new w5 67 zTok)) | ((with_reducible show wpList _ _ _ (Oper.mk none (Op.store 67 (Operand.tmp 12) (Operand.tmp 70)) _ _ _ _ :: _) _ _);go_loud (refine wpList_sr rfl rfl 67 (.tmp 12) (.tmp 70) rfl (w5.heap.size) [.int .i64 (kd:Int),.int .i64 (fr:Int),.int .i64 (tt:Int),.string (mks tx)] rfl rfl 67 _ X0.out _ Tryz.sz67 (by first | rfl | simp) (by first | rfl | simp) (by first | rfl | simp [Value.oneCell']) ?_;intro w6 hr6 hg6 hz6)))
    have hX0:Below w5.heap.size w5 (w5.alloc (.cells #[.int .i64 0,.int .i64 0,.int .i64 0,.string ⟨#[]⟩] 67)):=(Below.refl _ _).alloc (Nat.le_refl _) _
    have hb56:Below w5.heap.size w5 w6:=Below.grown hX0 hg6 (by simp) (fun k e=>by have:=Option.some.inj e;omega)
    have hlt6:w5.heap.size<w6.heap.size:=hr6.out.lt
    have c2:=hr6.out.cell' (i:=2) rfl
    have c1:=hr6.out.cell' (i:=1) rfl
    have f1:=hr6.out.frozen 1
    have hr7:=Lib.hid (hr6.out.store 1 (.int .i64 (k:Int)))
    have d2:=hr7.out.cell' (i:=2) rfl
    have e2:=hr7.out.frozen 2
    have hr8:=Lib.hid (hr7.out.store 2 (.int .i64 ((k:Int)+(tt:Int))))
    have hb58:Below w5.heap.size w5 ((w6.setCell ⟨w5.heap.size,1,none⟩ (.int .i64 (k:Int))).setCell ⟨w5.heap.size,2,none⟩ (.int .i64 ((k:Int)+(tt:Int)))):=(hb56.setCell (by simp) _).setCell (by simp) _
    have hlt8:w5.heap.size<((w6.setCell ⟨w5.heap.size,1,none⟩ (.int .i64 (k:Int))).setCell ⟨w5.heap.size,2,none⟩ (.int .i64 ((k:Int)+(tt:Int)))).heap.size:=hr8.out.lt
    have hto5:=own_below (own_below hto hb5) hb58
    have hno5:=own_below (own_below hno hb5) hb58
    have hltb:∀g,u8.ownBlock=some g→g<wr.heap.size:=fun g h=>(hto.lt g h).2
    clear hto hno X0 hX0 hg6 hz6 hb56
    go_upto_region 22 with(fail)
    clear c1 c2 f1 d2 e2 hr7
    have hB8:Below w.heap.size w ((w6.setCell ⟨w5.heap.size,1,none⟩ (.int .i64 (k:Int))).setCell ⟨w5.heap.size,2,none⟩ (.int .i64 ((k:Int)+(tt:Int)))):=(hbw.trans (hb5.mono hsz)).trans (hb58.mono (by omega))
    generalize ((w6.setCell ⟨w5.heap.size,1,none⟩ (.int .i64 (k:Int))).setCell ⟨w5.heap.size,2,none⟩ (.int .i64 ((k:Int)+(tt:Int))))=W8 at *
    go_upto_region 23 with(first | ((with_reducible show wpList _ _ _ (Oper.mk _ (Op.load 67 (Operand.tmp 12)) _ _ _ _ :: _) _ _);go_loud (refine wpList_lr rfl 67 (.tmp 12) rfl (w5.heap.size) [.int .i64 (kd:Int),.int .i64 (k:Int),.int .i64 ((k:Int)+(tt:Int)),.string (mks tx)] rfl 67 hr8.out _ Tryz.underlying67 (by simp) _ Tryz.sz67 (by first | rfl | simp) ?_)) | (at_builtin;go_loud (refine wpList_apS rfl (.tmp 86) (.tmp 88) 41 rfl w.heap.size 67 _ 4 _ Tryz.underlying41 Tryz.infoS67 rfl (by decide) _ (ts.length) (toksC ts) rfl (hto5.alloc _) ⟨W8.heap.size,0,none⟩ _ ([.int .i64 (kd:Int),.int .i64 (k:Int),.int .i64 ((k:Int)+(tt:Int)),.string (mks tx)]) rfl rfl (cells_new _ _ _) rfl (by unfold maxLen;omega) (by omega) (by simp;omega) ?_;intro v' w9 hto9 hgr hat)))
    have hno9:=(hno5.alloc (.cells #[.int .i64 (kd:Int),.int .i64 (k:Int),.int .i64 ((k:Int)+(tt:Int)),.string (mks tx)] 67)).kept hgr (own_ne hno5 hto5 (by decide))
    have hB9:Below w.heap.size w w9:=Below.grown (hB8.alloc (by omega) _) hgr (by simp;omega) (fun k h=>(hto5.lt k h).1)
    have hr9:=(hr8.out.alloc (.cells #[.int .i64 (kd:Int),.int .i64 (k:Int),.int .i64 ((k:Int)+(tt:Int)),.string (mks tx)] 67)).grown hgr (by intro e;have:=hltb _ e.symm;omega)
    have c9:=hr9.cell' (i:=2) rfl
    have htw:toksC ts ++ [.int .i64 (kd:Int),.int .i64 (k:Int),.int .i64 ((k:Int)+(tt:Int)),.string (mks tx)]=toksC (ts ++ [⟨kd,k,k+tt,tx⟩]):=by
     rw [toksC_snoc];simp [tokC]
    have htl2:ts.length+1=(ts ++ [(⟨kd,k,k+tt,tx⟩:JTok)]).length:=by simp
    rw [htw,htl2] at hto9
    clear hto5 hno5 hgr hr9 htw htl2 hB8 hr8 hat hltb
    go_wp2
    go_roundw
    case rel=>exact⟨k+tt,f,ts ++ [⟨kd,k,k+tt,tx⟩],ns,by omega,by go_num,hto9,hno9,hB9,HQ,by omega,by simp;omega,by omega⟩
    case measure=>simp [intOf];omega
   ·subst hq
    obtain⟨⟨kd,fr,tt,tx⟩,te⟩:=tk
    simp only at ht1 htb2 DT
    have hte:((te:Int) != 0)=true:=by simp;omega
    subst hc1
    have hsz:=hbw.size
    clear ht1
    go_upto_region 20 with(first | (go_at_call 23;((with_reducible refine(DB.out _).mono ?_));rintro e wn ⟨rfl,rfl⟩) | (go_at_call 24;((with_reducible refine(DM.out _ hok).mono ?_));rintro e wn ⟨rfl,rfl⟩) | (go_at_call 25;((with_reducible refine(DT.out _ hok).mono ?_));rintro e w5 ⟨rfl,hb5⟩;have hz5:=hb5.size;have X0:=Lib.hid (Arr.new w5 67 zTok)) | ((with_reducible show wpList _ _ _ (Oper.mk none (Op.store 67 (Operand.tmp 12) (Operand.tmp 70)) _ _ _ _ :: _) _ _);go_loud (refine wpList_sr rfl rfl 67 (.tmp 12) (.tmp 70) rfl (w5.heap.size) [.int .i64 (kd:Int),.int .i64 (fr:Int),.int .i64 (tt:Int),.string (mks tx)] rfl rfl 67 _ X0.out _ Tryz.sz67 (by first | rfl | simp) (by first | rfl | simp) (by first | rfl | simp [Value.oneCell']) ?_;intro w6 hr6 hg6 hz6)))
    have hX0:Below w5.heap.size w5 (w5.alloc (.cells #[.int .i64 0,.int .i64 0,.int .i64 0,.string ⟨#[]⟩] 67)):=(Below.refl _ _).alloc (Nat.le_refl _) _
    have hb56:Below w5.heap.size w5 w6:=Below.grown hX0 hg6 (by simp) (fun k e=>by have:=Option.some.inj e;omega)
    have c2:=hr6.out.cell' (i:=2) rfl
    go_quiet (fail)
    go_wp2
    refine bodyPost_ret (results_tmp4 rfl _ _ _) rfl ?_
    exact⟨_,_,rfl,World.ownsRow_nil _ _ _ _,World.ownsRow_nil _ _ _ _,Below.drewN' ((hbw.trans (hb5.mono hsz)).trans (hb56.mono (by omega))) _⟩
  ·obtain rfl:k=s.length:=by omega
   have hd:s.drop s.length = []:=List.drop_length
   rw [hd,scan_end] at hq
   have h:=hq.out
   subst h
   clear hq hd
   go_wp2
   refine bodyPost_ret (results_tmp4 rfl _ _ _) rfl ?_
   exact⟨_,_,rfl,hto,hno,hbw⟩
set_option maxRecDepth 20000 in
set_option maxHeartbeats 2000000 in
theorem scan_long (s:List Nat) (hlen:65536<s.length) (w:World):Calls Tryz.prog 8 #[.string (mks s)] w (ScanR w (scanV s)):=by
 have hv:scanV s=⟨[],[],0,6⟩:=by unfold scanV;rw [if_pos hlen]
 rw [hv]
 have hlen':(65536:Int)<s.length:=by omega
 go_enter Tryz.func8,Tryz.ntmps8
 go_wp2_with (fail)
 refine bodyPost_ret (results_tmp4 rfl _ _ _) rfl ?_
 exact⟨_,_,rfl,World.ownsRow_nil _ _ _ _,World.ownsRow_nil _ _ _ _,Below.refl _ _⟩
set_option maxRecDepth 20000 in
set_option maxHeartbeats 2000000 in
theorem scan_text (s:List Nat) (hlen:s.length≤65536) (k:Nat) (hck:checkV s=some k) (w:World) (hw:LibOK w):Calls Tryz.prog 8 #[.string (mks s)] w (ScanR w (scanV s)):=by
 have hv:scanV s=⟨[],[],k,11⟩:=by unfold scanV;rw [if_neg (by omega),hck]
 rw [hv]
 have DC0:=check_h s (by omega)
 rw [hck] at DC0
 have DC:Hid (∀w,LibOK w→Calls Tryz.prog 22 #[.string (mks s)] w fun e w'=>e=.returned (.tuple #[.int .i64 (k:Int),.int .i64 11])∧Below w.heap.size w w'):=DC0
 have hlen':(s.length:Int)≤65536:=by omega
 clear DC0 hv hck
 go_enter Tryz.func8,Tryz.ntmps8
 go_wp2_with (go_at_call 22;((with_reducible refine(DC.out _ hw).mono ?_));rintro e w5 ⟨rfl,hb5⟩)
 refine bodyPost_ret (results_tmp4 rfl _ _ _) rfl ?_
 exact⟨_,_,rfl,World.ownsRow_nil _ _ _ _,World.ownsRow_nil _ _ _ _,hb5⟩
theorem scan_any (s:List Nat) (hs:By s) (w:World) (hw:LibOK w):Calls Tryz.prog 8 #[.string (mks s)] w (ScanR w (scanV s)):=by
 by_cases hlen:65536<s.length
 ·exact scan_long s hlen w
 ·cases hck:checkV s with
  | none=>exact scan_body s hs (by omega) hck w hw
  | some k=>exact scan_text s (by omega) k hck w hw
end Go.Proofs.YtijoollonkibfaaGreatDoor
namespace Go.Proofs.YtijoollonkibfaaGreatDoor
open Go.RowKit
structure JSpan where
 node:Int
 parent:Int
 entry:Int
 from_:Int
 to_:Int
 kf:Int
 kt:Int
 alias_:Bool
 whole:Bool
structure PSt where
 left:List JTok
 nodes:List GNode
 spans:List JSpan
def spanC (s:JSpan):List Value:=[.int .i64 s.node,.int .i64 s.parent,.int .i64 s.entry,.int .i64 s.from_,.int .i64 s.to_,.int .i64 s.kf,.int .i64 s.kt,.bool s.alias_,.bool s.whole]
def spansC (l:List JSpan):List Value:=l.flatMap spanC
theorem spansC_snoc (l:List JSpan) (x:JSpan):spansC (l ++ [x])=spansC l ++ spanC x:=by simp [spansC]
def IntsRd (w:World) (F:Nat→Prop) (A:Option Addr) (n:Nat) (xs:List Int):Prop:=
 n=xs.length∧Rd w A (I64 xs)∧∀ad,A=some ad→F ad.block∧∃C fz,w.heap[ad.block]? = some (.cells C 3 fz)
def NodeRd (w:World) (F:Nat→Prop) (cs:List Value) (nd:GNode):Prop:=
 ∃K nk ck I ni ci,cs = [.int .i64 nd.kind,.string (mks nd.text),.bool nd.ord,.slice K nk ck,.slice I ni ci]∧IntsRd w F K nk nd.keys∧IntsRd w F I ni nd.items
def NodesRd (w:World) (F:Nat→Prop) (ncs:List Value) (nodes:List GNode):Prop:=
 ncs.length=nodes.length*5∧∀i nd,nodes[i]? = some nd→NodeRd w F ((ncs.drop (i*5)).take 5) nd
structure PK where
 en:Nat
 f:Value
 s:Value
 r:Value
 n:Value
structure PMx (w:World) (B pb:Nat) (F:Nat→Prop) (k:PK) (A:Option Addr) (n c:Nat) (vn vs:Value) (ncs:List Value) (st:PSt):Prop where
 par:Arr w pb 51 [.slice A n c,.int .i64 (k.en:Int),k.f,k.s,vn,k.r,vs,k.n]
 pF:F pb
 lo:∀g,F g→B≤g
 hi:∀g,F g→g<w.heap.size
 len:n=st.left.length
 nc:n≤c
 cm:c≤maxLen
 tok:Rd w A (toksC st.left)
 tokA:∀ad,A=some ad→(∃g o,ad=⟨g,o,none⟩)∧¬F ad.block∧∃C fz,w.heap[ad.block]? = some (.cells C 67 fz)
 nod:w.ownsRow B 40 5 vn st.nodes.length ncs
 nodF:∀g,vn.ownBlock=some g→F g
 nrd:NodesRd w F ncs st.nodes
 spn:w.ownsRow B 34 9 vs st.spans.length (spansC st.spans)
 spnF:∀g,vs.ownBlock=some g→F g
def PM (w:World) (B pb:Nat) (F:Nat→Prop) (k:PK) (st:PSt):Prop:=∃A n c vn vs ncs,PMx w B pb F k A n c vn vs ncs st
structure PStep (w w':World) (F F':Nat→Prop):Prop where
 os:w'.os=w.os
 tape:w'.tape=w.tape
 output:w'.output=w.output
 size:w.heap.size≤w'.heap.size
 keep:∀k,k<w.heap.size→¬F k→w'.heap[k]? = w.heap[k]?
 new:∀k,F' k→F k∨w.heap.size≤k
theorem PStep.trans {a b c:World} {F F1 F2:Nat→Prop} (h:PStep a b F F1) (k:PStep b c F1 F2):PStep a c F F2 where
 os:=k.os.trans h.os
 tape:=k.tape.trans h.tape
 output:=k.output.trans h.output
 size:=Nat.le_trans h.size k.size
 keep:=fun i hi hn=>(k.keep i (Nat.lt_of_lt_of_le hi h.size) (fun hf=>by
  rcases h.new i hf with h1 | h1
  ·exact hn h1
  ·omega)).trans (h.keep i hi hn)
 new:=fun i hi=>by
  rcases k.new i hi with h1 | h1
  ·exact h.new i h1
  ·exact .inr (Nat.le_trans h.size h1)
theorem PStep.of_below {w w':World} {F:Nat→Prop} (h:Below w.heap.size w w'):PStep w w' F F:=
 ⟨h.os,h.tape,h.output,h.size,fun k hk _=>h.block k hk,fun _ hk=>.inl hk⟩
theorem PStep.below {w w':World} {F F':Nat→Prop} {B:Nat} (h:PStep w w' F F') (hF:∀g,F g→B≤g) (hB:B≤w.heap.size):Below B w w':=
 ⟨h.os,h.tape,h.output,h.size,fun k hk=>h.keep k (by omega) (fun hf=>by have:=hF k hf;omega)⟩
theorem PStep.arr {w w':World} {F F':Nat→Prop} {g:Nat} {t:TypeId} {xs:List Value} (h:PStep w w' F F') (ha:Arr w g t xs) (hg:¬F g):Arr w' g t xs:=(h.keep g ha.lt hg).trans ha
theorem PStep.out {w w':World} {F F':Nat→Prop} {g:Nat} (h:PStep w w' F F') (hl:g<w.heap.size) (hg:¬F g):¬F' g:=fun hf=>by
 rcases h.new g hf with h1 | h1
 ·exact hg h1
 ·omega
def IntsKept (w w':World) (F:Nat→Prop):Prop:=∀k C fz,F k→w.heap[k]? = some (.cells C 3 fz)→w'.heap[k]? = some (.cells C 3 fz)
theorem IntsRd.keep {w w':World} {F F':Nat→Prop} {A:Option Addr} {n:Nat} {xs:List Int} (h:IntsRd w F A n xs) (hk:IntsKept w w' F) (hF:∀g,F g→F' g):IntsRd w' F' A n xs:=by
 refine⟨h.1,?_,fun ad e=>?_⟩
 ·intro j u hj
  obtain⟨ad,e,hc⟩:=h.2.1 j u hj
  obtain⟨hf,C,fz,hb⟩:=h.2.2 ad e
  refine⟨ad,e,?_⟩
  rw [←hc]
  exact World.cell?_of_block (by rw [blk_add,hk _ C fz hf hb,hb])
 ·obtain⟨hf,C,fz,hb⟩:=h.2.2 ad e
  exact⟨hF _ hf,C,fz,hk _ C fz hf hb⟩
theorem NodeRd.keep {w w':World} {F F':Nat→Prop} {cs:List Value} {nd:GNode} (h:NodeRd w F cs nd) (hk:IntsKept w w' F) (hF:∀g,F g→F' g):NodeRd w' F' cs nd:=by
 obtain⟨K,nk,ck,I,ni,ci,rfl,h1,h2⟩:=h
 exact⟨K,nk,ck,I,ni,ci,rfl,h1.keep hk hF,h2.keep hk hF⟩
theorem NodesRd.keep {w w':World} {F F':Nat→Prop} {ncs:List Value} {nodes:List GNode} (h:NodesRd w F ncs nodes) (hk:IntsKept w w' F) (hF:∀g,F g→F' g):NodesRd w' F' ncs nodes:=
 ⟨h.1,fun i nd hi=>(h.2 i nd hi).keep hk hF⟩
theorem NodesRd.snoc {w:World} {F:Nat→Prop} {ncs cs:List Value} {nodes:List GNode} {nd:GNode} (h:NodesRd w F ncs nodes) (hn:NodeRd w F cs nd):NodesRd w F (ncs ++ cs) (nodes ++ [nd]):=by
 have hl:cs.length=5:=by obtain⟨K,nk,ck,I,ni,ci,rfl,_⟩:=hn;rfl
 refine⟨by rw [List.length_append,List.length_append,h.1,hl];simp;omega,fun i x hi=>?_⟩
 by_cases hlt:i<nodes.length
 ·rw [List.getElem?_append_left hlt] at hi
  have h1:=h.2 i x hi
  rw [List.drop_append_of_le_length (by rw [h.1];omega),List.take_append_of_le_length (by rw [List.length_drop,h.1];omega)]
  exact h1
 ·have hi2:=(List.getElem?_eq_some_iff.1 hi).1
  have:i=nodes.length:=by simp at hi2;omega
  subst this
  have e:x=nd:=by simpa using hi.symm
  subst e
  rw [←h.1,List.drop_left,List.take_of_length_le (by omega)]
  exact hn
theorem IntsKept.of_below {w w':World} {F:Nat→Prop} (h:Below w.heap.size w w'):IntsKept w w' F:=fun k C fz _ hb=>by
 rw [h.block k (Array.getElem?_eq_some_iff.1 hb).1,hb]
theorem PMx.kept {w w':World} {B pb:Nat} {F:Nat→Prop} {k:PK} {A:Option Addr} {n c:Nat} {vn vs:Value} {ncs:List Value} {st:PSt} (h:PMx w B pb F k A n c vn vs ncs st) (hs:w.heap.size≤w'.heap.size)
  (hk:∀g,g<w.heap.size→F g→w'.heap[g]? = w.heap[g]?) (hA:∀ad,A=some ad→w'.heap[ad.block]? = w.heap[ad.block]?):PMx w' B pb F k A n c vn vs ncs st where
 par:=(hk pb (h.hi pb h.pF) h.pF).trans h.par
 pF:=h.pF
 lo:=h.lo
 hi:=fun g hg=>Nat.lt_of_lt_of_le (h.hi g hg) hs
 len:=h.len
 nc:=h.nc
 cm:=h.cm
 tok:=fun j u hj=>by
  obtain⟨ad,e,hc⟩:=h.tok j u hj
  exact⟨ad,e,by rw [←hc];exact World.cell?_of_block (by rw [blk_add];exact hA ad e)⟩
 tokA:=fun ad e=>by
  obtain⟨h0,h1,C,fz,h2⟩:=h.tokA ad e
  exact⟨h0,h1,C,fz,by rw [hA ad e,h2]⟩
 nod:=own_same h.nod (fun g hg=>hk g (h.nod.lt g hg).2 (h.nodF g hg))
 nodF:=h.nodF
 nrd:=h.nrd.keep (fun g C fz hF hb=>by rw [hk g (h.hi g hF) hF,hb]) (fun _ h=>h)
 spn:=own_same h.spn (fun g hg=>hk g (h.spn.lt g hg).2 (h.spnF g hg))
 spnF:=h.spnF
theorem PMx.tokLt {w:World} {B pb:Nat} {F:Nat→Prop} {k:PK} {A:Option Addr} {n c:Nat} {vn vs:Value} {ncs:List Value} {st:PSt} (h:PMx w B pb F k A n c vn vs ncs st):∀ad,A=some ad→ad.block<w.heap.size:=fun ad e=>by
 obtain⟨_,_,C,fz,h2⟩:=h.tokA ad e
 exact(Array.getElem?_eq_some_iff.1 h2).1
theorem PMx.below {w w':World} {B pb:Nat} {F:Nat→Prop} {k:PK} {A:Option Addr} {n c:Nat} {vn vs:Value} {ncs:List Value} {st:PSt} (h:PMx w B pb F k A n c vn vs ncs st) (hb:Below w.heap.size w w'):PMx w' B pb F k A n c vn vs ncs st:=
 h.kept hb.size (fun g hg _=>hb.block g hg) (fun ad e=>hb.block _ (h.tokLt ad e))
theorem PMx.grown {w w':World} {B pb:Nat} {F:Nat→Prop} {k:PK} {A:Option Addr} {n c:Nat} {vn vs:Value} {ncs:List Value} {st:PSt} (h:PMx w B pb F k A n c vn vs ncs st) {g:Nat} (hg:w.grownBy w' (some g)) (hF:¬F g) (hA:∀ad,A=some ad→ad.block≠g):PMx w' B pb F k A n c vn vs ncs st:=
 h.kept hg.size (fun i hi hf=>hg.block i hi (by intro e;have:=Option.some.inj e;subst this;exact hF hf)) (fun ad e=>hg.block _ (h.tokLt ad e) (by intro e';exact hA ad e (Option.some.inj e')))
theorem setCell_heap_ne (w:World) (p:Addr) (u:Value) {g:Nat} (h:g≠p.block):(w.setCell p u).heap[g]? = w.heap[g]?:=Below.heap_setCell w p u g h
theorem PMx.put {w w':World} {B pb:Nat} {F:Nat→Prop} {k:PK} {A A':Option Addr} {n n' c c':Nat} {vn vs vn' vs':Value} {ncs ncs':List Value} {st st':PSt} (h:PMx w B pb F k A n c vn vs ncs st)
  (hs:w.heap.size=w'.heap.size) (hk:∀g,g≠pb→w'.heap[g]? = w.heap[g]?)
  (hp:Arr w' pb 51 [.slice A' n' c',.int .i64 (k.en:Int),k.f,k.s,vn',k.r,vs',k.n])
  (h1:n'=st'.left.length) (h2:n'≤c') (h3:c'≤maxLen) (h4:Rd w A' (toksC st'.left)) (h5:∀ad,A'=some ad→(∃g o,ad=⟨g,o,none⟩)∧¬F ad.block∧∃C fz,w.heap[ad.block]? = some (.cells C 67 fz))
  (h6:w.ownsRow B 40 5 vn' st'.nodes.length ncs') (h7:∀g,vn'.ownBlock=some g→F g) (h8:NodesRd w F ncs' st'.nodes) (h9:w.ownsRow B 34 9 vs' st'.spans.length (spansC st'.spans)) (h10:∀g,vs'.ownBlock=some g→F g) :
  PMx w' B pb F k A' n' c' vn' vs' ncs' st':=by
 have hpn:∀{C:Array Value} {t:TypeId} {fz:Nat×Nat},w.heap[pb]? = some (.cells C t fz)→t=51:=fun hh=>by
  have:=h.par
  unfold Arr at this
  rw [this] at hh
  injection hh with e1
  injection e1 with _ e2
  exact e2.symm
 have hne:∀{g:Nat} {C:Array Value} {t:TypeId} {fz:Nat×Nat},w.heap[g]? = some (.cells C t fz)→t≠51→g≠pb:=fun hh ht e=>by subst e;exact ht (hpn hh)
 exact {
  par:=hp
  pF:=h.pF
  lo:=h.lo
  hi:=fun g hg=>by rw [←hs];exact h.hi g hg
  len:=h1
  nc:=h2
  cm:=h3
  tok:=fun j u hj=>by
   obtain⟨ad,e,hc⟩:=h4 j u hj
   obtain⟨_,_,C,fz,hb⟩:=h5 ad e
   exact⟨ad,e,by rw [←hc];exact World.cell?_of_block (by rw [blk_add];exact hk _ (hne hb (by decide)))⟩
  tokA:=fun ad e=>by
   obtain⟨h0,h1,C,fz,hb⟩:=h5 ad e
   exact⟨h0,h1,C,fz,by rw [hk _ (hne hb (by decide)),hb]⟩
  nod:=own_same h6 (fun g hg=>hk g (by
   rcases h6.2 with⟨rfl,_⟩ | ⟨g',cap,cur,rfl,_,hgg,_⟩
   ·simp [Value.ownBlock] at hg
   ·simp only [Value.ownBlock,Option.some.injEq] at hg;subst hg;exact hne hgg (by decide)))
  nodF:=h7
  nrd:=h8.keep (fun g C fz _ hb=>by rw [hk g (hne hb (by decide)),hb]) (fun _ h=>h)
  spn:=own_same h9 (fun g hg=>hk g (by
   rcases h9.2 with⟨rfl,_⟩ | ⟨g',cap,cur,rfl,_,hgg,_⟩
   ·simp [Value.ownBlock] at hg
   ·simp only [Value.ownBlock,Option.some.injEq] at hg;subst hg;exact hne hgg (by decide)))
  spnF:=h10 }
theorem PMx.appendNode {W W1 w3:World} {B pb:Nat} {F:Nat→Prop} {k:PK} {A:Option Addr} {n c:Nat} {vn vs v':Value} {ncs cs:List Value} {st:PSt} {nd:GNode} (h:PMx W B pb F k A n c vn vs ncs st) (hb:Below W.heap.size W W1)
  (hg:W1.grownBy w3 vn.ownBlock) (hown:w3.ownsRow B 40 5 v' (st.nodes.length+1) (ncs ++ cs)) (hat:v'.ownBlock=vn.ownBlock∨v'.ownBlock=some W1.heap.size) (hnd:NodeRd W F cs nd) :
  ∃F':Nat→Prop,PMx (w3.setCell ⟨pb,4,none⟩ v') B pb F' k A n c v' vs (ncs ++ cs) { st with nodes:=st.nodes ++ [nd] }∧PStep W (w3.setCell ⟨pb,4,none⟩ v') F F'∧(∀g,F g→F' g):=by
 have hkeep:∀(g:Nat) (C:Array Value) (t:TypeId) (fz:Nat×Nat),W.heap[g]? = some (.cells C t fz)→t≠40→w3.heap[g]? = W.heap[g]?:=by
  intro g C t fz hgb h1
  have hlt:=(Array.getElem?_eq_some_iff.1 hgb).1
  refine(hg.block g (Nat.lt_of_lt_of_le hlt hb.size) ?_).trans (hb.block g hlt)
  intro e
  obtain⟨C',fz',h'⟩:=own_kind h.nod e.symm
  exact h1 (cells_kind hgb h')
 have hkeep2:∀(g:Nat) (C:Array Value) (t:TypeId) (fz:Nat×Nat),W.heap[g]? = some (.cells C t fz)→t≠40→t≠51→(w3.setCell ⟨pb,4,none⟩ v').heap[g]? = W.heap[g]?:=by
  intro g C t fz hgb h1 h2
  refine(setCell_heap_ne _ _ _ ?_).trans (hkeep g C t fz hgb h1)
  rintro rfl
  exact h2 (cells_kind hgb h.par)
 have hP3:Arr w3 pb 51 [.slice A n c,.int .i64 (k.en:Int),k.f,k.s,vn,k.r,vs,k.n]:=(hkeep pb _ _ _ h.par (by decide)).trans h.par
 have hsz:W.heap.size≤w3.heap.size:=Nat.le_trans hb.size hg.size
 have hss:(w3.setCell ⟨pb,4,none⟩ v').heap.size=w3.heap.size:=by simp [World.setCell]
 refine⟨fun g=>F g∨v'.ownBlock=some g,?_,?_,fun g hg=>.inl hg⟩
 ·exact {
   par:=hP3.store 4 v'
   pF:=.inl h.pF
   lo:=fun g hg=>hg.elim (h.lo g) (fun e=>(hown.lt g e).1)
   hi:=fun g hg=>by
    rw [hss]
    exact hg.elim (fun hf=>Nat.lt_of_lt_of_le (h.hi g hf) hsz) (fun e=>(hown.lt g e).2)
   len:=h.len
   nc:=h.nc
   cm:=h.cm
   tok:=fun j u hj=>by
    obtain⟨ad,e,hc⟩:=h.tok j u hj
    obtain⟨_,_,C,fz,hbk⟩:=h.tokA ad e
    exact⟨ad,e,by rw [←hc];exact World.cell?_of_block (by rw [blk_add];exact hkeep2 _ _ _ _ hbk (by decide) (by decide))⟩
   tokA:=fun ad e=>by
    obtain⟨h0,h1,C,fz,hbk⟩:=h.tokA ad e
    refine⟨h0,?_,C,fz,by rw [hkeep2 _ _ _ _ hbk (by decide) (by decide),hbk]⟩
    rintro(hf | hf)
    ·exact h1 hf
    ·rcases hat with he | he
     ·exact h1 (h.nodF _ (he▸hf))
     ·rw [he] at hf
      have:=Option.some.inj hf
      have:=(Array.getElem?_eq_some_iff.1 hbk).1
      have:=hb.size
      omega
   nod:=own_far (by rw [List.length_append,List.length_singleton];exact hown) (own_arr hown hP3 (by decide)) _
   nodF:=fun g e=>.inr e
   nrd:=(h.nrd.keep (fun g C fz _ hbk=>by rw [hkeep2 _ _ _ _ hbk (by decide) (by decide),hbk]) (fun g hf=>.inl hf)).snoc (hnd.keep (fun g C fz _ hbk=>by rw [hkeep2 _ _ _ _ hbk (by decide) (by decide),hbk]) (fun g hf=>.inl hf))
   spn:=own_same h.spn (fun g e=>by obtain⟨C,fz,hbk⟩:=own_kind h.spn e;exact hkeep2 _ _ _ _ hbk (by decide) (by decide))
   spnF:=fun g e=>.inl (h.spnF g e) }
 ·refine⟨hg.os.trans hb.os,hg.tape.trans hb.tape,hg.output.trans hb.output,by rw [hss];exact hsz,fun g hlt hF=>?_,fun g hF=>?_⟩
  ·refine(setCell_heap_ne _ _ _ (by rintro rfl;exact hF h.pF)).trans ((hg.block g (Nat.lt_of_lt_of_le hlt hb.size) (fun e=>hF (h.nodF g e.symm))).trans (hb.block g hlt))
  ·rcases hF with hf | hf
   ·exact .inl hf
   ·rcases hat with he | he
    ·exact .inl (h.nodF g (he▸hf))
    ·rw [he] at hf
     have:=Option.some.inj hf
     have:=hb.size
     exact .inr (by omega)
theorem PMx.appendSpan {W W1 w3:World} {B pb:Nat} {F:Nat→Prop} {k:PK} {A:Option Addr} {n c:Nat} {vn vs v':Value} {ncs cs:List Value} {st:PSt} {sp:JSpan} (h:PMx W B pb F k A n c vn vs ncs st) (hb:Below W.heap.size W W1)
  (hg:W1.grownBy w3 vs.ownBlock) (hown:w3.ownsRow B 34 9 v' (st.spans.length+1) ((spansC st.spans) ++ cs)) (hat:v'.ownBlock=vs.ownBlock∨v'.ownBlock=some W1.heap.size) (hcs:cs=spanC sp) :
  ∃F':Nat→Prop,PMx (w3.setCell ⟨pb,6,none⟩ v') B pb F' k A n c vn v' ncs { st with spans:=st.spans ++ [sp] }∧PStep W (w3.setCell ⟨pb,6,none⟩ v') F F'∧(∀g,F g→F' g):=by
 have hkeep:∀(g:Nat) (C:Array Value) (t:TypeId) (fz:Nat×Nat),W.heap[g]? = some (.cells C t fz)→t≠34→w3.heap[g]? = W.heap[g]?:=by
  intro g C t fz hgb h1
  have hlt:=(Array.getElem?_eq_some_iff.1 hgb).1
  refine(hg.block g (Nat.lt_of_lt_of_le hlt hb.size) ?_).trans (hb.block g hlt)
  intro e
  obtain⟨C',fz',h'⟩:=own_kind h.spn e.symm
  exact h1 (cells_kind hgb h')
 have hkeep2:∀(g:Nat) (C:Array Value) (t:TypeId) (fz:Nat×Nat),W.heap[g]? = some (.cells C t fz)→t≠34→t≠51→(w3.setCell ⟨pb,6,none⟩ v').heap[g]? = W.heap[g]?:=by
  intro g C t fz hgb h1 h2
  refine(setCell_heap_ne _ _ _ ?_).trans (hkeep g C t fz hgb h1)
  rintro rfl
  exact h2 (cells_kind hgb h.par)
 have hP3:Arr w3 pb 51 [.slice A n c,.int .i64 (k.en:Int),k.f,k.s,vn,k.r,vs,k.n]:=(hkeep pb _ _ _ h.par (by decide)).trans h.par
 have hsz:W.heap.size≤w3.heap.size:=Nat.le_trans hb.size hg.size
 have hss:(w3.setCell ⟨pb,6,none⟩ v').heap.size=w3.heap.size:=by simp [World.setCell]
 refine⟨fun g=>F g∨v'.ownBlock=some g,?_,?_,fun g hg=>.inl hg⟩
 ·exact {
   par:=hP3.store 6 v'
   pF:=.inl h.pF
   lo:=fun g hg=>hg.elim (h.lo g) (fun e=>(hown.lt g e).1)
   hi:=fun g hg=>by
    rw [hss]
    exact hg.elim (fun hf=>Nat.lt_of_lt_of_le (h.hi g hf) hsz) (fun e=>(hown.lt g e).2)
   len:=h.len
   nc:=h.nc
   cm:=h.cm
   tok:=fun j u hj=>by
    obtain⟨ad,e,hc⟩:=h.tok j u hj
    obtain⟨_,_,C,fz,hbk⟩:=h.tokA ad e
    exact⟨ad,e,by rw [←hc];exact World.cell?_of_block (by rw [blk_add];exact hkeep2 _ _ _ _ hbk (by decide) (by decide))⟩
   tokA:=fun ad e=>by
    obtain⟨h0,h1,C,fz,hbk⟩:=h.tokA ad e
    refine⟨h0,?_,C,fz,by rw [hkeep2 _ _ _ _ hbk (by decide) (by decide),hbk]⟩
    rintro(hf | hf)
    ·exact h1 hf
    ·rcases hat with he | he
     ·exact h1 (h.spnF _ (he▸hf))
     ·rw [he] at hf
      have:=Option.some.inj hf
      have:=(Array.getElem?_eq_some_iff.1 hbk).1
      have:=hb.size
      omega
   nod:=own_same h.nod (fun g e=>by obtain⟨C,fz,hbk⟩:=own_kind h.nod e;exact hkeep2 _ _ _ _ hbk (by decide) (by decide))
   nodF:=fun g e=>.inl (h.nodF g e)
   nrd:=h.nrd.keep (fun g C fz _ hbk=>by rw [hkeep2 _ _ _ _ hbk (by decide) (by decide),hbk]) (fun g hf=>.inl hf)
   spn:=own_far (by rw [List.length_append,List.length_singleton,spansC_snoc,←hcs];exact hown) (own_arr hown hP3 (by decide)) _
   spnF:=fun g e=>.inr e }
 ·refine⟨hg.os.trans hb.os,hg.tape.trans hb.tape,hg.output.trans hb.output,by rw [hss];exact hsz,fun g hlt hF=>?_,fun g hF=>?_⟩
  ·refine(setCell_heap_ne _ _ _ (by rintro rfl;exact hF h.pF)).trans ((hg.block g (Nat.lt_of_lt_of_le hlt hb.size) (fun e=>hF (h.spnF g e.symm))).trans (hb.block g hlt))
  ·rcases hF with hf | hf
   ·exact .inl hf
   ·rcases hat with he | he
    ·exact .inl (h.spnF g (he▸hf))
    ·rw [he] at hf
     have:=Option.some.inj hf
     have:=hb.size
     exact .inr (by omega)
end Go.Proofs.YtijoollonkibfaaGreatDoor
