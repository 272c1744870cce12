/- The walk of quoted of jsonlex. -/
import Derived.Test.YtgbkbgiogdhnaaaGreatDoorMAe
import Derived.Lib.RuneCountTail
import Derived.Test.YtgbkbgiogdhnaaaGreatDoorMAd
import Derived.Deep.MidRow
set_option linter.unusedVariables false
set_option linter.unusedSimpArgs false
set_option linter.defProp false
set_option linter.constructorNameAsVariable false
namespace Go.Proofs.YtgbkbgiogdhnaaaGreatDoor
open Go.RowKit
theorem decode_drop (l:List Nat) (pos:Nat):Utf8.decode (mks l) pos=decL (l.drop pos):=by
 have h1:=Lib.tail_decode (mks l) pos 0
 rw [Nat.add_zero] at h1
 rw [←h1,size_mks,extract_mks,List.take_length]
 rfl
theorem decL_bd (l:List Nat):(decL l).1≤1114111∧1≤(decL l).2:=by
 unfold decL Lib.decodeL
 exact⟨Lib.rune_le _ _,Lib.width_pos _ _⟩
section
variable {f:Nat} {l:List Nat} {p nx:Nat} {acc:List Nat}
end
end Go.Proofs.YtgbkbgiogdhnaaaGreatDoor
namespace Go.Proofs.YtgbkbgiogdhnaaaGreatDoor
open Go.RowKit
theorem decodeGo_mks (l:List Nat) (h:l≠[]):Lib.decodeGo (mks l)=decL l:=by
 unfold Lib.decodeGo
 rw [if_neg (by rw [size_mks];exact fun h'=>h (List.eq_nil_of_length_eq_zero h'))]
 have:=decode_drop l 0
 simpa using this
theorem decRune_h (l:List Nat) (h:l≠[]) {r k:Nat} (hd:decL l=(r,k)):Hid (∀w,LibOK w→Calls Tryz.prog 37 #[.string (mks l)] w fun e w'=>e=.returned (.tuple #[.int .i32 (r:Int),.int .i64 (k:Int)])∧Below w.heap.size w w'):=fun w hw=>by
 have:=Tryz.utf8_DecodeRuneInString (mks l) w hw.tabs
 rw [decodeGo_mks l h,hd] at this
 exact this
def ckAt (o:Option Nat):Int:=match o with | some k=>(k:Int) | none=>-1
def ckErr (o:Option Nat):Int:=match o with | some _=>11 | none=>0
def CheckR (w:World) (o:Option Nat) (e:Ending) (w':World):Prop:=e=.returned (.tuple #[.int .i64 (ckAt o),.int .i64 (ckErr o)])∧Below w.heap.size w w'
theorem check_cases {f:Nat} {l:List Nat} {p r k:Nat} {v:Option Nat} (hne:l≠[]) (hd:decL l=(r,k)) (h:checkG (f+1) p l=v) :
  (r=65533∧k=1∧v=some p)∨(r=65533∧k≠1∧checkG f (p+k) (l.drop k)=v)∨(r≠65533∧checkG f (p+k) (l.drop k)=v):=by
 rw [checkG,if_neg hne,hd] at h
 by_cases hr:r=65533
 ·by_cases hk:k=1
  ·subst hr;subst hk;simp at h;exact .inl ⟨rfl,rfl,h.symm⟩
  ·rw [if_neg (by intro e;exact hk (congrArg Prod.snd e))] at h;exact .inr (.inl ⟨hr,hk,h⟩)
 ·rw [if_neg (by intro e;exact hr (congrArg Prod.fst e))] at h;exact .inr (.inr ⟨hr,h⟩)
set_option maxRecDepth 8000 in
set_option maxHeartbeats 2000000 in
theorem check_any (l:List Nat) (hlen:l.length<4294967296) (w:World) (hw:LibOK w):Calls Tryz.prog 19 #[.string (mks l)] w (CheckR w (checkV l)):=by
 generalize hv:checkV l=v
 have HV:Hid (checkG l.length 0 (l.drop 0)=v):=hv
 have HW:=Lib.hid hw
 clear hv hw
 go_enter Tryz.func19,Tryz.ntmps19
 go_wp2
 go_loopw [] (fun wr=>∃pos fuel,wr.heap[w.heap.size]? = some (.stringIter (mks l) pos)∧Below w.heap.size w wr∧Hid (checkG fuel pos (l.drop pos)=v)∧l.length≤pos+fuel∧pos≤l.length) (fun wr=>l.length - wr.iterPos w.heap.size)
 case atStart=>
  refine⟨0,l.length,?_,(Below.refl _ w).alloc (Nat.le_refl _) _,HV,by omega,by omega⟩
  have:=World.iter_heap w (mks l) 0
  simpa using this
 case round=>
  obtain⟨pos,fuel,hit,hbw,hq,hfu,hpl⟩:=hrel
  have hsz:w.heap.size<wr.heap.size:=(Array.getElem?_eq_some_iff.1 hit).1
  by_cases hp:pos<l.length
  ·have hne:l.drop pos≠[]:=by intro h;have:=congrArg List.length h;simp at this;omega
   have hnx0:∀ty,(Instr.next (.pointer (some ⟨w.heap.size,0,none⟩)) true ty).run Tryz.prog wr=_:=fun ty=>Lib.run_next_any_at wr w.heap.size (mks l) pos ty hit (by rw [size_mks];exact hp)
   rw [decode_drop] at hnx0
   obtain⟨f,rfl⟩:∃f,fuel=f+1:=⟨fuel - 1,by omega⟩
   have hd:=decL_bd (l.drop pos)
   have hkl:(decL (l.drop pos)).2≤(l.drop pos).length:=by
    have:=Lib.decodeL_le (u8s (l.drop pos)) (by intro h;exact hne (List.map_eq_nil_iff.1 h))
    rw [show(u8s (l.drop pos)).length=(l.drop pos).length by unfold u8s;rw [List.length_map]] at this
    exact this
   rw [List.length_drop] at hkl
   obtain⟨⟨r,k⟩,hdd⟩:∃x,decL (l.drop pos)=x:=⟨_,rfl⟩
   have DD:=decRune_h (l.drop pos) hne hdd
   have hcases:=check_cases hne hdd hq.out
   rw [hdd] at hnx0 hd hkl
   rw [List.drop_drop] at hcases
   clear hq hdd hne
   simp only at hd hkl hcases hnx0
   have hit2:=Lib.iterAt_heap wr w.heap.size (mks l) pos (pos+k) hit
   have hbw2:=Lib.below_iterAt hbw (k:=w.heap.size) (by omega) (mks l) (pos+k)
   have hsz2:w.heap.size<(wr.iterAt w.heap.size (mks l) (pos+k)).heap.size:=by rw [Lib.iterAt_size];exact hsz
   have HIT2:=Lib.hid hit2
   clear hit2 hbw
   have hok:=HW.out.keep hbw2
   have hp':(pos:Int)≤l.length:=by omega
   rcases hcases with⟨rfl,rfl,hq⟩ | ⟨rfl,h1,hq⟩ | ⟨hr,hq⟩
   ·subst hq
    go_wp2_with (go_at_call 37;((with_reducible refine(DD.out _ hok).mono ?_));rintro e w5 ⟨rfl,hb5⟩)
    go_ret2
    exact⟨rfl,hbw2.trans (hb5.mono (by omega))⟩
   ·have h1':((k:Int) == 1)=false:=by simp;omega
    have HQ:=Lib.hid hq
    clear hq h1
    go_wp2_with (go_at_call 37;((with_reducible refine(DD.out _ hok).mono ?_));rintro e w5 ⟨rfl,hb5⟩)
    have hit5:=(hb5.block _ hsz2).trans HIT2.out
    go_roundw
    case rel=>exact⟨pos+k,f,hit5,hbw2.trans (hb5.mono (by omega)),HQ,by omega,by omega⟩
    case measure=>
     simp only [World.iterPos,hit5,hit]
     omega
   ·have hr':((r:Int) == 65533)=false:=by simp;omega
    have HQ:=Lib.hid hq
    clear hq hr
    go_wp2
    go_roundw
    case rel=>exact⟨pos+k,f,HIT2.out,hbw2,HQ,by omega,by omega⟩
    case measure=>
     simp only [World.iterPos,HIT2.out,hit]
     omega
  ·have hnx0:∀ty,(Instr.next (.pointer (some ⟨w.heap.size,0,none⟩)) true ty).run Tryz.prog wr=_:=fun ty=>Lib.run_next_end_at wr w.heap.size (mks l) pos ty hit (by rw [size_mks];exact hp)
   have hd:l.drop pos = []:=List.drop_eq_nil_of_le (by omega)
   have hce:checkG fuel pos []=none:=by cases fuel <;> simp [checkG]
   rw [hd,hce] at hq
   clear hd hce
   go_wp2
   go_ret2
   have h:=hq.out
   subst h
   exact⟨rfl,hbw⟩
end Go.Proofs.YtgbkbgiogdhnaaaGreatDoor
namespace Go.Proofs.YtgbkbgiogdhnaaaGreatDoor
open Go.RowKit
def tokC (t:JTok):List Value:=[.int .i64 (t.kind:Int),.int .i64 (t.from_:Int),.int .i64 (t.to_:Int),.string (mks t.text)]
theorem three (p q r:Prop):((p∨q∨r)∧(p∨(¬p∧q)∨(¬p∧¬q∧r)))∨(¬(p∨q∨r)∧(¬p∧¬q∧¬r)):=by
 by_cases hp:p <;> by_cases hq:q <;> by_cases hr:r <;> simp [hp,hq,hr]
end Go.Proofs.YtgbkbgiogdhnaaaGreatDoor
namespace Go.Proofs.YtgbkbgiogdhnaaaGreatDoor
open Go.RowKit
end Go.Proofs.YtgbkbgiogdhnaaaGreatDoor
namespace Go.Proofs.YtgbkbgiogdhnaaaGreatDoor
open Go.RowKit
theorem cells_new (w:World) (t:TypeId) (us:List Value):∀j u,us[j]? = some u→(w.alloc (.cells us.toArray t)).cell? ((⟨w.heap.size,0,none⟩:Addr).add j)=some u:=by
 intro j u h
 obtain⟨ad,e,hc⟩:=(Arr.new w t us).rd j u h
 obtain rfl:=Option.some.inj e
 exact hc
section
variable {P:Program} {w:World} {ops:Array Oper} {rest:List Oper} {o:Oper} {a:Act} {Q:Exit→Act→World→Prop}
theorem wpList_apS (hg:o.guard=none) (s x:Operand) (t:TypeId) (ho:o.op=.call { callee:=.builtin .append,args:=#[s,x],argTypes:=#[t,t] }) (base:Nat) (e:TypeId) (z:Value) (k bytes:Nat)
  (ht:P.underlying t=some (.slice e)) (h2:(P.info? e).map (fun i=>(i.zero,i.size,i.bytes))=some (some z,k,bytes)) (hz:z.cells.size=k) (hk:0<k)
  (v:Value) (n:Nat) (xs:List Value) (hs:a.eval s=v) (hown:w.ownsRow base e k v n xs) (ad:Addr) (c:Nat) (us:List Value) (hus:us.length=k) (hx:a.eval x=.slice (some ad) 1 c)
  (hc:∀j u,us[j]? = some u→w.cell? (ad.add j)=some u) (h1:us.all (·.oneCell')=true) (hm:n+1≤maxLen) (hb:(n+1)*bytes≤140737488355328) (hbase:base≤w.heap.size)
  (hK:∀v' w',w'.ownsRow base e k v' (n+1) (xs ++ us)→w.grownBy w' v.ownBlock→(v'.ownBlock=v.ownBlock∨v'.ownBlock=some w.heap.size)→wpList P ops Q rest (a.put o.dst v') w'):wpList P ops Q (o :: rest) a w:=by
 obtain⟨i,hi,hz1,hz2,hz3⟩:=info_parts h2
 exact wpList_append_own_at w hg s x t ho base e i z k bytes ht hi hz1 hz2 hz3 hz hk v n xs hs hown ad 1 c us hx (by omega) hc (fun u hu=>(List.all_eq_true.1 h1) u hu) hm hb hbase (fun v' w' h3 h4 _ h5=>hK v' w' h3 h4 h5)
end
section
variable {P:Program} {w:World} {ops:Array Oper} {o:Oper} {a:Act} {K:Act→World→Prop} {Q:Exit→Act→World→Prop} {E:Prop}
theorem step_apS (hg:o.guard=none) (s x:Operand) (t:TypeId) (ho:o.op=.call { callee:=.builtin .append,args:=#[s,x],argTypes:=#[t,t] }) (base:Nat) (e:TypeId) (z:Value) (k bytes:Nat)
  (ht:P.underlying t=some (.slice e)) (h2:(P.info? e).map (fun i=>(i.zero,i.size,i.bytes))=some (some z,k,bytes)) (hz:z.cells.size=k) (hk:0<k)
  (v:Value) (n:Nat) (xs:List Value) (hs:a.eval s=v) (hown:w.ownsRow base e k v n xs) (ad:Addr) (c:Nat) (us:List Value) (hus:us.length=k) (hx:a.eval x=.slice (some ad) 1 c)
  (hc:∀j u,us[j]? = some u→w.cell? (ad.add j)=some u) (h1:us.all (·.oneCell')=true) (hm:n+1≤maxLen) (hb:(n+1)*bytes≤140737488355328) (hbase:base≤w.heap.size)
  (hK:∀v' w',w'.ownsRow base e k v' (n+1) (xs ++ us)→w.grownBy w' v.ownBlock→(v'.ownBlock=v.ownBlock∨v'.ownBlock=some w.heap.size)→K (a.put o.dst v') w') :
  if Region.wanted o (yielded ops a.tmps)=true then Oper.wp P o a w K Q else E:=by
 have hw:Region.wanted o (yielded ops a.tmps)=true:=by simp [Region.wanted,hg]
 rw [if_pos hw]
 obtain⟨i,hi,hz1,hz2,hz3⟩:=info_parts h2
 obtain⟨v',w',hr,h3,h4,_,h5⟩:=run_append_own_at (P:=P) w base t o.type e i z k bytes ht hi hz1 hz2 hz3 hz hk v n xs hown ad 1 c us (by omega) hc (fun u hu=>(List.all_eq_true.1 h1) u hu) hm hb hbase
 unfold Oper.wp execOp
 simp only [ho,resolve,invoke,builtin,Sem.run_bind,Sem.run_pure,Result.andThen_ok,List.map_toArray,List.map_cons,List.map_nil,hs,hx,hr]
 exact hK _ _ h3 h4 h5
end
theorem own_kind {w:World} {b:Nat} {e:TypeId} {k:Nat} {v:Value} {n:Nat} {xs:List Value} (h:w.ownsRow b e k v n xs) {g:Nat} (hg:v.ownBlock=some g):∃C fz,w.heap[g]? = some (.cells C e fz):=by
 rcases h.2 with⟨rfl,_⟩ | ⟨g',cap,cur,rfl,_,hgg,_⟩
 ·simp [Value.ownBlock] at hg
 ·simp only [Value.ownBlock,Option.some.injEq] at hg
  subst hg
  exact⟨cur,_,hgg⟩
theorem cells_kind {w:World} {g:Nat} {C C':Array Value} {t t':TypeId} {fz fz':Nat×Nat} (h:w.heap[g]? = some (.cells C t fz)) (h':w.heap[g]? = some (.cells C' t' fz')):t=t':=by
 rw [h] at h'
 injection h' with e1
 injection e1
theorem own_slice {w:World} {b:Nat} {e:TypeId} {k:Nat} {v:Value} {n:Nat} {xs:List Value} (h:w.ownsRow b e k v n xs):∃A c,v=.slice A n c∧n≤c∧c≤maxLen:=by
 rcases h.2 with⟨rfl,rfl⟩ | ⟨g,cap,cur,rfl,_,_,h1,h2,_⟩
 ·exact⟨none,0,rfl,Nat.le_refl _,by decide⟩
 ·exact⟨_,cap,rfl,h1,h2⟩
theorem own_same {w w':World} {b:Nat} {e:TypeId} {k:Nat} {v:Value} {n:Nat} {xs:List Value} (h:w.ownsRow b e k v n xs) (hs:∀g,v.ownBlock=some g→w'.heap[g]? = w.heap[g]?):w'.ownsRow b e k v n xs:=by
 refine⟨h.1,?_⟩
 rcases h.2 with hn | ⟨g,cap,cur,rfl,hb,hg,rest⟩
 ·exact .inl hn
 ·exact .inr ⟨g,cap,cur,rfl,hb,by rw [hs g rfl];exact hg,rest⟩
theorem own_below {w w':World} {b:Nat} {e:TypeId} {k:Nat} {v:Value} {n:Nat} {xs:List Value} (h:w.ownsRow b e k v n xs) (hb:Below w.heap.size w w'):w'.ownsRow b e k v n xs:=by
 refine h.kept (row:=none) ⟨hb.os,hb.tape,hb.output,hb.size,fun k hk _=>hb.block k hk⟩ ?_
 cases v.ownBlock with
 | none=>exact .inl rfl
 | some g=>exact .inr (by simp)
theorem own_arr {w:World} {b:Nat} {e:TypeId} {k:Nat} {v:Value} {n:Nat} {xs:List Value} {g:Nat} {t:TypeId} {us:List Value} (h:w.ownsRow b e k v n xs) (ha:Arr w g t us) (hne:e≠t):v.ownBlock≠some g:=by
 intro hg
 rcases h.2 with⟨rfl,_⟩ | ⟨g',cap,cur,rfl,_,hgg,_⟩
 ·simp [Value.ownBlock] at hg
 ·simp only [Value.ownBlock,Option.some.injEq] at hg
  subst hg
  unfold Arr at ha
  rw [hgg] at ha
  injection ha with h1
  injection h1 with _ h2
  exact hne h2
theorem own_far {w:World} {b:Nat} {e:TypeId} {k:Nat} {v:Value} {n:Nat} {xs:List Value} (h:w.ownsRow b e k v n xs) {p:Addr} (hp:v.ownBlock≠some p.block) (u:Value):(w.setCell p u).ownsRow b e k v n xs:=by
 refine h.kept (row:=some p.block) ⟨rfl,rfl,rfl,by simp [World.setCell],fun k _ hk=>Below.heap_setCell w p u k (by rintro rfl;exact hk rfl)⟩ (.inr hp)
end Go.Proofs.YtgbkbgiogdhnaaaGreatDoor
namespace Go.Proofs.YtgbkbgiogdhnaaaGreatDoor
open Go.RowKit
theorem decL_le (l:List Nat) (hne:l≠[]):(decL l).2≤l.length:=by
 have:=Lib.decodeL_le (u8s l) (by intro h;exact hne (List.map_eq_nil_iff.1 h))
 rwa [show(u8s l).length=l.length by unfold u8s;rw [List.length_map]] at this
def toksC (ts:List JTok):List Value:=ts.flatMap tokC
end Go.Proofs.YtgbkbgiogdhnaaaGreatDoor
namespace Go.Proofs.YtgbkbgiogdhnaaaGreatDoor
open Go.RowKit
section
variable {f k:Nat} {l:List Nat} {ts:List JTok} {ns:List JNote} {v:Scanned}
end
end Go.Proofs.YtgbkbgiogdhnaaaGreatDoor
namespace Go.Proofs.YtgbkbgiogdhnaaaGreatDoor
open Go.RowKit
structure GNode where
 kind:Int
 text:List Nat
 ord:Bool
 keys:List Int
 items:List Int
end Go.Proofs.YtgbkbgiogdhnaaaGreatDoor
