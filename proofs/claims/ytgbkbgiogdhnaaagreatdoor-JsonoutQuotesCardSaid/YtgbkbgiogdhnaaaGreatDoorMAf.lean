/- The walk of quoted of jsonlex. -/
import Derived.Test.YtgbkbgiogdhnaaaGreatDoorMAe
import Derived.Lib.RuneCountTail
import Derived.Test.YtgbkbgiogdhnaaaGreatDoorMAd
import Derived.Deep.MidRow
set_option linter.unusedVariables false
set_option linter.unusedSimpArgs false
set_option linter.defProp false
set_option linter.constructorNameAsVariable false
namespace Go.Proofs.YtgbkbgiogdhnaaaGreatDoor
open Go.RowKit
theorem decode_drop (l:List Nat) (pos:Nat):Utf8.decode (mks l) pos=decL (l.drop pos):=by
 have h1:=Lib.tail_decode (mks l) pos 0
 rw [Nat.add_zero] at h1
 rw [←h1,size_mks,extract_mks,List.take_length]
 rfl
theorem runeLen_h (r:Int):Hid (∀w,Calls Tryz.prog 125 #[.int .i32 r] w fun e w'=>e=.returned (.int .i64 (Lib.runeLen r))∧w=w'):=fun w=>
 (Tryz.utf8_RuneLen r w).mono fun _ _ ⟨h1,h2⟩=>⟨h1,h2.symm⟩
theorem decL_bd (l:List Nat):(decL l).1≤1114111∧1≤(decL l).2:=by
 unfold decL Lib.decodeL
 exact⟨Lib.rune_le _ _,Lib.width_pos _ _⟩
theorem runeLen_bd (r:Int):-1≤Lib.runeLen r∧Lib.runeLen r≤4:=by unfold Lib.runeLen;(repeat' split) <;> omega
theorem runeLen_dec (l:List Nat):1≤Lib.runeLen ((decL l).1:Int):=by
 have h1:=decL_bd l
 have h2:(decL l).1<55296∨57343<(decL l).1:=by
  unfold decL
  rw [Lib.decodeL_N]
  rcases Lib.decodeN_shape (u8s l).length ((u8s l).getD 0 0).toNat ((u8s l).getD 1 0).toNat ((u8s l).getD 2 0).toNat ((u8s l).getD 3 0).toNat with⟨c,e⟩ | ⟨c1,c2,c3,cv,e⟩ | ⟨c1,c2,c3,c4,cv,cs,e⟩ | ⟨c1,c2,c3,c4,c5,cv,cw,e⟩ | e
  all_goals (rw [e];dsimp only;omega)
 unfold Lib.runeLen
 (repeat' split) <;> omega
theorem escV_len (s:List Nat):0≤(escV s).2.1∧(escV s).2.1≤12∧0≤(escV s).2.2∧(escV s).2.2≤12∧-2147483648≤(escV s).1∧(escV s).1≤2147483647:=by
 have h1:=unitV_bd s
 have h2:=unitV_bd (s.drop 6)
 have h3:=meanV_lt (s.getD 1 0)
 unfold escV
 generalize unitV s=n at *
 generalize unitV (s.drop 6)=m at *
 generalize meanV (s.getD 1 0)=c at *
 split
 ·split
  ·simp only;omega
  ·simp only;omega
 ·split
  ·simp only;omega
  ·split <;> simp only <;> omega
section
variable {f:Nat} {l:List Nat} {p nx:Nat} {acc:List Nat}
theorem quotG_end:quotG f [] p nx acc=([],0,4):=by cases f <;> simp [quotG]
theorem quotG_skip (hl:l≠[]) (h:p<nx):quotG (f+1) l p nx acc=quotG f (l.drop (decL l).2) (p+(decL l).2) nx acc:=by rw [quotG,if_neg hl,if_pos h]
theorem quotG_quote (hl:l≠[]) (h:¬p<nx) (hr:(decL l).1=34):quotG (f+1) l p nx acc=(acc,p+1,0):=by rw [quotG,if_neg hl,if_neg h,if_pos hr]
theorem quotG_low (hl:l≠[]) (h:¬p<nx) (hr:(decL l).1≠34) (hr2:(decL l).1<32):quotG (f+1) l p nx acc=([],p,4):=by rw [quotG,if_neg hl,if_neg h,if_neg hr,if_pos hr2]
theorem quotG_esc (hl:l≠[]) (h:¬p<nx) (hr:(decL l).1=92) (he:(escV l).2.2=0) :
  quotG (f+1) l p nx acc=quotG f (l.drop (decL l).2) (p+(decL l).2) (p+(escV l).2.1.toNat) (acc ++ encL (escV l).1):=by
 rw [quotG,if_neg hl,if_neg h,if_neg (by omega),if_neg (by omega),if_pos hr,if_pos he]
theorem quotG_bad (hl:l≠[]) (h:¬p<nx) (hr:(decL l).1=92) (he:(escV l).2.2≠0):quotG (f+1) l p nx acc=([],p,(escV l).2.2.toNat):=by
 rw [quotG,if_neg hl,if_neg h,if_neg (by omega),if_neg (by omega),if_pos hr,if_neg he]
theorem quotG_rune (hl:l≠[]) (h:¬p<nx) (hr:(decL l).1≠34) (hr2:¬(decL l).1<32) (hr3:(decL l).1≠92) :
  quotG (f+1) l p nx acc=quotG f (l.drop (decL l).2) (p+(decL l).2) (p+(Lib.runeLen ((decL l).1:Int)).toNat) (acc ++ encL ((decL l).1:Int)):=by
 rw [quotG,if_neg hl,if_neg h,if_neg hr,if_neg hr2,if_neg hr3]
end
theorem enc_app (u:List UInt8) (r:Int):u.map UInt8.toNat ++ encL r=(u ++ Lib.encodeRune r).map UInt8.toNat:=by rw [List.map_append];rfl
theorem enc_len (r:Int):(Lib.encodeRune r).length≤4:=by have:=Lib.runeCells_le r;rw [Lib.runeCells_length] at this;omega
theorem quot_cases {f:Nat} {l:List Nat} {p nx r k:Nat} {u:List UInt8} {v:List Nat×Nat×Nat} {x:Int×Int×Int} (hne:l≠[]) (hd:decL l=(r,k)) (hx:escV l=x) (h:quotG (f+1) l p nx (u.map UInt8.toNat)=v) :
  (p<nx∧quotG f (l.drop k) (p+k) nx (u.map UInt8.toNat)=v) ∨
  (nx≤p∧r=34∧v=(u.map UInt8.toNat,p+1,0)) ∨
  (nx≤p∧r≠34∧r<32∧v=([],p,4)) ∨
  (nx≤p∧r=92∧x.2.2=0∧quotG f (l.drop k) (p+k) (p+x.2.1.toNat) ((u ++ Lib.encodeRune x.1).map UInt8.toNat)=v) ∨
  (nx≤p∧r=92∧x.2.2≠0∧v=([],p,x.2.2.toNat)) ∨
  (nx≤p∧r≠34∧32≤r∧r≠92∧quotG f (l.drop k) (p+k) (p+(Lib.runeLen (r:Int)).toNat) ((u ++ Lib.encodeRune (r:Int)).map UInt8.toNat)=v):=by
 have h1:(decL l).1=r:=by rw [hd]
 have h2:(decL l).2=k:=by rw [hd]
 subst h1
 subst h2
 subst hx
 by_cases hp:p<nx
 ·exact .inl ⟨hp,by rw [←quotG_skip hne hp];exact h⟩
 ·by_cases h34:(decL l).1=34
  ·exact .inr (.inl ⟨by omega,h34,by rw [←quotG_quote hne hp h34];exact h.symm⟩)
  ·by_cases h32:(decL l).1<32
   ·exact .inr (.inr (.inl ⟨by omega,h34,h32,by rw [←quotG_low hne hp h34 h32];exact h.symm⟩))
   ·by_cases h92:(decL l).1=92
    ·by_cases he:(escV l).2.2=0
     ·refine .inr (.inr (.inr (.inl ⟨by omega,h92,he,?_⟩)))
      rw [←h,quotG_esc hne hp h92 he,enc_app]
     ·exact .inr (.inr (.inr (.inr (.inl ⟨by omega,h92,he,by rw [←quotG_bad hne hp h92 he];exact h.symm⟩))))
    ·refine .inr (.inr (.inr (.inr (.inr ⟨by omega,h34,by omega,h92,?_⟩))))
     rw [←h,quotG_rune hne hp h34 h32 h92,enc_app]
theorem esc_h (s:List Nat) (hs:By s):Hid (∀w,Calls Tryz.prog 126 #[.string (mks s)] w (EscR w (escV s))):=fun w=>escape_any s hs w
theorem bldAt_below {B b:Nat} {p:Value} {bs:List Value} {W W':World} (h:Lib.BuilderAtF 52 5 B b p bs W) (hb:Below W.heap.size W W'):Lib.BuilderAtF 52 5 B b p bs W':=by
 obtain⟨hB,v,hk,hown,hne⟩:=h
 refine⟨hB,v,(hb.block b (Array.getElem?_eq_some_iff.1 hk).1).trans hk,?_,hne⟩
 refine hown.kept (row:=none) ⟨hb.os,hb.tape,hb.output,hb.size,fun k hk _=>hb.block k hk⟩ ?_
 cases v.ownBlock with
 | none=>exact .inl rfl
 | some g=>exact .inr (by simp)
theorem bld_below {B b:Nat} {bs:List Value} {W W':World} (h:BldF B b bs W) (hb:Below W.heap.size W W'):BldF B b bs W':=h.imp (fun h=>bldAt_below h hb) (fun h=>bldAt_below h hb)
theorem bytes_app (u:List UInt8) (r:Int):Lib.byteCells u ++ Lib.runeCells r=Lib.byteCells (u ++ Lib.encodeRune r):=by rw [Lib.byteCells_append,Lib.byteCells_encodeRune]
def QuotR (w:World) (x:List Nat×Nat×Nat) (e:Ending) (w':World):Prop:=e=.returned (.tuple #[.string (mks x.1),.int .i64 (x.2.1:Int),.int .i64 (x.2.2:Int)])∧Below w.heap.size w w'
def QuotI (l:List Nat) (v:List Nat×Nat×Nat) (w:World) (pos nx:Nat) (u:List UInt8) (wr:World):Prop:=
 ∃fuel,BldF w.heap.size w.heap.size (Lib.byteCells u) wr∧wr.heap[w.heap.size+1]? = some (.stringIter (mks l) pos)∧Below w.heap.size w wr∧quotG fuel (l.drop pos) pos nx (u.map UInt8.toNat)=v ∧
  l.length≤pos+fuel∧u.length≤4*pos∧nx≤pos+12∧pos≤l.length
set_option maxRecDepth 20000 in
set_option maxHeartbeats 4000000 in
theorem quoted_any (l:List Nat) (hl:By l) (hlen:l.length<4294967296) (w:World):Calls Tryz.prog 86 #[.string (mks l)] w (QuotR w (quotV l)):=by
 generalize hv:quotV l=v
 have HV:Hid (quotG l.length (l.drop 0) 0 1 []=v):=hv
 clear hv
 go_enter Tryz.func86,Tryz.ntmps86
 go_wp2
 go_loopw [6] (fun nv wr=>∃pos nx u,nv=.int .i64 ((nx:Nat):Int)∧QuotI l v w pos nx u wr) (fun _ wr=>l.length - wr.iterPos (w.heap.size+1))
 case atStart=>
  refine⟨0,1,[],rfl,l.length,(Lib.IsBuilderF.of (Lib.fresh_isBuilder 52 5 w)).alloc _,?_,((Below.refl _ w).alloc (Nat.le_refl _) _).alloc (by simp) _,HV.out,by omega,by simp,by omega,by omega⟩
  have:=World.iter_heap (w.alloc (.cells #[.pointer none,.slice none 0 0] 52)) (mks l) 0
  simpa using this
 case round=>
  obtain⟨pos,nx,u,rfl,fuel,hI,hit,hbw,hq,hfu,hal,hnx,hpl⟩:=hrel
  have HQ:=Lib.hid hq
  clear hq
  have hsz:w.heap.size+1<wr.heap.size:=(Array.getElem?_eq_some_iff.1 hit).1
  by_cases hp:pos<l.length
  ·have hne:l.drop pos≠[]:=by intro h;have:=congrArg List.length h;simp at this;omega
   have hnx0:∀ty,(Instr.next (.pointer (some ⟨w.heap.size+1,0,none⟩)) true ty).run Tryz.prog wr=_:=fun ty=>Lib.run_next_any_at wr (w.heap.size+1) (mks l) pos ty hit (by rw [size_mks];exact hp)
   rw [decode_drop] at hnx0
   obtain⟨f,rfl⟩:∃f,fuel=f+1:=⟨fuel - 1,by omega⟩
   have hd:=decL_bd (l.drop pos)
   have hrl:=runeLen_dec (l.drop pos)
   have hxb:=escV_len (l.drop pos)
   have DE:=esc_h (l.drop pos) (hl.drop pos)
   have hkl:(decL (l.drop pos)).2≤(l.drop pos).length:=by
    have:=Lib.decodeL_le (u8s (l.drop pos)) (by intro h;exact hne (List.map_eq_nil_iff.1 h))
    rw [show(u8s (l.drop pos)).length=(l.drop pos).length by unfold u8s;rw [List.length_map]] at this
    exact this
   rw [List.length_drop] at hkl
   have hq2:=HQ.out
   clear HQ
   generalize hdd:decL (l.drop pos)=d at *
   obtain⟨r,k⟩:=d
   generalize hxx:escV (l.drop pos)=x at *
   obtain⟨xr,xn,xe⟩:=x
   have hcases:=quot_cases hne hdd hxx hq2
   rw [List.drop_drop] at hcases
   clear hq2 hdd hxx hne
   simp only at hd hrl hxb hkl hcases hnx0
   have DR:=runeLen_h (r:Int)
   have hrb:=runeLen_bd (r:Int)
   have HNX:=Lib.hid hnx0
   have hI2:=hI.iterAt hit (pos+k)
   have hit2:=Lib.iterAt_heap wr (w.heap.size+1) (mks l) pos (pos+k) hit
   have hbw2:=Lib.below_iterAt hbw (k:=w.heap.size+1) (by omega) (mks l) (pos+k)
   have hsz2:w.heap.size+1<(wr.iterAt (w.heap.size+1) (mks l) (pos+k)).heap.size:=by rw [Lib.iterAt_size];exact hsz
   have HIT2:=Lib.hid hit2
   clear hit2 hI hbw
   rcases hcases with⟨hlt,hq⟩ | ⟨hlt,rfl,hq⟩ | ⟨hlt,h34,h32,hq⟩ | ⟨hlt,rfl,he,hq⟩ | ⟨hlt,rfl,he,hq⟩ | ⟨hlt,h34,h32,h92,hq⟩
   ·have HQ:=Lib.hid hq
    clear hq HNX
    go_wp2
    go_roundw
    case rel=>exact⟨pos+k,nx,u,rfl,f,hI2,HIT2.out,hbw2,HQ.out,by omega,by omega,by omega,by omega⟩
    case measure=>
     simp only [World.iterPos,HIT2.out,hit]
     omega
   ·have DR:Hid (∀w,Calls Tryz.prog 125 #[.int .i32 34] w fun e w'=>e=.returned (.int .i64 1)∧w=w'):=runeLen_h 34
    have HQ:=Lib.hid hq
    clear hq HNX
    go_wp2_with (first | (go_at_call 125;((with_reducible refine(DR.out _).mono ?_));rintro e wn ⟨rfl,rfl⟩) | (go_at_call 18;go_loud (refine(Tryz.Builder_String_any_k w.heap.size w.heap.size u _ hI2 (by omega)).mono ?_;rintro e w5 ⟨rfl,hb5,hb6,hb7⟩)))
    go_ret3
    have h:=HQ.out
    subst h
    exact⟨by rw [mks_u8];rfl,hbw2.trans hb6⟩
   ·have h34':((r:Int) == 34)=false:=by simp;omega
    have h32':(r:Int)<32:=by omega
    have HQ:=Lib.hid hq
    clear hq HNX h34
    go_wp2_with (go_at_call 125;((with_reducible refine(DR.out _).mono ?_));rintro e wn ⟨rfl,rfl⟩)
    go_ret3
    have h:=HQ.out
    subst h
    exact⟨rfl,hbw2⟩
   ·have DR:Hid (∀w,Calls Tryz.prog 125 #[.int .i32 92] w fun e w'=>e=.returned (.int .i64 1)∧w=w'):=runeLen_h 92
    have HQ:=Lib.hid hq
    subst he
    clear hq HNX
    go_wp2_with (first | (go_at_call 125;((with_reducible refine(DR.out _).mono ?_));rintro e wn ⟨rfl,rfl⟩) | (go_at_call 126;((with_reducible refine(DE.out _).mono ?_));rintro e w5 ⟨rfl,hb5⟩;have hz5:=hb5.size;have hI5:=bld_below hI2 hb5) | (go_at_call 127;go_loud (refine(writeRune_any w.heap.size w.heap.size _ xr (by omega) (by omega) _ hI5 (by rw [Lib.byteCells_length];omega) (by omega)).mono ?_;rintro e w6 ⟨rfl,hb6,hb7,hb8⟩)))
    have hit5:=(hb5.block _ hsz2).trans HIT2.out
    have hit6:=hb8.iter hit5 (by omega)
    go_roundw
    case rel=>
     refine⟨pos+k,pos+xn.toNat,u ++ Lib.encodeRune xr,i64e (by omega),f,?_,hit6,(hbw2.trans (hb5.mono (by omega))).trans hb7,HQ.out,by omega,?_,by omega,by omega⟩
     ·rw [←bytes_app];exact Or.inr hb6
     ·have:=enc_len xr;rw [List.length_append];omega
    case measure=>
     simp only [World.iterPos,hit6,hit]
     omega
   ·have DR:Hid (∀w,Calls Tryz.prog 125 #[.int .i32 92] w fun e w'=>e=.returned (.int .i64 1)∧w=w'):=runeLen_h 92
    have HQ:=Lib.hid hq
    have he':(xe != 0)=true:=by simp;omega
    clear hq HNX he
    go_wp2_with (first | (go_at_call 125;((with_reducible refine(DR.out _).mono ?_));rintro e wn ⟨rfl,rfl⟩) | (go_at_call 126;((with_reducible refine(DE.out _).mono ?_));rintro e w5 ⟨rfl,hb5⟩;have hz5:=hb5.size))
    go_ret3
    have h:=HQ.out
    subst h
    exact⟨by simp only;rw [Int.toNat_of_nonneg (by omega)];rfl,hbw2.trans (hb5.mono (by omega))⟩
   ·have h34':((r:Int) == 34)=false:=by simp;omega
    have h32':¬(r:Int)<32:=by omega
    have h92':((r:Int) == 92)=false:=by simp;omega
    have HQ:=Lib.hid hq
    clear hq HNX h34 h92
    go_wp2_with (first | (go_at_call 125;((with_reducible refine(DR.out _).mono ?_));rintro e wn ⟨rfl,rfl⟩) | (go_at_call 127;go_loud (refine(writeRune_any w.heap.size w.heap.size _ (r:Int) (by omega) (by omega) _ hI2 (by rw [Lib.byteCells_length];omega) (by omega)).mono ?_;rintro e w6 ⟨rfl,hb6,hb7,hb8⟩)))
    have hit6:=hb8.iter HIT2.out (by omega)
    go_roundw
    case rel=>
     refine⟨pos+k,pos+(Lib.runeLen (r:Int)).toNat,u ++ Lib.encodeRune (r:Int),i64e (by omega),f,?_,hit6,hbw2.trans hb7,HQ.out,by omega,?_,by omega,by omega⟩
     ·rw [←bytes_app];exact Or.inr hb6
     ·have:=enc_len (r:Int);rw [List.length_append];omega
    case measure=>
     simp only [World.iterPos,hit6,hit]
     omega
  ·have hnx0:∀ty,(Instr.next (.pointer (some ⟨w.heap.size+1,0,none⟩)) true ty).run Tryz.prog wr=_:=fun ty=>Lib.run_next_end_at wr (w.heap.size+1) (mks l) pos ty hit (by rw [size_mks];exact hp)
   have hd:l.drop pos = []:=List.drop_eq_nil_of_le (by omega)
   rw [hd,quotG_end] at HQ
   clear hd
   go_wp2
   go_ret3
   have h:=HQ.out
   subst h
   exact⟨rfl,hbw⟩
end Go.Proofs.YtgbkbgiogdhnaaaGreatDoor
namespace Go.Proofs.YtgbkbgiogdhnaaaGreatDoor
open Go.RowKit
theorem decodeGo_mks (l:List Nat) (h:l≠[]):Lib.decodeGo (mks l)=decL l:=by
 unfold Lib.decodeGo
 rw [if_neg (by rw [size_mks];exact fun h'=>h (List.eq_nil_of_length_eq_zero h'))]
 have:=decode_drop l 0
 simpa using this
theorem decRune_h (l:List Nat) (h:l≠[]) {r k:Nat} (hd:decL l=(r,k)):Hid (∀w,LibOK w→Calls Tryz.prog 37 #[.string (mks l)] w fun e w'=>e=.returned (.tuple #[.int .i32 (r:Int),.int .i64 (k:Int)])∧Below w.heap.size w w'):=fun w hw=>by
 have:=Tryz.utf8_DecodeRuneInString (mks l) w hw.tabs
 rw [decodeGo_mks l h,hd] at this
 exact this
def ckAt (o:Option Nat):Int:=match o with | some k=>(k:Int) | none=>-1
def ckErr (o:Option Nat):Int:=match o with | some _=>11 | none=>0
def CheckR (w:World) (o:Option Nat) (e:Ending) (w':World):Prop:=e=.returned (.tuple #[.int .i64 (ckAt o),.int .i64 (ckErr o)])∧Below w.heap.size w w'
theorem check_cases {f:Nat} {l:List Nat} {p r k:Nat} {v:Option Nat} (hne:l≠[]) (hd:decL l=(r,k)) (h:checkG (f+1) p l=v) :
  (r=65533∧k=1∧v=some p)∨(r=65533∧k≠1∧checkG f (p+k) (l.drop k)=v)∨(r≠65533∧checkG f (p+k) (l.drop k)=v):=by
 rw [checkG,if_neg hne,hd] at h
 by_cases hr:r=65533
 ·by_cases hk:k=1
  ·subst hr;subst hk;simp at h;exact .inl ⟨rfl,rfl,h.symm⟩
  ·rw [if_neg (by intro e;exact hk (congrArg Prod.snd e))] at h;exact .inr (.inl ⟨hr,hk,h⟩)
 ·rw [if_neg (by intro e;exact hr (congrArg Prod.fst e))] at h;exact .inr (.inr ⟨hr,h⟩)
set_option maxRecDepth 8000 in
set_option maxHeartbeats 2000000 in
theorem check_any (l:List Nat) (hlen:l.length<4294967296) (w:World) (hw:LibOK w):Calls Tryz.prog 19 #[.string (mks l)] w (CheckR w (checkV l)):=by
 generalize hv:checkV l=v
 have HV:Hid (checkG l.length 0 (l.drop 0)=v):=hv
 have HW:=Lib.hid hw
 clear hv hw
 go_enter Tryz.func19,Tryz.ntmps19
 go_wp2
 go_loopw [] (fun wr=>∃pos fuel,wr.heap[w.heap.size]? = some (.stringIter (mks l) pos)∧Below w.heap.size w wr∧Hid (checkG fuel pos (l.drop pos)=v)∧l.length≤pos+fuel∧pos≤l.length) (fun wr=>l.length - wr.iterPos w.heap.size)
 case atStart=>
  refine⟨0,l.length,?_,(Below.refl _ w).alloc (Nat.le_refl _) _,HV,by omega,by omega⟩
  have:=World.iter_heap w (mks l) 0
  simpa using this
 case round=>
  obtain⟨pos,fuel,hit,hbw,hq,hfu,hpl⟩:=hrel
  have hsz:w.heap.size<wr.heap.size:=(Array.getElem?_eq_some_iff.1 hit).1
  by_cases hp:pos<l.length
  ·have hne:l.drop pos≠[]:=by intro h;have:=congrArg List.length h;simp at this;omega
   have hnx0:∀ty,(Instr.next (.pointer (some ⟨w.heap.size,0,none⟩)) true ty).run Tryz.prog wr=_:=fun ty=>Lib.run_next_any_at wr w.heap.size (mks l) pos ty hit (by rw [size_mks];exact hp)
   rw [decode_drop] at hnx0
   obtain⟨f,rfl⟩:∃f,fuel=f+1:=⟨fuel - 1,by omega⟩
   have hd:=decL_bd (l.drop pos)
   have hkl:(decL (l.drop pos)).2≤(l.drop pos).length:=by
    have:=Lib.decodeL_le (u8s (l.drop pos)) (by intro h;exact hne (List.map_eq_nil_iff.1 h))
    rw [show(u8s (l.drop pos)).length=(l.drop pos).length by unfold u8s;rw [List.length_map]] at this
    exact this
   rw [List.length_drop] at hkl
   obtain⟨⟨r,k⟩,hdd⟩:∃x,decL (l.drop pos)=x:=⟨_,rfl⟩
   have DD:=decRune_h (l.drop pos) hne hdd
   have hcases:=check_cases hne hdd hq.out
   rw [hdd] at hnx0 hd hkl
   rw [List.drop_drop] at hcases
   clear hq hdd hne
   simp only at hd hkl hcases hnx0
   have hit2:=Lib.iterAt_heap wr w.heap.size (mks l) pos (pos+k) hit
   have hbw2:=Lib.below_iterAt hbw (k:=w.heap.size) (by omega) (mks l) (pos+k)
   have hsz2:w.heap.size<(wr.iterAt w.heap.size (mks l) (pos+k)).heap.size:=by rw [Lib.iterAt_size];exact hsz
   have HIT2:=Lib.hid hit2
   clear hit2 hbw
   have hok:=HW.out.keep hbw2
   have hp':(pos:Int)≤l.length:=by omega
   rcases hcases with⟨rfl,rfl,hq⟩ | ⟨rfl,h1,hq⟩ | ⟨hr,hq⟩
   ·subst hq
    go_wp2_with (go_at_call 37;((with_reducible refine(DD.out _ hok).mono ?_));rintro e w5 ⟨rfl,hb5⟩)
    go_ret2
    exact⟨rfl,hbw2.trans (hb5.mono (by omega))⟩
   ·have h1':((k:Int) == 1)=false:=by simp;omega
    have HQ:=Lib.hid hq
    clear hq h1
    go_wp2_with (go_at_call 37;((with_reducible refine(DD.out _ hok).mono ?_));rintro e w5 ⟨rfl,hb5⟩)
    have hit5:=(hb5.block _ hsz2).trans HIT2.out
    go_roundw
    case rel=>exact⟨pos+k,f,hit5,hbw2.trans (hb5.mono (by omega)),HQ,by omega,by omega⟩
    case measure=>
     simp only [World.iterPos,hit5,hit]
     omega
   ·have hr':((r:Int) == 65533)=false:=by simp;omega
    have HQ:=Lib.hid hq
    clear hq hr
    go_wp2
    go_roundw
    case rel=>exact⟨pos+k,f,HIT2.out,hbw2,HQ,by omega,by omega⟩
    case measure=>
     simp only [World.iterPos,HIT2.out,hit]
     omega
  ·have hnx0:∀ty,(Instr.next (.pointer (some ⟨w.heap.size,0,none⟩)) true ty).run Tryz.prog wr=_:=fun ty=>Lib.run_next_end_at wr w.heap.size (mks l) pos ty hit (by rw [size_mks];exact hp)
   have hd:l.drop pos = []:=List.drop_eq_nil_of_le (by omega)
   have hce:checkG fuel pos []=none:=by cases fuel <;> simp [checkG]
   rw [hd,hce] at hq
   clear hd hce
   go_wp2
   go_ret2
   have h:=hq.out
   subst h
   exact⟨rfl,hbw⟩
end Go.Proofs.YtgbkbgiogdhnaaaGreatDoor
namespace Go.Proofs.YtgbkbgiogdhnaaaGreatDoor
open Go.RowKit
def tokC (t:JTok):List Value:=[.int .i64 (t.kind:Int),.int .i64 (t.from_:Int),.int .i64 (t.to_:Int),.string (mks t.text)]
def TokR (w:World) (x:JTok×Nat) (e:Ending) (w':World):Prop:=e=.returned (.tuple #[.agg (tokC x.1).toArray,.int .i64 (x.2:Int)])∧Below w.heap.size w w'
theorem Tryz.sz118:(Tryz.prog.info? 118).map (·.size)=some 4:=by kernel_rfl
abbrev zTok:List Value:=[.int .i64 0,.int .i64 0,.int .i64 0,.string ⟨#[]⟩]
theorem three (p q r:Prop):((p∨q∨r)∧(p∨(¬p∧q)∨(¬p∧¬q∧r)))∨(¬(p∨q∨r)∧(¬p∧¬q∧¬r)):=by
 by_cases hp:p <;> by_cases hq:q <;> by_cases hr:r <;> simp [hp,hq,hr]
end Go.Proofs.YtgbkbgiogdhnaaaGreatDoor
namespace Go.Proofs.YtgbkbgiogdhnaaaGreatDoor
open Go.RowKit
theorem lit_puncts:(ByteArray.mk #[123,125,91,93,58,44]:ByteArray)=mks [123,125,91,93,58,44]:=by simp [mks]
theorem lit_blanks:(ByteArray.mk #[32,9,13,10]:ByteArray)=mks [32,9,13,10]:=by simp [mks]
theorem ixPunct_h (c:Nat) (hc:c<256):Hid (∀w,Calls Tryz.prog 50 #[.string ⟨#[123,125,91,93,58,44]⟩,.int .u8 (c:Int)] w fun e w'=>e=.returned (.int .i64 (ixBV c [123,125,91,93,58,44]))∧w=w'):=fun w=>by
 rw [lit_puncts];exact indexByte_h _ (by intro x hx;simp at hx;omega) c hc w
theorem ixBlank_h (c:Nat) (hc:c<256):Hid (∀w,Calls Tryz.prog 50 #[.string ⟨#[32,9,13,10]⟩,.int .u8 (c:Int)] w fun e w'=>e=.returned (.int .i64 (ixBV c [32,9,13,10]))∧w=w'):=fun w=>by
 rw [lit_blanks];exact indexByte_h _ (by intro x hx;simp at hx;omega) c hc w
theorem quoted_h (l:List Nat) (hl:By l) (hlen:l.length<4294967281):Hid (∀w,Calls Tryz.prog 86 #[.string (mks l)] w (QuotR w (quotV l))):=fun w=>quoted_any l hl (by omega) w
end Go.Proofs.YtgbkbgiogdhnaaaGreatDoor
namespace Go.Proofs.YtgbkbgiogdhnaaaGreatDoor
open Go.RowKit
theorem cells_new (w:World) (t:TypeId) (us:List Value):∀j u,us[j]? = some u→(w.alloc (.cells us.toArray t)).cell? ((⟨w.heap.size,0,none⟩:Addr).add j)=some u:=by
 intro j u h
 obtain⟨ad,e,hc⟩:=(Arr.new w t us).rd j u h
 obtain rfl:=Option.some.inj e
 exact hc
section
variable {P:Program} {w:World} {ops:Array Oper} {rest:List Oper} {o:Oper} {a:Act} {Q:Exit→Act→World→Prop}
theorem wpList_apS (hg:o.guard=none) (s x:Operand) (t:TypeId) (ho:o.op=.call { callee:=.builtin .append,args:=#[s,x],argTypes:=#[t,t] }) (base:Nat) (e:TypeId) (z:Value) (k bytes:Nat)
  (ht:P.underlying t=some (.slice e)) (h2:(P.info? e).map (fun i=>(i.zero,i.size,i.bytes))=some (some z,k,bytes)) (hz:z.cells.size=k) (hk:0<k)
  (v:Value) (n:Nat) (xs:List Value) (hs:a.eval s=v) (hown:w.ownsRow base e k v n xs) (ad:Addr) (c:Nat) (us:List Value) (hus:us.length=k) (hx:a.eval x=.slice (some ad) 1 c)
  (hc:∀j u,us[j]? = some u→w.cell? (ad.add j)=some u) (h1:us.all (·.oneCell')=true) (hm:n+1≤maxLen) (hb:(n+1)*bytes≤140737488355328) (hbase:base≤w.heap.size)
  (hK:∀v' w',w'.ownsRow base e k v' (n+1) (xs ++ us)→w.grownBy w' v.ownBlock→(v'.ownBlock=v.ownBlock∨v'.ownBlock=some w.heap.size)→wpList P ops Q rest (a.put o.dst v') w'):wpList P ops Q (o :: rest) a w:=by
 obtain⟨i,hi,hz1,hz2,hz3⟩:=info_parts h2
 exact wpList_append_own_at w hg s x t ho base e i z k bytes ht hi hz1 hz2 hz3 hz hk v n xs hs hown ad 1 c us hx (by omega) hc (fun u hu=>(List.all_eq_true.1 h1) u hu) hm hb hbase (fun v' w' h3 h4 _ h5=>hK v' w' h3 h4 h5)
end
section
variable {P:Program} {w:World} {ops:Array Oper} {o:Oper} {a:Act} {K:Act→World→Prop} {Q:Exit→Act→World→Prop} {E:Prop}
theorem step_apS (hg:o.guard=none) (s x:Operand) (t:TypeId) (ho:o.op=.call { callee:=.builtin .append,args:=#[s,x],argTypes:=#[t,t] }) (base:Nat) (e:TypeId) (z:Value) (k bytes:Nat)
  (ht:P.underlying t=some (.slice e)) (h2:(P.info? e).map (fun i=>(i.zero,i.size,i.bytes))=some (some z,k,bytes)) (hz:z.cells.size=k) (hk:0<k)
  (v:Value) (n:Nat) (xs:List Value) (hs:a.eval s=v) (hown:w.ownsRow base e k v n xs) (ad:Addr) (c:Nat) (us:List Value) (hus:us.length=k) (hx:a.eval x=.slice (some ad) 1 c)
  (hc:∀j u,us[j]? = some u→w.cell? (ad.add j)=some u) (h1:us.all (·.oneCell')=true) (hm:n+1≤maxLen) (hb:(n+1)*bytes≤140737488355328) (hbase:base≤w.heap.size)
  (hK:∀v' w',w'.ownsRow base e k v' (n+1) (xs ++ us)→w.grownBy w' v.ownBlock→(v'.ownBlock=v.ownBlock∨v'.ownBlock=some w.heap.size)→K (a.put o.dst v') w') :
  if Region.wanted o (yielded ops a.tmps)=true then Oper.wp P o a w K Q else E:=by
 have hw:Region.wanted o (yielded ops a.tmps)=true:=by simp [Region.wanted,hg]
 rw [if_pos hw]
 obtain⟨i,hi,hz1,hz2,hz3⟩:=info_parts h2
 obtain⟨v',w',hr,h3,h4,_,h5⟩:=run_append_own_at (P:=P) w base t o.type e i z k bytes ht hi hz1 hz2 hz3 hz hk v n xs hown ad 1 c us (by omega) hc (fun u hu=>(List.all_eq_true.1 h1) u hu) hm hb hbase
 unfold Oper.wp execOp
 simp only [ho,resolve,invoke,builtin,Sem.run_bind,Sem.run_pure,Result.andThen_ok,List.map_toArray,List.map_cons,List.map_nil,hs,hx,hr]
 exact hK _ _ h3 h4 h5
end
theorem quiet_left {P:Program} {f:FuncId} {args:Array Value} {w:World} {n:Nat} {v:Value}
  (h:Calls P f args (w.drewN n) fun e w'=>e=.returned v∧w.drewN n=w'):Calls P f args (w.drewN n) fun e w'=>e=.returned v∧∃m,w'=w.drewN m:=
 h.mono fun _ _ ⟨he,hm⟩=>⟨he,n,hm.symm⟩
theorem results_tmp4 {fn:Func} {t u v x:Tmp} (h:fn.results=#[.tmp t,.tmp u,.tmp v,.tmp x]) (tmps:Array Value) (P:Program) (w:World) :
  (results fn tmps).run P w=.ok (.tuple #[tmps.getD t undef,tmps.getD u undef,tmps.getD v undef,tmps.getD x undef]) w:=by simp [results,h]
theorem own_ne {w:World} {b b':Nat} {e e':TypeId} {k k':Nat} {v v':Value} {n n':Nat} {xs xs':List Value} (h:w.ownsRow b e k v n xs) (h':w.ownsRow b' e' k' v' n' xs') (hne:e≠e') :
  v.ownBlock=none∨v.ownBlock≠v'.ownBlock:=by
 rcases h.2 with⟨rfl,_⟩ | ⟨g,cap,cur,rfl,_,hg,_⟩
 ·exact .inl rfl
 ·rcases h'.2 with⟨rfl,_⟩ | ⟨g',cap',cur',rfl,_,hg',_⟩
  ·exact .inr (by simp [Value.ownBlock])
  ·refine .inr ?_
   simp only [Value.ownBlock,ne_eq,Option.some.injEq]
   rintro rfl
   rw [hg] at hg'
   injection hg' with h1
   injection h1 with _ h2
   exact hne h2
theorem own_kind {w:World} {b:Nat} {e:TypeId} {k:Nat} {v:Value} {n:Nat} {xs:List Value} (h:w.ownsRow b e k v n xs) {g:Nat} (hg:v.ownBlock=some g):∃C fz,w.heap[g]? = some (.cells C e fz):=by
 rcases h.2 with⟨rfl,_⟩ | ⟨g',cap,cur,rfl,_,hgg,_⟩
 ·simp [Value.ownBlock] at hg
 ·simp only [Value.ownBlock,Option.some.injEq] at hg
  subst hg
  exact⟨cur,_,hgg⟩
theorem cells_kind {w:World} {g:Nat} {C C':Array Value} {t t':TypeId} {fz fz':Nat×Nat} (h:w.heap[g]? = some (.cells C t fz)) (h':w.heap[g]? = some (.cells C' t' fz')):t=t':=by
 rw [h] at h'
 injection h' with e1
 injection e1
theorem own_slice {w:World} {b:Nat} {e:TypeId} {k:Nat} {v:Value} {n:Nat} {xs:List Value} (h:w.ownsRow b e k v n xs):∃A c,v=.slice A n c∧n≤c∧c≤maxLen:=by
 rcases h.2 with⟨rfl,rfl⟩ | ⟨g,cap,cur,rfl,_,_,h1,h2,_⟩
 ·exact⟨none,0,rfl,Nat.le_refl _,by decide⟩
 ·exact⟨_,cap,rfl,h1,h2⟩
theorem own_same {w w':World} {b:Nat} {e:TypeId} {k:Nat} {v:Value} {n:Nat} {xs:List Value} (h:w.ownsRow b e k v n xs) (hs:∀g,v.ownBlock=some g→w'.heap[g]? = w.heap[g]?):w'.ownsRow b e k v n xs:=by
 refine⟨h.1,?_⟩
 rcases h.2 with hn | ⟨g,cap,cur,rfl,hb,hg,rest⟩
 ·exact .inl hn
 ·exact .inr ⟨g,cap,cur,rfl,hb,by rw [hs g rfl];exact hg,rest⟩
theorem own_below {w w':World} {b:Nat} {e:TypeId} {k:Nat} {v:Value} {n:Nat} {xs:List Value} (h:w.ownsRow b e k v n xs) (hb:Below w.heap.size w w'):w'.ownsRow b e k v n xs:=by
 refine h.kept (row:=none) ⟨hb.os,hb.tape,hb.output,hb.size,fun k hk _=>hb.block k hk⟩ ?_
 cases v.ownBlock with
 | none=>exact .inl rfl
 | some g=>exact .inr (by simp)
theorem own_arr {w:World} {b:Nat} {e:TypeId} {k:Nat} {v:Value} {n:Nat} {xs:List Value} {g:Nat} {t:TypeId} {us:List Value} (h:w.ownsRow b e k v n xs) (ha:Arr w g t us) (hne:e≠t):v.ownBlock≠some g:=by
 intro hg
 rcases h.2 with⟨rfl,_⟩ | ⟨g',cap,cur,rfl,_,hgg,_⟩
 ·simp [Value.ownBlock] at hg
 ·simp only [Value.ownBlock,Option.some.injEq] at hg
  subst hg
  unfold Arr at ha
  rw [hgg] at ha
  injection ha with h1
  injection h1 with _ h2
  exact hne h2
theorem own_far {w:World} {b:Nat} {e:TypeId} {k:Nat} {v:Value} {n:Nat} {xs:List Value} (h:w.ownsRow b e k v n xs) {p:Addr} (hp:v.ownBlock≠some p.block) (u:Value):(w.setCell p u).ownsRow b e k v n xs:=by
 refine h.kept (row:=some p.block) ⟨rfl,rfl,rfl,by simp [World.setCell],fun k _ hk=>Below.heap_setCell w p u k (by rintro rfl;exact hk rfl)⟩ (.inr hp)
end Go.Proofs.YtgbkbgiogdhnaaaGreatDoor
namespace Go.Proofs.YtgbkbgiogdhnaaaGreatDoor
open Go.RowKit
theorem decL_le (l:List Nat) (hne:l≠[]):(decL l).2≤l.length:=by
 have:=Lib.decodeL_le (u8s l) (by intro h;exact hne (List.map_eq_nil_iff.1 h))
 rwa [show(u8s l).length=l.length by unfold u8s;rw [List.length_map]] at this
def noteC (t:JNote):List Value:=[.int .i64 (t.from_:Int),.int .i64 (t.to_:Int),.string (mks t.text)]
def toksC (ts:List JTok):List Value:=ts.flatMap tokC
def notesC (ns:List JNote):List Value:=ns.flatMap noteC
theorem toksC_snoc (ts:List JTok) (t:JTok):toksC (ts ++ [t])=toksC ts ++ tokC t:=by simp [toksC]
end Go.Proofs.YtgbkbgiogdhnaaaGreatDoor
namespace Go.Proofs.YtgbkbgiogdhnaaaGreatDoor
open Go.RowKit
theorem Tryz.infoS118:(Tryz.prog.info? 118).map (fun i=>(i.zero,i.size,i.bytes))=some (some (.agg zTok.toArray),4,40):=by kernel_rfl
theorem check_h (l:List Nat) (hlen:l.length<4294967296):Hid (∀w,LibOK w→Calls Tryz.prog 19 #[.string (mks l)] w (CheckR w (checkV l))):=fun w hw=>check_any l hlen w hw
def ScanR (w:World) (x:Scanned) (e:Ending) (w':World):Prop:=∃vo vn,e=.returned (.tuple #[vo,vn,.int .i64 (x.at_:Int),.int .i64 (x.err:Int)]) ∧
 w'.ownsRow w.heap.size 118 4 vo x.toks.length (toksC x.toks)∧w'.ownsRow w.heap.size 116 3 vn x.notes.length (notesC x.notes)∧Below w.heap.size w w'
section
variable {f k:Nat} {l:List Nat} {ts:List JTok} {ns:List JNote} {v:Scanned}
end
end Go.Proofs.YtgbkbgiogdhnaaaGreatDoor
namespace Go.Proofs.YtgbkbgiogdhnaaaGreatDoor
open Go.RowKit
structure GNode where
 kind:Int
 text:List Nat
 ord:Bool
 keys:List Int
 items:List Int
end Go.Proofs.YtgbkbgiogdhnaaaGreatDoor
