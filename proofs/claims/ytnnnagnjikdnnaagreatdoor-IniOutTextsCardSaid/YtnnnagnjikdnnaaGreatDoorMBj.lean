/- The walk of INI's quoted. -/
import Derived.Test.YtnnnagnjikdnnaaGreatDoorMBi
import Derived.Test.YtnnnagnjikdnnaaGreatDoorMAi
import Derived.Test.YtnnnagnjikdnnaaGreatDoorMAd
import Derived.Test.YtnnnagnjikdnnaaGreatDoorMBh
set_option linter.unusedVariables false
set_option linter.unusedSimpArgs false
set_option linter.defProp false
set_option linter.constructorNameAsVariable false
namespace Go.Proofs.YtnnnagnjikdnnaaGreatDoor
open Go.RowKit
theorem str_B8i {ys:List Nat} (h:By ys):Lib.byteCells (ys.map UInt8.ofNat)=B8 ys:=by
 unfold Lib.byteCells B8
 rw [List.map_map]
 refine List.map_congr_left (fun c hc=>?_)
 have:=h c hc
 show Value.int .u8 (((UInt8.ofNat c).toNat:Nat):Int)=_
 have e:(UInt8.ofNat c).toNat=c:=by simp;omega
 rw [e]
theorem esc_cb {pb i e c:Nat} {S:List Nat} (hS:By S) (hl:S.length≤100000) (he:e≤S.length) (hc:c<32∨c=34∨c=92) (hi:i+(escI c).length<e) (hu:∀x,x<(escI c).length→S[i+x]? = (escI c)[x]?) (w:World) (hp:w.cell? ⟨pb,2,none⟩=some (.string (mks S))) :
  Calls Tryz.prog 110 #[.pointer (some ⟨pb,0,none⟩),.int .i64 (i:Int),.int .i64 (e:Int)] w fun en w'=>en=.returned (.tuple #[.string (mks [c]),.int .i64 ((escI c).length:Int),.int .i64 0])∧Below w.heap.size w w':=by
 by_cases h:c=34∨c=92∨c=10∨c=13∨c=9
 ·have e2:(escI c).length=2:=by rcases h with rfl | rfl | rfl | rfl | rfl <;> decide
  rw [e2] at hi ⊢
  exact esc_low hl he h hi hu w hp
 ·exact esc_u hS hl he (by omega) (by omega) (by omega) (by omega) hi hu w hp
theorem escI_first:∀c,c<32∨c=34∨c=92→(escI c)[0]? = some 92:=by
 intro c h
 rcases h with h | rfl | rfl
 ·exact(show ∀c,c<32→(escI c)[0]? = some 92 by decide) c h
 ·decide
 ·decide
theorem escI_plain {c:Nat} (h:¬(c<32∨c=34∨c=92)):escI c = [c]:=by
 unfold escI
 rw [if_neg (by omega),if_neg (by omega),if_neg (by omega),if_neg (by omega),if_neg (by omega),if_neg (by omega)]
theorem take_next {t:List Nat} {j c:Nat} (h:t[j]? = some c):B8 (t.take (j+1))=B8 (t.take j) ++ B8 [c]:=by rw [List.take_add_one,h,B8_append];rfl
set_option maxRecDepth 20000 in
set_option maxHeartbeats 8000000 in
theorem quotedI_cb {pb i e:Nat} {S t:List Nat} (hS:By S) (hl:S.length≤100000) (ht:By t) (hq:QuoAt S i e t) (w:World) (hp:w.cell? ⟨pb,2,none⟩=some (.string (mks S))) :
  Calls Tryz.prog 81 #[.pointer (some ⟨pb,0,none⟩),.int .i64 (i:Int),.int .i64 (e:Int)] w fun en w'=>en=.returned (.tuple #[.string (mks t),.int .i64 ((i+(quoI t).length:Nat):Int),.bool true])∧Below w.heap.size w w':=by
 obtain⟨m,hm⟩:∃m,S.length=m:=⟨_,rfl⟩
 have hsz:(mks S).size=m:=by rw [size_mks];exact hm
 obtain⟨n,hn⟩:∃n,t.length=n:=⟨_,rfl⟩
 have HQ:=Lib.hid hq
 obtain⟨q1,q2,_⟩:=hq
 have hel:=escIL_len ht
 have hql:(quoI t).length=(escIL t).length+2:=by rw [quo_end];simp
 have HQL:=Lib.hid hql
 rw [hql] at q1
 rw [hm] at hl q2
 have HS:=Lib.hid hS
 have HT:=Lib.hid ht
 have HP:=Lib.hid hp
 have HN:=Lib.hid hn
 have hn1:n≤100000:=by omega
 have hb0:BldF w.heap.size w.heap.size [] (w.alloc (.cells #[.pointer none,.slice none 0 0] 49)):=Lib.IsBuilderF.of (Lib.fresh_isBuilder 49 5 w)
 have HB0:Hid (BldF w.heap.size w.heap.size (B8 (t.take 0)) (w.alloc (.cells #[.pointer none,.slice none 0 0] 49))):=hb0
 have HBl:Hid (Below w.heap.size w (w.alloc (.cells #[.pointer none,.slice none 0 0] 49))):=(Below.refl _ _).alloc (Nat.le_refl _) _
 have HM:=Lib.hid hm
 clear hp hS ht hql hn hm hb0
 go_enter Tryz.func81,Tryz.ntmps81
 go_upto_region 3 with(fail)
 generalize (w.alloc (.cells #[.pointer none,.slice none 0 0] 49))=W1 at *
 obtain⟨z,hz⟩:∃z,w.heap.size=z:=⟨_,rfl⟩
 rw [hz] at HB0 HBl ⊢
 have HZ:=Lib.hid hz
 clear hz
 go_wp2_with (fail)
 go_loopw [10] (fun iv wr=>∃j x:Nat,j≤n∧i+1+(escIL (t.take j)).length=x∧iv=.int .i64 (x:Int)∧Hid (BldF z z (B8 (t.take j)) wr)∧Hid (Below z w wr)) (fun iv _=>e - (intOf iv).toNat)
 case atStart=>exact⟨0,i+1,Nat.zero_le _,rfl,congrArg (Value.int .i64) (by omega),HB0,HBl⟩
 case round=>
  obtain⟨j,x,hj,hx,rfl,hBd,hB⟩:=hrel
  have hp':=(hB.out.cell (by rw [←HZ.out];exact block_lt_of_cell HP.out)).trans HP.out
  have hbz:z≤wr.heap.size:=Nat.le_trans (Nat.le_of_eq HZ.out.symm) hB.out.size
  have x0:(0:Int)≤x:=by omega
  by_cases hjn:j=n
  ·have gx:S[x]? = some 34:=by rw [←hx,hjn,←HN.out,List.take_length];exact HQ.out.last
   have hxe:x+1=i+(quoI t).length:=by rw [←hx,hjn,←HN.out,List.take_length,HQL.out];omega
   have x1:(x:Int)<e:=by have:=HQ.out.1;omega
   have x3:(x:Int)<m:=by omega
   have qx:x<(mks S).size:=by rw [hsz];omega
   have hgx:=get_mks gx (by decide) qx
   have B7:BldF z z (Lib.byteCells (t.map UInt8.ofNat)) wr:=by
    have h:=hBd.out
    rw [hjn,←HN.out,List.take_length] at h
    have e9:Lib.byteCells (t.map UInt8.ofNat)=B8 t:=by exact(str_B8i HT.out)
    rw [e9]
    exact h
   have DS:=Lib.hid (Tryz.Builder_String_any_f z z (t.map UInt8.ofNat) wr B7 hbz)
   rw [show(⟨(t.map UInt8.ofNat).toArray⟩:ByteArray)=mks t from rfl] at DS
   have ex:(x:Int)+1=((i+(quoI t).length:Nat):Int):=by omega
   have EX:=Lib.hid ex
   clear gx ex hxe
   go_wp2_with (go_at_call 20;((with_reducible refine DS.out.mono ?_));rintro en w8 ⟨rfl,_,hb8⟩)
   rw [EX.out]
   go_ret3
   exact⟨rfl,by rw [HZ.out];exact hB.out.trans hb8⟩
  ·obtain⟨c,hc⟩:∃c,t[j]? = some c:=⟨_,List.getElem?_eq_getElem (by have:=HN.out;omega)⟩
   have hcb:=HT.out.get hc
   have hu:∀y,y<(escI c).length→S[x+y]? = (escI c)[y]?:=fun y h=>by rw [←hx];exact HQ.out.unit hc h
   have hl2:(quoI t).length=1+(escIL (t.take j)).length+(escI c).length+((escIL (t.drop (j+1))).length+1):=by rw [quo_step hc];simp;omega
   have hxl:x+(escI c).length<e:=by have:=HQ.out.1;omega
   have hnx:=Lib.hid (show i+1+(escIL (t.take (j+1))).length=x+(escI c).length by rw [escIL_take hc,List.length_append];omega)
   have htn:=Lib.hid (take_next hc)
   have h1:=(escI_len c hcb).1
   have hlj:(B8 (t.take j)).length≤100000:=by unfold B8;rw [List.length_map,List.length_take];omega
   have x1:(x:Int)<e:=by omega
   have x3:(x:Int)<m:=by omega
   have qx:x<(mks S).size:=by rw [hsz];omega
   clear hl2 hc
   by_cases hsp:c<32∨c=34∨c=92
   ·have gx:S[x]? = some 92:=by
     have h:=hu 0 (by omega)
     rw [Nat.add_zero] at h
     rw [h]
     exact escI_first c hsp
    have hgx:=get_mks gx (by decide) qx
    have DE:=Lib.hid (esc_cb HS.out (by rw [HM.out];exact hl) (by rw [HM.out];exact q2) hsp hxl hu wr hp')
    obtain⟨k,hk⟩:∃k,(escI c).length=k:=⟨_,rfl⟩
    rw [hk] at DE hnx hxl h1
    clear hu gx hk
    go_wp2_with (first | (go_at_call 110;((with_reducible refine DE.out.mono ?_));rintro en w2 ⟨rfl,hb2⟩;have hB2:=Lib.hid (bld_below hBd.out hb2)) | (go_at_call 17;((with_reducible refine(kb_string z z (B8 (t.take j)) (mks [c]) w2 hB2.out (by rw [size_mks];simp only [List.length_singleton];omega) (Nat.le_trans hbz hb2.size)).mono ?_));rintro en w3 ⟨rfl,hu3,hb3,_⟩))
    go_roundw
    case rel=>exact⟨j+1,x+k,by omega,hnx.out,congrArg (Value.int .i64) (by omega),by rw [htn.out,←show Lib.strCells (mks [c])=B8 [c] from str_B8i (By.cons hcb By.nil)];exact .inr hu3,(hB.out.trans (hb2.mono hbz)).trans hb3⟩
    case measure=>simp [intOf];omega
   ·have ep:=escI_plain hsp
    rw [ep] at hu hnx
    have gx:S[x]? = some c:=hu 0 (by simp)
    have hgx:=get_mks gx hcb qx
    have n34:((c:Int) == 34)=false:=by simp;omega
    have n92:((c:Int) == 92)=false:=by simp;omega
    clear hu gx ep
    go_wp2_with (go_at_call 16;((with_reducible refine(kb_byte z z (B8 (t.take j)) (c:Int) wr hBd.out (by omega) hbz).mono ?_));rintro en w3 ⟨rfl,hu3,hb3,_⟩)
    go_roundw
    case rel=>exact⟨j+1,x+1,by omega,hnx.out,congrArg (Value.int .i64) (by omega),by rw [htn.out];exact .inr hu3,hB.out.trans hb3⟩
    case measure=>simp [intOf];omega
end Go.Proofs.YtnnnagnjikdnnaaGreatDoor
namespace Go.Proofs.YtnnnagnjikdnnaaGreatDoor
open Go.RowKit
theorem slice_one {t:List Nat} {i c:Nat} (h:t[i]? = some c):(t.take (i+1)).drop i = [c]:=by
 apply List.ext_getElem?
 intro j
 rw [List.getElem?_drop,List.getElem?_take]
 cases j with
 | zero=>rw [if_pos (by omega)];exact h
 | succ j=>rw [if_neg (by omega)];rfl
theorem mks_cat (a b:List Nat):mks a ++ mks b=mks (a ++ b):=by
 apply ByteArray.ext
 simp [mks,ByteArray.data_append]
theorem escI_step {t:List Nat} {i c:Nat} (h:t[i]? = some c):B8 (34 :: escIL (t.take (i+1)))=B8 (34 :: escIL (t.take i)) ++ B8 (escI c):=by
 rw [escIL_take h,←B8_append]
 rfl
set_option maxRecDepth 20000 in
set_option maxHeartbeats 8000000 in
theorem quotedO_cb {t:List Nat} (ht:By t) (hl:t.length≤10000) (w:World) (h:DB16 w) :
  Calls Tryz.prog 42 #[.string (mks t)] w fun e w'=>e=.returned (.string (mks (quoI t)))∧Below w.heap.size w w':=by
 obtain⟨n,hn⟩:∃n,t.length=n:=⟨_,rfl⟩
 have hsz:(mks t).size=n:=by rw [size_mks];exact hn
 have HT:=Lib.hid ht
 have HN:=Lib.hid hn
 have HD:=Lib.hid h
 have hb0:BldF w.heap.size w.heap.size [] (w.alloc (.cells #[.pointer none,.slice none 0 0] 49)):=Lib.IsBuilderF.of (Lib.fresh_isBuilder 49 5 w)
 have HB0:Hid (BldF w.heap.size w.heap.size [] (w.alloc (.cells #[.pointer none,.slice none 0 0] 49))):=hb0
 have HBl:Hid (Below w.heap.size w (w.alloc (.cells #[.pointer none,.slice none 0 0] 49))):=(Below.refl _ _).alloc (Nat.le_refl _) _
 rw [hn] at hl
 clear ht hn hb0 h
 go_enter Tryz.func42,Tryz.ntmps42
 go_upto_region 2 with(fail)
 generalize (w.alloc (.cells #[.pointer none,.slice none 0 0] 49))=W1 at *
 obtain⟨z,hz⟩:∃z,w.heap.size=z:=⟨_,rfl⟩
 rw [hz] at HB0 HBl ⊢
 have HZ:=Lib.hid hz
 have hz1:z≤W1.heap.size:=by rw [←hz];exact Nat.le_trans (Nat.le_of_eq hz) (by have:=HBl.out.size;omega)
 clear hz
 go_upto_region 3 with(go_at_call 16;((with_reducible refine(kb_byte z z [] 34 W1 HB0.out (by decide) hz1).mono ?_));rintro en w2 ⟨rfl,hu2,hb2,_⟩;have HU2:=Lib.hid hu2;have HB2:=Lib.hid hb2;clear hu2 hb2)
 have HBW2:=Lib.hid (HBl.out.trans HB2.out)
 have hbf2:Hid (BldF z z (B8 (34 :: escIL (t.take 0))) w2):=.inr HU2.out
 have Hbf2:=Lib.hid hbf2
 clear HU2 HB0 HB2 hz1 hbf2
 go_wp2_with (fail)
 have HB0w:Hid (z≤w2.heap.size):=by have:=HBW2.out.size;have:=HZ.out;show _≤_;omega
 go_loopw [9] (fun iv wr=>∃i:Nat,i≤n∧iv=.int .i64 (i:Int)∧Hid (BldF z z (B8 (34 :: escIL (t.take i))) wr)∧Hid (Below z w wr)) (fun iv _=>n - (intOf iv).toNat)
 case atStart=>exact⟨0,Nat.zero_le _,rfl,Hbf2.out,HBW2.out⟩
 case round=>
  obtain⟨i,hi,rfl,hBd,hB⟩:=hrel
  have hbz:z≤wr.heap.size:=Nat.le_trans (Nat.le_of_eq HZ.out.symm) hB.out.size
  have i0:(0:Int)≤i:=by omega
  have hlq:(B8 (34 :: escIL (t.take i))).length≤70000:=by
   have h1:=(escIL_len (l:=t.take i) (fun x hx=>HT.out x (List.mem_of_mem_take hx))).2
   rw [List.length_take] at h1
   unfold B8
   rw [List.length_map,List.length_cons]
   omega
  by_cases hin:i=n
  ·have i1:¬(i:Int)<n:=by omega
   have hfin:B8 (34 :: escIL (t.take i)) ++ [.int .u8 34]=Lib.byteCells ((quoI t).map UInt8.ofNat):=by
    rw [str_B8i (quoI_by HT.out),hin,←HN.out,List.take_length,quo_end,B8_append]
    rfl
   have HF:=Lib.hid hfin
   have hlen:(B8 (34 :: escIL (t.take i))).length+1≤140737488355328:=by omega
   have HLE:=Lib.hid hlen
   clear hfin hlen hlq hin hi
   go_wp2_with (first | (go_at_call 16;((with_reducible refine(kb_byte z z (B8 (34 :: escIL (t.take i))) 34 wr hBd.out HLE.out hbz).mono ?_));rintro en w3 ⟨rfl,hu3,hb3,_⟩;have HU3:Hid (BldF z z (Lib.byteCells ((quoI t).map UInt8.ofNat)) w3):=(by rw [←HF.out];exact .inr hu3);have DS:=Lib.hid (Tryz.Builder_String_any_f z z ((quoI t).map UInt8.ofNat) w3 HU3.out (Nat.le_trans hbz hb3.size));have HB3:=Lib.hid hb3;clear hu3 hb3;rw [show(⟨((quoI t).map UInt8.ofNat).toArray⟩:ByteArray)=mks (quoI t) from rfl] at DS) | (go_at_call 20;((with_reducible refine DS.out.mono ?_));rintro en w8 ⟨rfl,_,hb8⟩))
   go_ret
   exact⟨rfl,by rw [HZ.out];exact(hB.out.trans HB3.out).trans hb8⟩
  ·have i1:(i:Int)<n:=by omega
   obtain⟨c,hc⟩:∃c,t[i]? = some c:=⟨_,List.getElem?_eq_getElem (by have:=HN.out;omega)⟩
   have hcb:=HT.out.get hc
   have q0:i<(mks t).size:=by rw [hsz];omega
   have hg:=get_mks hc hcb q0
   have htn:=Lib.hid (escI_step hc)
   have hsl:=slice_one hc
   have hlen:(B8 (34 :: escIL (t.take i))).length+1≤140737488355328:=by omega
   have HLE:=Lib.hid hlen
   have HLQ:=Lib.hid hlq
   clear hlen hlq hc
   by_cases h34:c=34∨c=92
   ·have he:escI c = [92,c]:=by unfold escI;rw [if_pos h34]
    have e2:(⟨#[92]⟩:ByteArray) ++ mks [c]=mks [92,c]:=mks_cat [92] [c]
    have hm:(B8 (34 :: escIL (t.take i))).length+(mks [92,c]).size≤140737488355328:=by rw [size_mks];have:=HLQ.out;simp;omega
    have HM:=Lib.hid hm
    have HE:=Lib.hid he
    clear hm he
    rcases h34 with rfl | rfl
    all_goals
     go_wp2_with (go_at_call 17;((with_reducible refine(kb_string z z (B8 (34 :: escIL (t.take i))) _ wr hBd.out HM.out hbz).mono ?_));rintro en w3 ⟨rfl,hu3,hb3,_⟩)
     go_roundw
     case rel=>exact⟨i+1,by omega,i64e (by omega),by rw [htn.out,HE.out,←show Lib.strCells (mks _)=B8 _ from str_B8i (By.cons (by decide) (By.cons (by decide) By.nil))];exact .inr hu3,hB.out.trans hb3⟩
     case measure=>simp [intOf];omega
   have m34:((c:Int) == 34)=false:=by simp;omega
   have m92:((c:Int) == 92)=false:=by simp;omega
   by_cases h10:c=10
   ·subst h10
    have HE:=Lib.hid (show escI 10 = [92,110] by decide)
    have hm:(B8 (34 :: escIL (t.take i))).length+(⟨#[92,110]⟩:ByteArray).size≤140737488355328:=by have:=HLQ.out;show _+2≤_;omega
    have HM:=Lib.hid hm
    clear hm m34 m92
    go_wp2_with (go_at_call 17;((with_reducible refine(kb_string z z (B8 (34 :: escIL (t.take i))) ⟨#[92,110]⟩ wr hBd.out HM.out hbz).mono ?_));rintro en w3 ⟨rfl,hu3,hb3,_⟩)
    go_roundw
    case rel=>exact⟨i+1,by omega,i64e (by omega),by rw [htn.out,HE.out,←show Lib.strCells (mks [92,110])=B8 [92,110] from str_B8i (By.cons (by decide) (By.cons (by decide) By.nil))];exact .inr hu3,hB.out.trans hb3⟩
    case measure=>simp [intOf];omega
   have m10:((c:Int) == 10)=false:=by simp;omega
   by_cases h13:c=13
   ·subst h13
    have HE:=Lib.hid (show escI 13 = [92,114] by decide)
    have hm:(B8 (34 :: escIL (t.take i))).length+(⟨#[92,114]⟩:ByteArray).size≤140737488355328:=by have:=HLQ.out;show _+2≤_;omega
    have HM:=Lib.hid hm
    clear hm m34 m92
    go_wp2_with (go_at_call 17;((with_reducible refine(kb_string z z (B8 (34 :: escIL (t.take i))) ⟨#[92,114]⟩ wr hBd.out HM.out hbz).mono ?_));rintro en w3 ⟨rfl,hu3,hb3,_⟩)
    go_roundw
    case rel=>exact⟨i+1,by omega,i64e (by omega),by rw [htn.out,HE.out,←show Lib.strCells (mks [92,114])=B8 [92,114] from str_B8i (By.cons (by decide) (By.cons (by decide) By.nil))];exact .inr hu3,hB.out.trans hb3⟩
    case measure=>simp [intOf];omega
   have m13:((c:Int) == 13)=false:=by simp;omega
   by_cases h9:c=9
   ·subst h9
    have HE:=Lib.hid (show escI 9 = [92,116] by decide)
    have hm:(B8 (34 :: escIL (t.take i))).length+(⟨#[92,116]⟩:ByteArray).size≤140737488355328:=by have:=HLQ.out;show _+2≤_;omega
    have HM:=Lib.hid hm
    clear hm m34 m92
    go_wp2_with (go_at_call 17;((with_reducible refine(kb_string z z (B8 (34 :: escIL (t.take i))) ⟨#[92,116]⟩ wr hBd.out HM.out hbz).mono ?_));rintro en w3 ⟨rfl,hu3,hb3,_⟩)
    go_roundw
    case rel=>exact⟨i+1,by omega,i64e (by omega),by rw [htn.out,HE.out,←show Lib.strCells (mks [92,116])=B8 [92,116] from str_B8i (By.cons (by decide) (By.cons (by decide) By.nil))];exact .inr hu3,hB.out.trans hb3⟩
    case measure=>simp [intOf];omega
   have m9:((c:Int) == 9)=false:=by simp;omega
   by_cases h32:c<32
   ·have m32:(c:Int)<32:=by omega
    obtain⟨F,hF,hlF⟩:∃F,(if c<16 then [hexd c] else [hexd (c / 16),hexd (c % 16)])=F∧F.length≤2:=⟨_,rfl,by split <;> simp⟩
    have he:escI c = [92,117,123] ++ F ++ [125]:=by
     unfold escI
     rw [if_neg (by omega),if_neg h10,if_neg h13,if_neg h9,←hF]
     by_cases h16:c<16
     ·rw [if_pos h16,if_pos h16];rfl
     ·rw [if_neg h16,if_pos h32,if_neg h16];rfl
    have DF:=fmt_cb h32 wr (HD.out.keep (by rw [HZ.out];exact hB.out))
    rw [hF] at DF
    have HDF:=Lib.hid DF
    obtain⟨G,hG⟩:∃G,[92,117,123] ++ F=G:=⟨_,rfl⟩
    have hlG:G.length≤5:=by rw [←hG,List.length_append];show 3+_≤5;omega
    have e31:(⟨#[92,117,123]⟩:ByteArray) ++ mks F=mks G:=by
     rw [show(⟨#[92,117,123]⟩:ByteArray)=mks [92,117,123] from rfl,mks_cat,hG]
    have e32:mks G ++ (⟨#[125]⟩:ByteArray)=mks (escI c):=by
     rw [show(⟨#[125]⟩:ByteArray)=mks [125] from rfl,mks_cat,he,hG]
    obtain⟨f,hf⟩:∃f,(mks F).size=f:=⟨_,rfl⟩
    obtain⟨g,hgg⟩:∃g,(mks G).size=g:=⟨_,rfl⟩
    have hf2:f≤2:=by rw [←hf,size_mks];exact hlF
    have hg2:g≤5:=by rw [←hgg,size_mks];exact hlG
    have hby:=Lib.hid (escI_by hcb)
    have hm:(B8 (34 :: escIL (t.take i))).length+(mks (escI c)).size≤140737488355328:=by
     rw [size_mks]
     have h1:=(escI_len c hcb).2
     have:=HLQ.out
     omega
    have HM:=Lib.hid hm
    clear DF hF he hm hlF h10 h13 h9 h34 hG hlG
    go_wp2_with (first | (go_at_call 74;((with_reducible refine HDF.out.mono ?_));rintro en w2 ⟨rfl,hb2⟩;have HB2:=Lib.hid hb2;have HBd2:=Lib.hid (bld_below hBd.out hb2);have hbz2:=Nat.le_trans hbz hb2.size;clear hb2) | (go_at_call 17;((with_reducible refine(kb_string z z (B8 (34 :: escIL (t.take i))) (mks (escI c)) w2 HBd2.out HM.out hbz2).mono ?_));rintro en w3 ⟨rfl,hu3,hb3,_⟩))
    go_roundw
    case rel=>exact⟨i+1,by omega,i64e (by omega),by rw [htn.out,←show Lib.strCells (mks (escI c))=B8 (escI c) from str_B8i hby.out];exact .inr hu3,(hB.out.trans (HB2.out.mono hbz)).trans hb3⟩
    case measure=>simp [intOf];omega
   ·have m32:¬(c:Int)<32:=by omega
    have HE:=Lib.hid (escI_plain (c:=c) (by omega))
    go_wp2_with (go_at_call 16;((with_reducible refine(kb_byte z z (B8 (34 :: escIL (t.take i))) (c:Int) wr hBd.out HLE.out hbz).mono ?_));rintro en w3 ⟨rfl,hu3,hb3,_⟩)
    go_roundw
    case rel=>exact⟨i+1,by omega,i64e (by omega),by rw [htn.out,HE.out];exact .inr hu3,hB.out.trans hb3⟩
    case measure=>simp [intOf];omega
end Go.Proofs.YtnnnagnjikdnnaaGreatDoor
namespace Go.Proofs.YtnnnagnjikdnnaaGreatDoor
open Go.RowKit
set_option maxRecDepth 20000 in
theorem bounded_cb {t:List Nat} (hl:t.length≤65536) (w:World) :
  Calls Tryz.prog 19 #[.string (mks t)] w fun en w'=>en=.returned (.tuple #[.string (mks t),.int .i64 0])∧Below w.heap.size w w':=by
 have hsz:(mks t).size=t.length:=by rw [size_mks]
 have h1:¬(t.length:Int) > 65536:=by omega
 have HB:=Lib.hid (Below.refl w.heap.size w)
 go_enter Tryz.func19,Tryz.ntmps19
 go_wp2_with (fail)
 go_ret2
 exact⟨rfl,HB.out⟩
set_option maxRecDepth 20000 in
theorem bare_cb {r:Nat} (hr:r≤1114111) (w:World) :
  Calls Tryz.prog 39 #[.int .i32 (r:Int)] w fun en w'=>en=.returned (.bool (bareI r))∧Below w.heap.size w w':=by
 have HB:=Lib.hid (Below.refl w.heap.size w)
 go_enter Tryz.func39,Tryz.ntmps39
 go_wp2_with (fail)
 all_goals
  go_ret
  refine⟨congrArg Ending.returned (congrArg Value.bool ?_),HB.out⟩
  show _=bareI r
  unfold bareI
  first
   | (simp_all;done)
   | (simp_all;omega)
   | (rw [Bool.eq_iff_iff];simp_all;omega)
set_option maxRecDepth 20000 in
theorem ctl_cb {r:Nat} (hr:r≤1114111) (w:World) :
  Calls Tryz.prog 43 #[.int .i32 (r:Int)] w fun en w'=>en=.returned (.bool (decide (r<32)))∧Below w.heap.size w w':=by
 have HB:=Lib.hid (Below.refl w.heap.size w)
 go_enter Tryz.func43,Tryz.ntmps43
 go_wp2_with (fail)
 go_ret
 refine⟨congrArg Ending.returned (congrArg Value.bool ?_),HB.out⟩
 show _=decide (r<32)
 first
  | rfl
  | (simp;done)
  | (rw [decide_eq_decide];omega)
set_option maxRecDepth 20000 in
theorem nbare_cb {r bb:Nat} (hr:r≤1114111) (w:World) (hb:w.cell? ⟨bb,0,none⟩=some (.func (.func 39) #[] #[])) :
  Calls Tryz.prog 41 #[.int .i32 (r:Int),.pointer (some ⟨bb,0,none⟩)] w fun en w'=>en=.returned (.bool (!bareI r))∧Below w.heap.size w w':=by
 have DB:=Lib.hid (bare_cb hr w)
 generalize bareI r=v at *
 go_enter Tryz.func41,Tryz.ntmps41
 go_wp2_with (go_at_call 39;((with_reducible refine(DB.out).mono ?_));rintro en w1 ⟨rfl,hb1⟩)
 go_ret
 exact⟨rfl,hb1⟩
end Go.Proofs.YtnnnagnjikdnnaaGreatDoor
namespace Go.Proofs.YtnnnagnjikdnnaaGreatDoor
open Go.RowKit
theorem rune_any {p:Nat→Bool} {hi:Bool} (hp:∀x,128≤x→p x=hi) {l:List Nat} (hb:By l) (hne:l≠[]):l.any p=(p (decL l).1 || (l.drop (decL l).2).any p):=by
 cases l with
 | nil=>exact absurd rfl hne
 | cons c t=>
  by_cases hc:c<128
  ·rw [decL_ascii t hc]
   rfl
  ·have key:p (decL (c :: t)).1=hi∧∀x∈(c :: t).take (decL (c :: t)).2,p x=hi:=by
    by_cases hv:decL (c :: t)=(65533,1)
    ·rw [hv]
     exact⟨hp _ (by decide),fun x hx=>by
      have:x=c:=by simpa using hx
      subst this
      exact hp _ (by omega)⟩
    ·obtain⟨h1,h2⟩:=decL_high hb hc hv
     exact⟨hp _ h1,fun x hx=>hp x (h2 x hx)⟩
   have hk:=(decL_bd (c :: t)).2
   have h3:((c :: t).take (decL (c :: t)).2).any p=hi:=by
    obtain⟨k,hk2⟩:∃k,(decL (c :: t)).2=k+1:=⟨(decL (c :: t)).2 - 1,by omega⟩
    rw [hk2] at key ⊢
    cases hi with
    | true=>
     rw [List.any_eq_true]
     exact⟨c,by simp,key.2 c (by simp)⟩
    | false=>
     rw [List.any_eq_false]
     intro x hx
     rw [key.2 x hx]
     decide
   rw [key.1,←h3,←List.any_append,List.take_append_drop]
set_option maxRecDepth 20000 in
set_option maxHeartbeats 4000000 in
theorem ixf_key {p:Nat→Bool} {hi:Bool} (hp:∀x,128≤x→p x=hi) {l:List Nat} (hl:By l) (hlen:l.length≤100000) {bb:Nat} (w:World)
  (DF:∀(r:Nat) (w':World),r≤1114111→Below w.heap.size w w'→Calls Tryz.prog 41 #[.int .i32 (r:Int),.pointer (some ⟨bb,0,none⟩)] w' fun e w''=>e=.returned (.bool (p r))∧Below w'.heap.size w' w'') :
  Calls Tryz.prog 107 #[.string (mks l),.func (.func 41) #[] #[.pointer (some ⟨bb,0,none⟩)],.bool true] w fun e w'=>(∃z:Int,e=.returned (.int .i64 z)∧decide (0≤z)=l.any p)∧Below w.heap.size w w':=by
 have HD:=Lib.hid DF
 have HL:=Lib.hid hl
 have HP:=Lib.hid hp
 clear DF hl hp
 obtain⟨v,hv⟩:∃v,Hid (l.any p=v):=⟨_,rfl⟩
 go_enter Tryz.func107,Tryz.ntmps107
 go_wp2_with (fail)
 go_loopw [7] (fun _ wr=>∃pos:Nat,wr.heap[w.heap.size]? = some (.stringIter (mks l) pos)∧Hid (Below w.heap.size w wr)∧pos≤l.length∧Hid (l.any p=(l.drop pos).any p)) (fun _ wr=>l.length - wr.iterPos w.heap.size)
 case atStart=>
  refine⟨0,?_,?_,Nat.zero_le _,rfl⟩
  ·have:=World.iter_heap w (mks l) 0
   simpa using this
  ·exact(Below.refl _ w).alloc (Nat.le_refl _) _
 case round=>
  obtain⟨pos,hit,hbw,hpl,hany⟩:=hrel
  have hsz:w.heap.size<wr.heap.size:=(Array.getElem?_eq_some_iff.1 hit).1
  by_cases hp:pos<l.length
  ·have hne:l.drop pos≠[]:=by intro h;have:=congrArg List.length h;simp at this;omega
   have hnx0:∀ty,(Instr.next (.pointer (some ⟨w.heap.size,0,none⟩)) true ty).run Tryz.prog wr=_:=fun ty=>Lib.run_next_any_at wr w.heap.size (mks l) pos ty hit (by rw [size_mks];exact hp)
   rw [decode_drop] at hnx0
   have hd:=decL_bd (l.drop pos)
   have hra:=rune_any HP.out (HL.out.dropped pos) hne
   have hkl:(decL (l.drop pos)).2≤(l.drop pos).length:=by
    have:=Lib.decodeL_le (u8s (l.drop pos)) (by intro h;exact hne (List.map_eq_nil_iff.1 h))
    rw [show(u8s (l.drop pos)).length=(l.drop pos).length by unfold u8s;rw [List.length_map]] at this
    exact this
   rw [List.length_drop] at hkl
   generalize hdd:decL (l.drop pos)=d at *
   obtain⟨r,k⟩:=d
   simp only at hd hkl hra hnx0
   rw [List.drop_drop] at hra
   have hit2:=Lib.iterAt_heap wr w.heap.size (mks l) pos (pos+k) hit
   have hbw2:=Lib.hid (Lib.below_iterAt hbw.out (k:=w.heap.size) (by omega) (mks l) (pos+k))
   have hsz2:w.heap.size≤(wr.iterAt w.heap.size (mks l) (pos+k)).heap.size:=by rw [Lib.iterAt_size];omega
   have hsz3:w.heap.size<(wr.iterAt w.heap.size (mks l) (pos+k)).heap.size:=by rw [Lib.iterAt_size];exact hsz
   have HIT2:=Lib.hid hit2
   have DR:=Lib.hid (HD.out r _ hd.1 hbw2.out)
   have HRA:=Lib.hid hra
   obtain⟨b,hb⟩:∃b,p r=b:=⟨_,rfl⟩
   rw [hb] at DR
   have HPB:=Lib.hid hb
   have hk1:=hd.2
   clear hit2 hra hdd hne hd hb
   cases b with
   | true=>
    go_wp2_with (go_at_call 41;((with_reducible refine DR.out.mono ?_));rintro e w2 ⟨rfl,hb2⟩)
    go_ret
    refine⟨⟨(pos:Int),rfl,?_⟩,hbw2.out.trans (hb2.mono hsz2)⟩
    rw [hany.out,HRA.out,HPB.out]
    simp
   | false=>
    go_wp2_with (go_at_call 41;((with_reducible refine DR.out.mono ?_));rintro e w2 ⟨rfl,hb2⟩)
    have hit3:=(hb2.block w.heap.size hsz3).trans HIT2.out
    go_roundw
    case rel=>exact⟨pos+k,hit3,hbw2.out.trans (hb2.mono hsz2),by omega,by show _=_;rw [hany.out,HRA.out,HPB.out];rfl⟩
    case measure=>
     simp only [World.iterPos,hit3,hit]
     omega
  ·have hnx0:∀ty,(Instr.next (.pointer (some ⟨w.heap.size,0,none⟩)) true ty).run Tryz.prog wr=_:=fun ty=>Lib.run_next_end_at wr w.heap.size (mks l) pos ty hit (by rw [size_mks];exact hp)
   have hd:l.drop pos = []:=List.drop_eq_nil_of_le (by omega)
   have ha:=hany.out
   rw [hd] at ha
   have HA:=Lib.hid ha
   clear hd ha hany
   go_wp2_with (fail)
   go_ret
   refine⟨⟨-1,rfl,?_⟩,hbw.out⟩
   rw [HA.out]
   rfl
theorem con_key {p:Nat→Bool} {hi:Bool} (hp:∀x,128≤x→p x=hi) {l:List Nat} (hl:By l) (hlen:l.length≤100000) {bb:Nat} (w:World)
  (DF:∀(r:Nat) (w':World),r≤1114111→Below w.heap.size w w'→Calls Tryz.prog 41 #[.int .i32 (r:Int),.pointer (some ⟨bb,0,none⟩)] w' fun e w''=>e=.returned (.bool (p r))∧Below w'.heap.size w' w'') :
  Calls Tryz.prog 40 #[.string (mks l),.func (.func 41) #[] #[.pointer (some ⟨bb,0,none⟩)]] w fun e w'=>e=.returned (.bool (l.any p))∧Below w.heap.size w w':=by
 have D:=Lib.hid (ixf_key (bb:=bb) hp hl hlen w DF)
 have D2:Hid (Calls Tryz.prog 73 #[.string (mks l),.func (.func 41) #[] #[.pointer (some ⟨bb,0,none⟩)]] w fun e w'=>(∃z:Int,e=.returned (.int .i64 z)∧decide (0≤z)=l.any p)∧Below w.heap.size w w'):=by
  clear DF
  go_enter Tryz.func73,Tryz.ntmps73
  go_wp2_with (go_at_call 107;((with_reducible refine D.out.mono ?_));rintro e w1 ⟨⟨z,rfl,hz⟩,hb1⟩)
  go_ret
  exact⟨⟨z,rfl,hz⟩,hb1⟩
 clear DF D
 generalize l.any p=v at *
 go_enter Tryz.func40,Tryz.ntmps40
 go_wp2_with (go_at_call 73;((with_reducible refine D2.out.mono ?_));rintro e w1 ⟨⟨z,rfl,hz⟩,hb1⟩;have HZ:=Lib.hid hz;have HB1:=Lib.hid hb1;clear hz hb1)
 go_ret
 exact⟨by rw [←HZ.out];rfl,HB1.out⟩
set_option maxRecDepth 20000 in
set_option maxHeartbeats 4000000 in
theorem ixf_val {p:Nat→Bool} {hi:Bool} (hp:∀x,128≤x→p x=hi) {l:List Nat} (hl:By l) (hlen:l.length≤100000) {bb:Nat} (w:World)
  (DF:∀(r:Nat) (w':World),r≤1114111→Below w.heap.size w w'→Calls Tryz.prog 43 #[.int .i32 (r:Int)] w' fun e w''=>e=.returned (.bool (p r))∧Below w'.heap.size w' w'') :
  Calls Tryz.prog 107 #[.string (mks l),.func (.func 43) #[] #[],.bool true] w fun e w'=>(∃z:Int,e=.returned (.int .i64 z)∧decide (0≤z)=l.any p)∧Below w.heap.size w w':=by
 have HD:=Lib.hid DF
 have HL:=Lib.hid hl
 have HP:=Lib.hid hp
 clear DF hl hp
 obtain⟨v,hv⟩:∃v,Hid (l.any p=v):=⟨_,rfl⟩
 go_enter Tryz.func107,Tryz.ntmps107
 go_wp2_with (fail)
 go_loopw [7] (fun _ wr=>∃pos:Nat,wr.heap[w.heap.size]? = some (.stringIter (mks l) pos)∧Hid (Below w.heap.size w wr)∧pos≤l.length∧Hid (l.any p=(l.drop pos).any p)) (fun _ wr=>l.length - wr.iterPos w.heap.size)
 case atStart=>
  refine⟨0,?_,?_,Nat.zero_le _,rfl⟩
  ·have:=World.iter_heap w (mks l) 0
   simpa using this
  ·exact(Below.refl _ w).alloc (Nat.le_refl _) _
 case round=>
  obtain⟨pos,hit,hbw,hpl,hany⟩:=hrel
  have hsz:w.heap.size<wr.heap.size:=(Array.getElem?_eq_some_iff.1 hit).1
  by_cases hp:pos<l.length
  ·have hne:l.drop pos≠[]:=by intro h;have:=congrArg List.length h;simp at this;omega
   have hnx0:∀ty,(Instr.next (.pointer (some ⟨w.heap.size,0,none⟩)) true ty).run Tryz.prog wr=_:=fun ty=>Lib.run_next_any_at wr w.heap.size (mks l) pos ty hit (by rw [size_mks];exact hp)
   rw [decode_drop] at hnx0
   have hd:=decL_bd (l.drop pos)
   have hra:=rune_any HP.out (HL.out.dropped pos) hne
   have hkl:(decL (l.drop pos)).2≤(l.drop pos).length:=by
    have:=Lib.decodeL_le (u8s (l.drop pos)) (by intro h;exact hne (List.map_eq_nil_iff.1 h))
    rw [show(u8s (l.drop pos)).length=(l.drop pos).length by unfold u8s;rw [List.length_map]] at this
    exact this
   rw [List.length_drop] at hkl
   generalize hdd:decL (l.drop pos)=d at *
   obtain⟨r,k⟩:=d
   simp only at hd hkl hra hnx0
   rw [List.drop_drop] at hra
   have hit2:=Lib.iterAt_heap wr w.heap.size (mks l) pos (pos+k) hit
   have hbw2:=Lib.hid (Lib.below_iterAt hbw.out (k:=w.heap.size) (by omega) (mks l) (pos+k))
   have hsz2:w.heap.size≤(wr.iterAt w.heap.size (mks l) (pos+k)).heap.size:=by rw [Lib.iterAt_size];omega
   have hsz3:w.heap.size<(wr.iterAt w.heap.size (mks l) (pos+k)).heap.size:=by rw [Lib.iterAt_size];exact hsz
   have HIT2:=Lib.hid hit2
   have DR:=Lib.hid (HD.out r _ hd.1 hbw2.out)
   have HRA:=Lib.hid hra
   obtain⟨b,hb⟩:∃b,p r=b:=⟨_,rfl⟩
   rw [hb] at DR
   have HPB:=Lib.hid hb
   have hk1:=hd.2
   clear hit2 hra hdd hne hd hb
   cases b with
   | true=>
    go_wp2_with (go_at_call 43;((with_reducible refine DR.out.mono ?_));rintro e w2 ⟨rfl,hb2⟩)
    go_ret
    refine⟨⟨(pos:Int),rfl,?_⟩,hbw2.out.trans (hb2.mono hsz2)⟩
    rw [hany.out,HRA.out,HPB.out]
    simp
   | false=>
    go_wp2_with (go_at_call 43;((with_reducible refine DR.out.mono ?_));rintro e w2 ⟨rfl,hb2⟩)
    have hit3:=(hb2.block w.heap.size hsz3).trans HIT2.out
    go_roundw
    case rel=>exact⟨pos+k,hit3,hbw2.out.trans (hb2.mono hsz2),by omega,by show _=_;rw [hany.out,HRA.out,HPB.out];rfl⟩
    case measure=>
     simp only [World.iterPos,hit3,hit]
     omega
  ·have hnx0:∀ty,(Instr.next (.pointer (some ⟨w.heap.size,0,none⟩)) true ty).run Tryz.prog wr=_:=fun ty=>Lib.run_next_end_at wr w.heap.size (mks l) pos ty hit (by rw [size_mks];exact hp)
   have hd:l.drop pos = []:=List.drop_eq_nil_of_le (by omega)
   have ha:=hany.out
   rw [hd] at ha
   have HA:=Lib.hid ha
   clear hd ha hany
   go_wp2_with (fail)
   go_ret
   refine⟨⟨-1,rfl,?_⟩,hbw.out⟩
   rw [HA.out]
   rfl
theorem con_val {p:Nat→Bool} {hi:Bool} (hp:∀x,128≤x→p x=hi) {l:List Nat} (hl:By l) (hlen:l.length≤100000) {bb:Nat} (w:World)
  (DF:∀(r:Nat) (w':World),r≤1114111→Below w.heap.size w w'→Calls Tryz.prog 43 #[.int .i32 (r:Int)] w' fun e w''=>e=.returned (.bool (p r))∧Below w'.heap.size w' w'') :
  Calls Tryz.prog 40 #[.string (mks l),.func (.func 43) #[] #[]] w fun e w'=>e=.returned (.bool (l.any p))∧Below w.heap.size w w':=by
 have D:=Lib.hid (ixf_val (bb:=bb) hp hl hlen w DF)
 have D2:Hid (Calls Tryz.prog 73 #[.string (mks l),.func (.func 43) #[] #[]] w fun e w'=>(∃z:Int,e=.returned (.int .i64 z)∧decide (0≤z)=l.any p)∧Below w.heap.size w w'):=by
  clear DF
  go_enter Tryz.func73,Tryz.ntmps73
  go_wp2_with (go_at_call 107;((with_reducible refine D.out.mono ?_));rintro e w1 ⟨⟨z,rfl,hz⟩,hb1⟩)
  go_ret
  exact⟨⟨z,rfl,hz⟩,hb1⟩
 clear DF D
 generalize l.any p=v at *
 go_enter Tryz.func40,Tryz.ntmps40
 go_wp2_with (go_at_call 73;((with_reducible refine D2.out.mono ?_));rintro e w1 ⟨⟨z,rfl,hz⟩,hb1⟩;have HZ:=Lib.hid hz;have HB1:=Lib.hid hb1;clear hz hb1)
 go_ret
 exact⟨by rw [←HZ.out];rfl,HB1.out⟩
end Go.Proofs.YtnnnagnjikdnnaaGreatDoor
