/- The walk of armor's Hex. -/
import Derived.Test.YtgbkbgiogdhnaaaGreatDoorMCg
import Derived.Test.YtgbkbgiogdhnaaaGreatDoorMAf
import Derived.Test.YtgbkbgiogdhnaaaGreatDoorMAb
import Derived.BigQuiet
import Derived.Test.YtgbkbgiogdhnaaaGreatDoorMAg
set_option linter.unusedVariables false
set_option linter.unusedSimpArgs false
set_option linter.defProp false
set_option linter.constructorNameAsVariable false
namespace Go.Proofs.YtgbkbgiogdhnaaaGreatDoor
open Go.RowKit
def hexV (l:List Nat):List Nat:=l.flatMap fun c=>[hexd (c / 16),hexd (c % 16)]
theorem hexV_len (l:List Nat):(hexV l).length=2*l.length:=by
 induction l with
 | nil=>rfl
 | cons c l ih=>unfold hexV at ih ⊢;rw [List.flatMap_cons,List.length_append,ih,List.length_cons];simp;omega
theorem hexV_take {l:List Nat} {k c:Nat} (h:l[k]? = some c):hexV (l.take (k+1))=hexV (l.take k) ++ [hexd (c / 16),hexd (c % 16)]:=by
 rw [List.take_add_one,h]
 simp [hexV]
theorem and15 (c:Nat):bits .and .u8 (c:Int) 15=((c % 16:Nat):Int):=by
 unfold bits
 show IntKind.u8.wrap (((c % 256 &&& 15 % 256:Nat)):Int)=_
 have e:c % 256 &&& 15 % 256=c % 16:=by
  have:=Nat.and_two_pow_sub_one_eq_mod (c % 256) 4
  simp at this ⊢
  omega
 rw [e]
 simp [IntKind.wrap,IntKind.bits]
 omega
set_option maxRecDepth 100000 in
theorem hex_ix (d:Nat) (hc:d<16) (w:World):(Instr.index 9 (.string ⟨#[48,49,50,51,52,53,54,55,56,57,97,98,99,100,101,102]⟩) (.int .u8 (d:Int))).run Tryz.prog w=.ok (.int .u8 ((hexd d:Nat):Int)) w:=by
 have e:d=0∨d=1∨d=2∨d=3∨d=4∨d=5∨d=6∨d=7∨d=8∨d=9∨d=10∨d=11∨d=12∨d=13∨d=14∨d=15:=by omega
 rcases e with rfl | rfl | rfl | rfl | rfl | rfl | rfl | rfl | rfl | rfl | rfl | rfl | rfl | rfl | rfl | rfl <;> rfl
section
variable {P:Program} {w:World} {ops:Array Oper} {o:Oper} {a:Act} {K:Act→World→Prop} {E:Prop} {Q:Exit→Act→World→Prop}
theorem step_ap2 (hg:o.guard=none) (s x:Operand) (t:TypeId) (ho:o.op=.call { callee:=.builtin .append,args:=#[s,x],argTypes:=#[t,t] }) (base:Nat) (e:TypeId) (z:Value) (bytes:Nat)
  (ht:P.underlying t=some (.slice e)) (h2:(P.info? e).map (fun i=>(i.zero,i.size,i.bytes))=some (some z,1,bytes)) (hz:z.cells=#[z])
  (v:Value) (n:Nat) (xs:List Value) (hs:a.eval s=v) (hown:w.ownsRow base e 1 v n xs) (ad:Addr) (c:Nat) (u u2:Value) (hx:a.eval x=.slice (some ad) 2 c)
  (hc:∀(j:Nat) (y:Value),[u,u2][j]? = some y→w.cell? (ad.add j)=some y) (h1:u.oneCell'=true) (h12:u2.oneCell'=true) (hm:n+2≤maxLen) (hb:(n+2)*bytes≤140737488355328) (hbase:base≤w.heap.size)
  (hK:∀v' w',w'.ownsRow base e 1 v' (n+2) (xs ++ [u,u2])→w.grownBy w' v.ownBlock→K (a.put o.dst v') w') :
  if Region.wanted o (yielded ops a.tmps)=true then Oper.wp P o a w K Q else E:=by
 have hw:Region.wanted o (yielded ops a.tmps)=true:=by simp [Region.wanted,hg]
 rw [if_pos hw]
 obtain⟨i,hi,hz1,hz2,hz3⟩:=info_parts h2
 refine wp_append_own w s x t ho base e i z 1 bytes ht hi hz1 hz2 hz3 (by rw [hz];rfl) (by decide) v n xs hs hown ad 2 c [u,u2] hx rfl hc ?_ hm hb hbase (fun v' w' h3 h4 _=>hK v' w' h3 h4)
 ·intro y hy;simp at hy;exact hy.elim (fun e=>e▸h1) (fun e=>e▸h12)
end
theorem hxB {w wr w3:World} {gb k co:Nat} {Ao:Option Addr} {o:Obj} {xs:List Value} (hB:Below gb w wr) (hg:gb≤wr.heap.size) (hO:wr.ownsRow gb 5 1 (.slice Ao (2*k) co) (2*k) xs) (h:(wr.alloc o).drew.grownBy w3 (Value.slice Ao (2*k) co).ownBlock):Below gb w w3:=
 hB.trans (((Below.refl gb wr).alloc hg o).drew.trans ⟨h.os,h.tape,h.output,h.size,fun j hj=>h.block j (by simp;omega) (fun e=>by have:=(hO.lt j e.symm).1;omega)⟩)
set_option maxRecDepth 20000 in
set_option maxHeartbeats 4000000 in
theorem hex_any (l:List Nat) (hl:By l) (hlen:l.length≤100000) (w:World) :
  Calls Tryz.prog 39 #[.string (mks l)] w fun e w'=>e=.returned (.string (mks (hexV l)))∧Below w.heap.size w w':=by
 obtain⟨n,hn⟩:∃n,l.length=n:=⟨_,rfl⟩
 have HN:=Lib.hid hn
 have HL:=Lib.hid hl
 have hsz:(mks l).size=n:=by rw [size_mks];exact hn
 rw [hn] at hlen
 clear hl hn
 go_enter Tryz.func39,Tryz.ntmps39
 go_upto_region 2 with(at_make;go_loud (refine wpList_mk rfl _ _ 50 rfl 5 _ _ Tryz.underlying50 Tryz.info5 rfl _ _ _ _ rfl rfl (0) (2*n) (by omega) (by omega) (by omega) (by omega) (by unfold maxLen;omega) ?_;intro ob w2 hob hO hb2 hz2))
 have hOw:Hid (w2.ownsRow w.heap.size 5 1 (.slice (some ⟨ob,0,none⟩) 0 (2*n)) 0 (B8 (hexV (l.take 0)))):=by
  have h:=arr_own (n:=0) (c:=2*n) hO.out (Nat.le_of_eq hob.out.symm) (Nat.zero_le _) (by simp) (by unfold maxLen;omega)
  rw [List.take_zero] at h
  exact h
 obtain⟨gb,hgb⟩:∃b,w.heap.size=b:=⟨_,rfl⟩
 have hBd:Hid (Below gb w w2):=by rw [←hgb];exact hb2
 have hgw:gb≤w2.heap.size:=by have:=hb2.size;omega
 rw [hgb] at hOw
 have HGB:=Lib.hid hgb
 clear hO hob hb2 hz2 hgb
 go_wp2_with (fail)
 go_loopw [3,11] (fun sv iv wr=>∃k:Nat,k≤n∧iv=.int .i64 (k:Int)∧Hid (wr.ownsRow gb 5 1 sv (2*k) (B8 (hexV (l.take k))))∧Hid (Below gb w wr)∧gb≤wr.heap.size) (fun _ iv _=>n - (intOf iv).toNat)
 case atStart=>exact⟨0,Nat.zero_le _,rfl,hOw,hBd,hgw⟩
 case round=>
  obtain⟨k,hk,rfl,hO,hB,hg⟩:=hrel
  obtain⟨Ao,co,hvs,hco,hco2⟩:=own_slice hO.out
  subst hvs
  by_cases hlt:k<n
  ·obtain⟨c,hc⟩:∃c,l[k]? = some c:=⟨_,List.getElem?_eq_getElem (by have:=HN.out;omega)⟩
   have cb:=HL.out.get hc
   have hgt:=get_mks hc cb (by rw [hsz];exact hlt)
   have hlt':(k:Int)<n:=by omega
   go_upto_region 5 with(fail)
   have r3:∀w,(Instr.index 9 (.string ⟨#[48,49,50,51,52,53,54,55,56,57,97,98,99,100,101,102]⟩) (.int .u8 ((c / 16:Nat):Int))).run Tryz.prog w=.ok (.int .u8 ((hexd (c / 16):Nat):Int)) w:=hex_ix (c / 16) (by omega)
   have r4:∀w,(Instr.index 9 (.string ⟨#[48,49,50,51,52,53,54,55,56,57,97,98,99,100,101,102]⟩) (.int .u8 ((c % 16:Nat):Int))).run Tryz.prog w=.ok (.int .u8 ((hexd (c % 16):Nat):Int)) w:=hex_ix (c % 16) (by omega)
   have r1:(c:Int) / 16=((c / 16:Nat):Int):=by omega
   have r2:bits .and .u8 (c:Int) 15=((c % 16:Nat):Int):=and15 c
   have HH:=Lib.hid (hexV_take hc)
   generalize hexd (c / 16)=x1 at *
   generalize hexd (c % 16)=x2 at *
   generalize c / 16=q1 at *
   generalize c % 16=q2 at *
   have hgd:gb≤wr.drew.heap.size:=hg
   have hOd:wr.drew.ownsRow gb 5 1 (.slice Ao (2*k) co) (2*k) (B8 (hexV (l.take k))):=hO.out
   go_region_held3 (fun _=>True) (first | trivial | go_keep) ((refine step_ap2 rfl (.tmp 14) (.tmp 25) 50 rfl gb 5 _ _ Tryz.underlying50 Tryz.info5 rfl _ (2*k) (B8 (hexV (l.take k))) rfl (hOd.alloc _) ⟨wr.drew.heap.size,0,none⟩ _ (.int .u8 (x1:Int)) (.int .u8 (x2:Int)) rfl (cells_new _ _ _) rfl rfl (by unfold maxLen;omega) (by omega) (by simp;omega) ?_;intro v3 w3 hown3 hgr3))
   all_goals
    have hgr4:(wr.alloc (.cells #[.int .u8 (x1:Int),.int .u8 (x2:Int)] 5)).drew.grownBy w3 (Value.slice Ao (2*k) co).ownBlock:=hgr3
    have hB4:Hid (Below gb w w3):=hxB hB.out hg hO.out hgr4
    have hs4:gb≤w3.heap.size:=by have:=hgr4.size;simp at this;omega
    have hO4:Hid (w3.ownsRow gb 5 1 v3 (2*(k+1)) (B8 (hexV (l.take (k+1))))):=by
     rw [HH.out,B8_append]
     exact hown3
    clear hgr3 hgr4 hown3
    go_wp2_with (fail)
    go_roundw
    case rel=>exact⟨k+1,by omega,i64e (by omega),hO4,hB4,hs4⟩
    case measure=>simp [intOf];omega
  ·obtain rfl:k=n:=by omega
   have hd:l.take k=l:=List.take_of_length_le (by have:=HN.out;omega)
   rw [hd] at hO
   obtain⟨A3,c3,hv3,hl3,hc3,hm3,hr3,_⟩:=own_rd hO.out
   injection hv3 with e1 e2 e3
   subst e1 e3
   have hcv:=run_str (P:=Tryz.prog) wr 50 9 5 Tryz.underlying50 Tryz.underlying5 Tryz.underlying9 Ao (2*k) co _ hr3 (by rw [hexV_len,HN.out])
   go_wp2_with (fail)
   go_ret
   exact⟨rfl,by rw [HGB.out];exact hB.out⟩
end Go.Proofs.YtgbkbgiogdhnaaaGreatDoor
namespace Go.Proofs.YtgbkbgiogdhnaaaGreatDoor
open Go.RowKit
theorem lit4 (a b c d:UInt8):(ByteArray.mk #[a,b,c,d]:ByteArray)=mks [a.toNat,b.toNat,c.toNat,d.toNat]:=by simp [mks]
theorem escL_take {l:List Nat} {k c:Nat} (h:l[k]? = some c):escL (l.take (k+1))=escL (l.take k) ++ escB c:=by
 rw [List.take_add_one,h,escL_app]
 simp [escL]
end Go.Proofs.YtgbkbgiogdhnaaaGreatDoor
namespace Go.Proofs.YtgbkbgiogdhnaaaGreatDoor
open Go.RowKit
theorem str_B8 {ys:List Nat} (h:By ys):Lib.strCells (mks ys)=B8 ys:=by
 unfold Lib.strCells mks B8
 rw [List.map_map]
 refine List.map_congr_left (fun c hc=>?_)
 have:=h c hc
 show Value.int .u8 (((UInt8.ofNat c).toNat:Nat):Int)=_
 have e:(UInt8.ofNat c).toNat=c:=by simp;omega
 rw [e]
theorem PrAt.keep {B b:Nat} {p n r l:Value} {bs:List Value} {w w':World} {z:Nat} (h:PrAt B b p n r l bs w) (hz:w.heap.size=z) (hb:Below z w w'):PrAt B b p n r l bs w':=h.below (by rw [hz];exact hb)
def PrI (B b:Nat) (n r l:Value) (w wr:World) (a:List Nat):Prop:=PrU B b n r l (B8 a) wr∧Below B w wr∧Others b w wr∧B≤wr.heap.size
theorem PrI.next {B b:Nat} {n r l:Value} {w wr w2:World} {a a2:List Nat} {bs:List Value} (h:PrI B b n r l w wr a) (h2:PrU B b n r l bs w2) (hb:Below B wr w2) (ho:Others b wr w2) (e:bs=B8 a2):PrI B b n r l w w2 a2:=
 ⟨e▸h2,h.2.1.trans hb,h.2.2.1.trans ho,Nat.le_trans h.2.2.2 hb.size⟩
theorem PrI.pf {B b:Nat} {n r l:Value} {w wr:World} {a:List Nat} (h:PrI B b n r l w wr a):PrF B b n r l (B8 a) wr:=.inr h.1
theorem two_le {bs:List Value} {x y:UInt8} (h:bs.length+2≤140737488355328):bs.length+(ByteArray.mk #[x,y]).size≤140737488355328:=h
theorem PrI.le {B b:Nat} {n r l:Value} {w wr:World} {a:List Nat} (h:PrI B b n r l w wr a):B≤wr.heap.size:=h.2.2.2
theorem PrI.kept {B b:Nat} {n r l:Value} {w wr w2:World} {a:List Nat} (h:PrI B b n r l w wr a) (hb:Below wr.heap.size wr w2):PrI B b n r l w w2 a:=
 ⟨h.1.below hb,h.2.1.trans (hb.mono h.2.2.2),h.2.2.1.trans (fun k _ hk _ _=>(hb.block k (Array.getElem?_eq_some_iff.1 hk).1).trans hk),Nat.le_trans h.2.2.2 hb.size⟩
theorem by4:By ([(92:UInt8).toNat,(117:UInt8).toNat,(48:UInt8).toNat,(48:UInt8).toNat]):=by intro y hy;simp at hy;omega
theorem len_B8 (a:List Nat):(B8 a).length=a.length:=by simp [B8]
set_option maxRecDepth 20000 in
set_option maxHeartbeats 16000000 in
theorem quote_pr (B b:Nat) (n r l:Value) (xs s:List Nat) (hs:By s) (hsl:s.length≤100000) (hxl:xs.length≤4294967296) (w:World) (h:PrF B b n r l (B8 xs) w) (hBw:B≤w.heap.size) :
  Calls Tryz.prog 20 #[.pointer (some ⟨b,0,none⟩),.string (mks s)] w fun e w'=>e=.returned (.tuple #[])∧PrI B b n r l w w' (xs ++ quoteV s):=by
 obtain⟨m,hm⟩:∃m,s.length=m:=⟨_,rfl⟩
 have HM:=Lib.hid hm
 have HL:=Lib.hid hs
 have HP:=Lib.hid h
 have hsz:(mks s).size=m:=by rw [size_mks];exact hm
 rw [hm] at hsl
 clear hs h hm
 go_enter Tryz.func20,Tryz.ntmps20
 go_upto_region 1 with(go_at_call 38;((with_reducible refine(pr_byte B b n r l _ _ _ HP.out (by rw [len_B8];omega) hBw).mono ?_));rintro e w1 ⟨rfl,hP1,hb1,ho1⟩)
 have hI0:Hid (PrI B b n r l w w1 (xs ++ 34 :: escL (s.take 0))):=⟨by rw [B8_append];exact hP1,hb1,ho1,Nat.le_trans hBw hb1.size⟩
 clear hP1 hb1 ho1 HP
 go_wp2_with (fail)
 go_loopw [12] (fun iv wr=>∃k:Nat,k≤m∧iv=.int .i64 (k:Int)∧Hid (PrI B b n r l w wr (xs ++ 34 :: escL (s.take k)))) (fun iv _=>m - (intOf iv).toNat)
 case atStart=>exact⟨0,by omega,rfl,hI0⟩
 case round=>
  obtain⟨k,hk,rfl,hI⟩:=hrel
  have hBr:=hI.out.2.2.2
  by_cases hlt:k<m
  ·obtain⟨c,hc⟩:∃c,s[k]? = some c:=⟨_,List.getElem?_eq_getElem (by have:=HM.out;omega)⟩
   have cb:=HL.out.get hc
   have hg:=get_mks hc cb (by rw [hsz];exact hlt)
   have hlt':(k:Int)<m:=by omega
   have hsn:xs ++ 34 :: escL (s.take (k+1))=(xs ++ 34 :: escL (s.take k)) ++ escB c:=by rw [escL_take hc];simp
   have hal:(B8 (xs ++ 34 :: escL (s.take k))).length≤4295967296:=by
    have:=(escL_len (s.take k)).2
    rw [List.length_take] at this
    rw [len_B8,List.length_append,List.length_cons];omega
   have hsub:((s.take (k+1)).drop k) = [c]:=by
    have hml:=HM.out
    rw [List.take_add_one,hc,List.drop_append_of_le_length (by rw [List.length_take];omega),List.drop_of_length_le (by rw [List.length_take];omega)]
    rfl
   have HSub:=Lib.hid hsub
   have HS:=Lib.hid hsn
   generalize xs ++ 34 :: escL (s.take k)=a at *
   clear hsub hsn
   by_cases h34:c=34
   ·subst h34
    go_upto_region 8 with(go_at_call 38;((with_reducible refine(pr_byte B b n r l _ _ _ hI.out.pf (by omega) hBr).mono ?_));rintro e w2 ⟨rfl,hP2,hb2,ho2⟩)
    have hI2:Hid (PrI B b n r l w w2 (a ++ [92])):=hI.out.next hP2 hb2 ho2 (by rw [B8_append];rfl)
    have hB2:=hI2.out.2.2.2
    have hl2:(B8 (a ++ [92])).length≤4295967297:=by rw [len_B8] at hal;rw [len_B8,List.length_append];simp;omega
    clear hP2 hb2 ho2
    go_wp2_with (go_at_call 38;((with_reducible refine(pr_byte B b n r l _ _ _ hI2.out.pf (by omega) hB2).mono ?_));rintro e w3 ⟨rfl,hP3,hb3,ho3⟩)
    have hI3:Hid (PrI B b n r l w w3 (xs ++ 34 :: escL (s.take (k+1)))):=by rw [HS.out];exact hI2.out.next hP3 hb3 ho3 (by rw [show a ++ escB 34=(a ++ [92]) ++ [34] from by rw [List.append_assoc];rfl,B8_append (a ++ [92])];rfl)
    clear hP3 hb3 ho3
    go_roundw
    case rel=>exact⟨k+1,by omega,i64e (by omega),hI3⟩
    case measure=>simp [intOf];omega
   by_cases h92:c=92
   ·subst h92
    go_upto_region 8 with(go_at_call 38;((with_reducible refine(pr_byte B b n r l _ _ _ hI.out.pf (by omega) hBr).mono ?_));rintro e w2 ⟨rfl,hP2,hb2,ho2⟩)
    have hI2:Hid (PrI B b n r l w w2 (a ++ [92])):=hI.out.next hP2 hb2 ho2 (by rw [B8_append];rfl)
    have hB2:=hI2.out.2.2.2
    have hl2:(B8 (a ++ [92])).length≤4295967297:=by rw [len_B8] at hal;rw [len_B8,List.length_append];simp;omega
    clear hP2 hb2 ho2
    go_wp2_with (go_at_call 38;((with_reducible refine(pr_byte B b n r l _ _ _ hI2.out.pf (by omega) hB2).mono ?_));rintro e w3 ⟨rfl,hP3,hb3,ho3⟩)
    have hI3:Hid (PrI B b n r l w w3 (xs ++ 34 :: escL (s.take (k+1)))):=by rw [HS.out];exact hI2.out.next hP3 hb3 ho3 (by rw [show a ++ escB 92=(a ++ [92]) ++ [92] from by rw [List.append_assoc];rfl,B8_append (a ++ [92])];rfl)
    clear hP3 hb3 ho3
    go_roundw
    case rel=>exact⟨k+1,by omega,i64e (by omega),hI3⟩
    case measure=>simp [intOf];omega
   by_cases h8:c=8
   ·subst h8
    go_wp2_with (go_at_call 16;((with_reducible refine(pr_string B b n r l _ _ _ hI.out.pf (two_le (by omega)) hBr).mono ?_));rintro e w2 ⟨rfl,hP2,hb2,ho2⟩)
    have hI2:Hid (PrI B b n r l w w2 (xs ++ 34 :: escL (s.take (k+1)))):=by rw [HS.out];exact hI.out.next hP2 hb2 ho2 (by rw [B8_append];rfl)
    clear hP2 hb2 ho2
    go_roundw
    case rel=>exact⟨k+1,by omega,i64e (by omega),hI2⟩
    case measure=>simp [intOf];omega
   by_cases h12:c=12
   ·subst h12
    go_wp2_with (go_at_call 16;((with_reducible refine(pr_string B b n r l _ _ _ hI.out.pf (two_le (by omega)) hBr).mono ?_));rintro e w2 ⟨rfl,hP2,hb2,ho2⟩)
    have hI2:Hid (PrI B b n r l w w2 (xs ++ 34 :: escL (s.take (k+1)))):=by rw [HS.out];exact hI.out.next hP2 hb2 ho2 (by rw [B8_append];rfl)
    clear hP2 hb2 ho2
    go_roundw
    case rel=>exact⟨k+1,by omega,i64e (by omega),hI2⟩
    case measure=>simp [intOf];omega
   by_cases h10:c=10
   ·subst h10
    go_wp2_with (go_at_call 16;((with_reducible refine(pr_string B b n r l _ _ _ hI.out.pf (two_le (by omega)) hBr).mono ?_));rintro e w2 ⟨rfl,hP2,hb2,ho2⟩)
    have hI2:Hid (PrI B b n r l w w2 (xs ++ 34 :: escL (s.take (k+1)))):=by rw [HS.out];exact hI.out.next hP2 hb2 ho2 (by rw [B8_append];rfl)
    clear hP2 hb2 ho2
    go_roundw
    case rel=>exact⟨k+1,by omega,i64e (by omega),hI2⟩
    case measure=>simp [intOf];omega
   by_cases h13:c=13
   ·subst h13
    go_wp2_with (go_at_call 16;((with_reducible refine(pr_string B b n r l _ _ _ hI.out.pf (two_le (by omega)) hBr).mono ?_));rintro e w2 ⟨rfl,hP2,hb2,ho2⟩)
    have hI2:Hid (PrI B b n r l w w2 (xs ++ 34 :: escL (s.take (k+1)))):=by rw [HS.out];exact hI.out.next hP2 hb2 ho2 (by rw [B8_append];rfl)
    clear hP2 hb2 ho2
    go_roundw
    case rel=>exact⟨k+1,by omega,i64e (by omega),hI2⟩
    case measure=>simp [intOf];omega
   by_cases h9:c=9
   ·subst h9
    go_wp2_with (go_at_call 16;((with_reducible refine(pr_string B b n r l _ _ _ hI.out.pf (two_le (by omega)) hBr).mono ?_));rintro e w2 ⟨rfl,hP2,hb2,ho2⟩)
    have hI2:Hid (PrI B b n r l w w2 (xs ++ 34 :: escL (s.take (k+1)))):=by rw [HS.out];exact hI.out.next hP2 hb2 ho2 (by rw [B8_append];rfl)
    clear hP2 hb2 ho2
    go_roundw
    case rel=>exact⟨k+1,by omega,i64e (by omega),hI2⟩
    case measure=>simp [intOf];omega
   have t1:((c:Int) == 34)=false:=by simp;omega
   have t2:((c:Int) == 92)=false:=by simp;omega
   have t3:((c:Int) == 8)=false:=by simp;omega
   have t4:((c:Int) == 12)=false:=by simp;omega
   have t5:((c:Int) == 10)=false:=by simp;omega
   have t6:((c:Int) == 13)=false:=by simp;omega
   have t7:((c:Int) == 9)=false:=by simp;omega
   by_cases h32:c<32
   ·have h32':(c:Int)<32:=by omega
    have HE:escB c = [92,117,48,48,hexd (c / 16),hexd (c % 16)]:=by
     unfold escB
     rw [if_neg (by omega),if_neg h8,if_neg h12,if_neg h10,if_neg h13,if_neg h9,if_pos h32]
    have HE2:=Lib.hid HE
    clear HE
    have DX:=hex_any [c] (fun x hx=>by rw [List.mem_singleton.1 hx];exact cb) (by simp)
    rw [←HSub.out] at DX
    obtain⟨hx,hhx⟩:∃x,hexV ((s.take (k+1)).drop k)=x:=⟨_,rfl⟩
    rw [hhx] at DX
    have hxv:hx = [hexd (c / 16),hexd (c % 16)]:=by rw [←hhx,HSub.out];rfl
    have hxl:hx.length=2:=by rw [hxv];rfl
    have hxb:By hx:=by
     rw [hxv]
     have b1:=hexd_lt (c / 16) (by omega)
     have b2:=hexd_lt (c % 16) (by omega)
     intro y hy;simp at hy;omega
    have HXV:=Lib.hid hxv
    have HXB:=Lib.hid hxb
    have DH:=Lib.hid DX
    have hl6:∀x:List Nat,x.length=2→(B8 a).length+(ByteArray.mk #[92,117,48,48] ++ mks x).size≤140737488355328:=fun x hx=>by rw [lit4,append_mks,size_mks,List.length_append,hx];simp;omega
    have HL6:=Lib.hid (hl6 hx hxl)
    have hl7:¬9223372036854775807<4+hx.length:=by omega
    have hl8:hx.length=2:=hxl
    clear DX hhx hxv hxb hl6 hxl
    go_upto_region 20 with(fail)
    have hId:PrI B b n r l w wr.drew a:=⟨hI.out.1.drew,hI.out.2.1.drew,hI.out.2.2.1.drew,hI.out.2.2.2⟩
    have k0:(0:Int)≤k:=by omega
    have k1:(k:Int)+1≤m:=by omega
    have k2:(k:Int)≤(k:Int)+1:=by omega
    have k3:IntKind.i64.wrap ((k:Int)+1)=(k:Int)+1:=by simp [IntKind.wrap,IntKind.bits];omega
    go_region_held3 (fun _=>True) (first | trivial | go_keep) (first | (go_at_call 39;((with_reducible refine(DH.out _).mono ?_));rintro e w3 ⟨rfl,hb3⟩;have hI3:PrI B b n r l w w3 a:=PrI.kept hId hb3) | (go_at_call 16;((with_reducible refine(pr_string B b n r l _ _ _ (PrI.pf hI3) HL6.out (PrI.le hI3)).mono ?_));rintro e w2 ⟨rfl,hP2,hb2,ho2⟩;have hI2:Hid (PrI B b n r l w w2 (xs ++ 34 :: escL (s.take (k+1)))):=by rw [HS.out];exact PrI.next hI3 hP2 hb2 ho2 (by rw [lit4,append_mks,str_B8 (By.append by4 HXB.out),←B8_append,HE2.out,HXV.out];rfl)))
    all_goals
     go_wp2_with (fail)
     go_roundw
     case rel=>exact⟨k+1,by omega,i64e (by omega),hI2⟩
     case measure=>simp [intOf];omega
   ·have h32':¬(c:Int)<32:=by omega
    have HE:escB c = [c]:=by
     unfold escB
     rw [if_neg (by omega),if_neg h8,if_neg h12,if_neg h10,if_neg h13,if_neg h9,if_neg h32]
    have HE2:=Lib.hid HE
    clear HE
    go_wp2_with (go_at_call 38;((with_reducible refine(pr_byte B b n r l _ _ _ hI.out.pf (by omega) hBr).mono ?_));rintro e w2 ⟨rfl,hP2,hb2,ho2⟩)
    have hI2:Hid (PrI B b n r l w w2 (xs ++ 34 :: escL (s.take (k+1)))):=by rw [HS.out,HE2.out];exact hI.out.next hP2 hb2 ho2 (by rw [B8_append];rfl)
    clear hP2 hb2 ho2
    go_roundw
    case rel=>exact⟨k+1,by omega,i64e (by omega),hI2⟩
    case measure=>simp [intOf];omega
  ·obtain rfl:k=m:=by omega
   have hd:s.take k=s:=List.take_of_length_le (by have:=HM.out;omega)
   rw [hd] at hI
   have hal:(B8 (xs ++ 34 :: escL s)).length≤4295967296:=by
    have:=(escL_len s).2
    rw [HM.out] at this
    rw [len_B8,List.length_append,List.length_cons];omega
   have hq:(xs ++ 34 :: escL s) ++ [34]=xs ++ quoteV s:=by simp [quoteV]
   have HQ:=Lib.hid hq
   generalize xs ++ 34 :: escL s=a at *
   clear hd hq
   go_wp2_with (go_at_call 38;((with_reducible refine(pr_byte B b n r l _ _ _ hI.out.pf (by omega) hBr).mono ?_));rintro e w2 ⟨rfl,hP2,hb2,ho2⟩)
   go_end0
   exact⟨rfl,by rw [←HQ.out];exact hI.out.next hP2 hb2 ho2 (by rw [B8_append];rfl)⟩
end Go.Proofs.YtgbkbgiogdhnaaaGreatDoor
namespace Go.Proofs.YtgbkbgiogdhnaaaGreatDoor
open Go.RowKit
def limV2 (l:List Nat):List Nat×Int:=if 65536<l.length then ([],6) else (l,0)
def quoteR (s:List Nat):List Nat×Int:=if checkV s=none then limV2 (quoteV s) else ([],11)
set_option maxRecDepth 8000 in
theorem limited_any (l:List Nat) (hl:l.length≤9000000000000000000) (w:World):Calls Tryz.prog 21 #[.string (mks l)] w fun e w'=>e=.returned (.tuple #[.string (mks (limV2 l).1),.int .i64 (limV2 l).2])∧w=w':=by
 obtain⟨n,hn⟩:∃n,l.length=n:=⟨_,rfl⟩
 have hsz:(mks l).size=n:=by rw [size_mks];exact hn
 have HN:=Lib.hid hn
 rw [hn] at hl
 by_cases h:65536<n
 ·have h':(n:Int) > 65536:=by omega
  have e:limV2 l=([],6):=by unfold limV2;rw [if_pos (by omega)]
  rw [e]
  clear e hn
  go_enter Tryz.func21,Tryz.ntmps21
  go_wp2
  go_ret2
  exact⟨rfl,rfl⟩
 ·have h':¬(n:Int) > 65536:=by omega
  have e:limV2 l=(l,0):=by unfold limV2;rw [if_neg (by omega)]
  rw [e]
  clear e hn
  go_enter Tryz.func21,Tryz.ntmps21
  go_wp2
  go_ret2
  exact⟨rfl,rfl⟩
theorem B8_bytes {l:List Nat} (h:By l):B8 l=Lib.byteCells (l.map UInt8.ofNat):=(str_B8 h).symm
theorem PrF.new (w:World) (n r l:Value):PrF w.heap.size w.heap.size n r l (B8 []) (w.alloc (.cells #[.pointer none,.slice none 0 0,n,r,l] 64)):=
 .inl ⟨Nat.le_refl _,.slice none 0 0,Arr.new w 64 [.pointer none,.slice none 0 0,n,r,l],⟨by simp [B8],.inl ⟨rfl,rfl⟩⟩,by simp [Value.ownBlock]⟩
theorem pr_done {B b:Nat} {n r l:Value} {w wr:World} {a:List Nat} (h:PrI B b n r l w wr a) (ha:By a) (h0:a≠[]) :
  Calls Tryz.prog 18 #[.pointer (some ⟨b,0,none⟩)] wr fun e w'=>e=.returned (.string (mks a))∧Below B wr w'∧Others b wr w':=by
 have h1:=h.1
 rw [B8_bytes ha] at h1
 refine(pr_text B b n r l _ wr h1 (by simp [h0])).mono ?_
 rintro e w' ⟨rfl,hb,ho⟩
 exact⟨rfl,hb,ho⟩
set_option maxRecDepth 20000 in
set_option maxHeartbeats 4000000 in
theorem jquote_any (s:List Nat) (hs:By s) (hsl:s.length≤100000) (w:World) (hw:LibOK w) :
  Calls Tryz.prog 6 #[.string (mks s)] w fun e w'=>e=.returned (.tuple #[.string (mks (quoteR s).1),.int .i64 (quoteR s).2])∧Below w.heap.size w w':=by
 have DC:=Lib.hid (check_any s (by omega) w hw)
 have hqb:=quote_by hs
 have hql:(quoteV s).length≤600002:=by rw [quote_len];have:=(escL_len s).2;omega
 have hq0:quoteV s≠[]:=by simp [quoteV]
 cases hc:checkV s with
 | some k=>
  have e:quoteR s=([],11):=by unfold quoteR;rw [hc];rfl
  rw [e]
  rw [hc] at DC
  clear e hc hqb hql hq0
  go_enter Tryz.func6,Tryz.ntmps6
  go_wp2_with (go_at_call 19;((with_reducible refine DC.out.mono ?_));rintro e w1 ⟨rfl,hb1⟩)
  go_ret2
  exact⟨rfl,hb1⟩
 | none=>
  have e:quoteR s=limV2 (quoteV s):=by unfold quoteR;rw [hc];rfl
  rw [e]
  rw [hc] at DC
  have HB:=Lib.hid hqb
  have HL:=Lib.hid hs
  clear e hc hqb hs hw
  go_enter Tryz.func6,Tryz.ntmps6
  go_upto_region 5 with(go_at_call 19;((with_reducible refine DC.out.mono ?_));rintro e w1 ⟨rfl,hb1⟩)
  have hN:=Lib.hid (PrF.new w1 (.slice none 0 0) (.int .i64 0) (.bool false))
  have hb2:Hid (Below w.heap.size w (w1.alloc (.cells #[.pointer none,.slice none 0 0,.slice none 0 0,.int .i64 0,.bool false] 64))):=hb1.alloc hb1.size _
  have hg2:w1.heap.size≤(w1.alloc (.cells #[.pointer none,.slice none 0 0,.slice none 0 0,.int .i64 0,.bool false] 64)).heap.size:=by simp
  have hg1:w.heap.size≤w1.heap.size:=hb1.size
  generalize w1.alloc (.cells #[.pointer none,.slice none 0 0,.slice none 0 0,.int .i64 0,.bool false] 64)=w2 at *
  generalize w1.heap.size=pb at *
  clear hb1
  go_upto_region 6 with(go_at_call 20;((with_reducible refine(quote_pr pb pb _ _ _ [] s HL.out hsl (by simp) _ hN.out hg2).mono ?_));rintro e w3 ⟨rfl,hI3⟩)
  rw [List.nil_append] at hI3
  have hD:=Lib.hid (pr_done hI3 HB.out hq0)
  have hb3:Hid (Below w.heap.size w w3):=hb2.out.trans (hI3.2.1.mono hg1)
  have DL:=Lib.hid (fun w=>limited_any (quoteV s) (by omega) w)
  clear hI3 hN hb2
  go_wp2_with (first | (go_at_call 18;((with_reducible refine hD.out.mono ?_));rintro e w4 ⟨rfl,hb4,_⟩) | (go_at_call 21;((with_reducible refine(DL.out _).mono ?_));rintro e w5 ⟨rfl,rfl⟩))
  go_ret2
  exact⟨rfl,hb3.out.trans (hb4.mono hg1)⟩
end Go.Proofs.YtgbkbgiogdhnaaaGreatDoor
namespace Go.Proofs.YtgbkbgiogdhnaaaGreatDoor
open Go.RowKit
section
variable {f a:Nat} {l:List Nat} {ts:List JTok} {ns:List JNote}
end
theorem checkG_end {f a:Nat}:checkG f a []=none:=by cases f <;> simp [checkG]
theorem checkG_step {f a:Nat} {l:List Nat} (hne:l≠[]) (h:checkG (f+1) a l=none):decL l≠(65533,1)∧checkG f (a+(decL l).2) (l.drop (decL l).2)=none:=by
 rw [checkG,if_neg hne] at h
 by_cases hd:decL l=(65533,1)
 ·rw [if_pos hd] at h;cases h
 ·rw [if_neg hd] at h;exact⟨hd,h⟩
theorem check_gen {l:List Nat} {f a g b:Nat} (h:checkG f a l=none) (hf:l.length≤f) (hg:l.length≤g):checkG g b l=none:=by
 induction f generalizing l a g b with
 | zero=>have:l = []:=List.eq_nil_of_length_eq_zero (by omega);subst this;exact checkG_end
 | succ f ih=>
  by_cases hne:l = []
  ·subst hne;exact checkG_end
  ·obtain⟨h1,h2⟩:=checkG_step hne h
   have:=List.length_pos_iff.2 hne
   have hk:=(decL_bd l).2
   obtain⟨g,rfl⟩:∃g',g=g'+1:=⟨g - 1,by omega⟩
   rw [checkG,if_neg hne,if_neg h1]
   exact ih h2 (by rw [List.length_drop];omega) (by rw [List.length_drop];omega)
theorem check_ascii {c:Nat} {l:List Nat} (hc:c<128) {g b:Nat}:checkG (g+1) b (c :: l)=checkG g (b+1) l:=by
 have hd:decL (c :: l)=(c,1):=by
  rw [decL_N]
  have:(c :: l).getD 0 0 % 256=c:=by show c % 256=c;omega
  rw [this,Lib.decodeN_ascii _ _ _ _ _ hc]
 rw [checkG,if_neg (by simp),hd,if_neg (by intro e;injection e with e;omega)]
 rfl
end Go.Proofs.YtgbkbgiogdhnaaaGreatDoor
