/- strconv.FormatInt of a control character in base 16. -/
import Derived.Test.YtnnnagnjikdnnaaGreatDoorMBh
import Derived.Test.YtnnnagnjikdnnaaGreatDoorMAd
import Derived.Test.YtnnnagnjikdnnaaGreatDoorMAc
import Derived.Test.YtnnnagnjikdnnaaGreatDoorShelf
import Derived.Test.YtnnnagnjikdnnaaGreatDoorMAu
import Derived.Test.YtnnnagnjikdnnaaGreatDoorMAh
set_option linter.unusedVariables false
set_option linter.unusedSimpArgs false
set_option linter.defProp false
set_option linter.constructorNameAsVariable false
namespace Go.Proofs.YtnnnagnjikdnnaaGreatDoor
open Go.RowKit
def DB16 (w:World):Prop:=w.cell? ⟨6,15,none⟩=some (.int .u8 4)
theorem DB16.keep {w w':World} (h:DB16 w) (hb:Below w.heap.size w w'):DB16 w':=(hb.cell (block_lt_of_cell h)).trans h
set_option maxRecDepth 20000 in
set_option maxHeartbeats 4000000 in
theorem tz64_cb (w:World) (h:DB16 w):Calls Tryz.prog 195 #[.int .u64 16] w fun e w'=>e=.returned (.int .i64 4)∧w'=w:=by
 have h:=h
 unfold DB16 at h
 have e1:bits BinOp.and IntKind.u64 16 (IntKind.u64.wrap (-16))=16:=by decide
 have e2:IntKind.u64.wrap (16*285870213051353865) / 288230376151711744=15:=by decide
 go_enter Tryz.func195,Tryz.ntmps195
 go_wp2
 go_ret
 exact⟨rfl,rfl⟩
theorem tz_cb (w:World) (h:DB16 w):Calls Tryz.prog 163 #[.int .u64 16] w fun e w'=>e=.returned (.int .i64 4)∧w'=w:=by
 have D:=Lib.hid (tz64_cb w h)
 go_enter Tryz.func163,Tryz.ntmps163
 go_wp2_with (go_at_call 195;((with_reducible refine D.out.mono ?_));rintro e w1 ⟨rfl,rfl⟩)
 go_ret
 exact⟨rfl,rfl⟩
theorem pow2_cb (w:World):Calls Tryz.prog 162 #[.int .i64 16] w fun e w'=>e=.returned (.bool true)∧w'=w:=by
 have e1:bits BinOp.and IntKind.i64 16 15=0:=by decide
 go_enter Tryz.func162,Tryz.ntmps162
 go_wp2
 go_ret
 exact⟨rfl,rfl⟩
theorem and15w:∀c:Nat,c<32→bits BinOp.and IntKind.u64 (c:Int) 15=((c % 16:Nat):Int):=by decide
set_option maxRecDepth 100000 in
theorem hex_ix36 (d:Nat) (hc:d<16) (w:World):(Instr.index 9 (.string ⟨#[48,49,50,51,52,53,54,55,56,57,97,98,99,100,101,102,103,104,105,106,107,108,109,110,111,112,113,114,115,116,117,118,119,120,121,122]⟩) (.int .u64 (d:Int))).run Tryz.prog w=.ok (.int .u8 ((hexd d:Nat):Int)) w:=by
 have e:d=0∨d=1∨d=2∨d=3∨d=4∨d=5∨d=6∨d=7∨d=8∨d=9∨d=10∨d=11∨d=12∨d=13∨d=14∨d=15:=by omega
 rcases e with rfl | rfl | rfl | rfl | rfl | rfl | rfl | rfl | rfl | rfl | rfl | rfl | rfl | rfl | rfl | rfl <;> rfl
set_option maxRecDepth 100000 in
theorem hex_get36 (d:Nat) (hc:d<16) (p:d<(⟨#[48,49,50,51,52,53,54,55,56,57,97,98,99,100,101,102,103,104,105,106,107,108,109,110,111,112,113,114,115,116,117,118,119,120,121,122]⟩:ByteArray).size):((⟨#[48,49,50,51,52,53,54,55,56,57,97,98,99,100,101,102,103,104,105,106,107,108,109,110,111,112,113,114,115,116,117,118,119,120,121,122]⟩:ByteArray)[d]'p).toNat=hexd d:=by
 have e:d=0∨d=1∨d=2∨d=3∨d=4∨d=5∨d=6∨d=7∨d=8∨d=9∨d=10∨d=11∨d=12∨d=13∨d=14∨d=15:=by omega
 rcases e with rfl | rfl | rfl | rfl | rfl | rfl | rfl | rfl | rfl | rfl | rfl | rfl | rfl | rfl | rfl | rfl <;> rfl
set_option maxRecDepth 20000 in
set_option maxHeartbeats 8000000 in
theorem fbits_cb {c:Nat} (hc:c<32) (w:World) (h:DB16 w):Calls Tryz.prog 139 #[.slice none 0 0,.int .u64 (c:Int),.int .i64 16,.bool false,.bool false] w fun e w'=>e=.returned (.tuple #[.slice none 0 0,.string (mks (if c<16 then [hexd c] else [hexd (c / 16),hexd (c % 16)]))])∧Below w.heap.size w w':=by
 have DT:=Lib.hid (fun(w':World) (hb:Below w.heap.size w w')=>tz_cb w' (h.keep hb))
 have DP:=Lib.hid pow2_cb
 have hZ:(⟨List.replicate 65 (.int .u8 0)⟩:Array Value)=Tryz.zeroCells222:=by kernel_rfl
 have HA:Hid (Arr (w.alloc (.cells Tryz.zeroCells222 222)) w.heap.size 222 (List.replicate 65 (.int .u8 0))):=by
  rw [←hZ]
  exact Arr.new w _ _
 have HBH:Hid (Below w.heap.size w (w.alloc (.cells Tryz.zeroCells222 222))):=(Below.refl _ _).alloc (Nat.le_refl _) _
 clear hZ
 obtain⟨Z,hZ⟩:∃Z:List Value,Hid (Z=List.replicate 65 (.int .u8 0)):=⟨_,rfl⟩
 have z63:Hid (Z[63]? = some (.int .u8 0)):=by rw [hZ.out];exact rfl
 have z64:Hid (Z[64]? = some (.int .u8 0)):=by rw [hZ.out];exact rfl
 rw [←hZ.out] at HA
 have HC:=Lib.hid hc
 clear h
 have c9:(c:Int)<32:=by omega
 have c0:(0:Int)≤c:=by omega
 go_enter Tryz.func139,Tryz.ntmps139
 go_upto_region 7 with(fail)
 obtain⟨b,hb⟩:∃b,Hid (w.heap.size=b):=⟨_,rfl⟩
 rw [hb.out] at HA ⊢
 generalize w.alloc (.cells Tryz.zeroCells222 222)=W at *
 go_upto_region 11 with(first | (go_at_call 162;((with_reducible refine(DP.out _).mono ?_));rintro e w1 ⟨rfl,rfl⟩) | (go_at_call 163;((with_reducible refine(DT.out _ HBH.out).mono ?_));rintro e w1 ⟨rfl,rfl⟩))
 go_loopw [1,13] (fun u iv wr=>(u=.int .u64 (c:Int)∧iv=.int .i64 65∧Hid (w1=wr))∨(16≤c∧u=.int .u64 ((c / 16:Nat):Int)∧iv=.int .i64 64∧Hid (Arr wr b 222 (Z.set 64 (.int .u8 ((hexd (c % 16):Nat):Int))))∧Hid (Below w.heap.size w wr))) (fun u _ _=>(intOf u).toNat)
 case atStart=>exact .inl ⟨rfl,rfl,rfl⟩
 case round=>
  rcases hrel with⟨rfl,rfl,hw⟩ | ⟨h16,rfl,rfl,hA,hB⟩
  ·obtain rfl:=hw.out
   by_cases h16:c<16
   ·have n16:¬(c:Int) ≥ 16:=by omega
    have hx:=hex_ix36 c h16
    have c64:=HA.out.cell' (i:=64) z64.out
    have f64:=HA.out.frozen 64
    have hA2:Arr (w1.setCell ⟨b,64,none⟩ (.int .u8 ((hexd c:Nat):Int))) b 222 (Z.set 64 (.int .u8 ((hexd c:Nat):Int))):=HA.out.store 64 _
    have k64:=hA2.cell' (i:=64) (List.getElem?_set_self (List.getElem?_eq_some_iff.1 z64.out).1)
    have hcv:=run_str (P:=Tryz.prog) (w1.setCell ⟨b,64,none⟩ (.int .u8 ((hexd c:Nat):Int))) 47 9 5 Tryz.underlying47 Tryz.underlying5 Tryz.underlying9 (some ⟨b,64,none⟩) 1 1 [hexd c] (fun j u hj=>⟨_,rfl,by
     match j,hj with
     | 0,hj=>
      have:Value.int .u8 ((hexd c:Nat):Int)=u:=by simpa [B8] using hj
      rw [←this]
      exact k64⟩) rfl
    clear hA2 k64
    go_wp2_with (fail)
    go_ret2
    refine⟨rfl,?_⟩
    exact HBH.out.setCell (p:=⟨b,64,none⟩) (by rw [←hb.out];exact Nat.le_refl _) _
   ·have n16:(c:Int) ≥ 16:=by omega
    have hx:=hex_ix36 (c % 16) (by omega)
    have hgx:=hex_get36 (c % 16) (by omega)
    have e15:=and15w c HC.out
    have c64:=HA.out.cell' (i:=64) z64.out
    have f64:=HA.out.frozen 64
    have hA2:Hid (Arr (w1.setCell ⟨b,64,none⟩ (.int .u8 ((hexd (c % 16):Nat):Int))) b 222 (Z.set 64 (.int .u8 ((hexd (c % 16):Nat):Int)))):=HA.out.store 64 _
    have hB2:Hid (Below w.heap.size w (w1.setCell ⟨b,64,none⟩ (.int .u8 ((hexd (c % 16):Nat):Int)))):=HBH.out.setCell (p:=⟨b,64,none⟩) (by rw [←hb.out];exact Nat.le_refl _) _
    have H16:=Lib.hid h16
    clear h16
    go_wp2_with (fail)
    go_roundw
    case rel=>exact .inr ⟨by have:=H16.out;omega,by congr 1,rfl,hA2,hB2⟩
    case measure=>
     simp [intOf]
     omega
  ·have h16':((c / 16:Nat):Int)<16:=by have:=HC.out;omega
   have n16:¬((c / 16:Nat):Int) ≥ 16:=by omega
   have hx:=hex_ix36 (c / 16) (by have:=HC.out;omega)
   obtain⟨u,hu⟩:∃u,c / 16=u:=⟨_,rfl⟩
   rw [hu] at hx n16 h16' ⊢
   have HU:=Lib.hid hu
   have c63:=hA.out.cell' (i:=63) (u:=.int .u8 0) (by rw [List.getElem?_set_ne (by decide)];exact z63.out)
   have f63:=hA.out.frozen 63
   have hA2:Arr (wr.setCell ⟨b,63,none⟩ (.int .u8 ((hexd u:Nat):Int))) b 222 ((Z.set 64 (.int .u8 ((hexd (c % 16):Nat):Int))).set 63 (.int .u8 ((hexd u:Nat):Int))):=hA.out.store 63 _
   have k63:=hA2.cell' (i:=63) (List.getElem?_set_self (by rw [List.length_set];exact(List.getElem?_eq_some_iff.1 z63.out).1))
   have k64:=hA2.cell' (i:=64) (u:=.int .u8 ((hexd (c % 16):Nat):Int)) (by rw [List.getElem?_set_ne (by decide),List.getElem?_set_self (List.getElem?_eq_some_iff.1 z64.out).1])
   have hcv:=run_str (P:=Tryz.prog) (wr.setCell ⟨b,63,none⟩ (.int .u8 ((hexd u:Nat):Int))) 47 9 5 Tryz.underlying47 Tryz.underlying5 Tryz.underlying9 (some ⟨b,63,none⟩) 2 2 [hexd u,hexd (c % 16)] (fun j v hj=>⟨_,rfl,by
    match j,hj with
    | 0,hj=>
     have:Value.int .u8 ((hexd u:Nat):Int)=v:=by simpa [B8] using hj
     rw [←this]
     exact k63
    | 1,hj=>
     have:Value.int .u8 ((hexd (c % 16):Nat):Int)=v:=by simpa [B8] using hj
     rw [←this]
     exact k64⟩) rfl
   have n1:¬c<16:=by omega
   have HN1:=Lib.hid n1
   have HB2:=Lib.hid (hB.out.setCell (p:=⟨b,63,none⟩) (by rw [←hb.out];exact Nat.le_refl _) (.int .u8 ((hexd u:Nat):Int)))
   clear hA2 k63 k64 hu h16 n1
   go_wp2_with (fail)
   go_ret2
   exact⟨by rw [HU.out];rfl,HB2.out⟩
set_option maxRecDepth 20000 in
theorem ifmt_cb {c:Nat} (hc:c<32) (w:World) (h:DB16 w):Calls Tryz.prog 108 #[.int .i64 (c:Int),.int .i64 16] w fun e w'=>e=.returned (.string (mks (if c<16 then [hexd c] else [hexd (c / 16),hexd (c % 16)])))∧Below w.heap.size w w':=by
 have D:=Lib.hid (fbits_cb hc w h)
 generalize mks (if c<16 then [hexd c] else [hexd (c / 16),hexd (c % 16)])=t at *
 have c0:(0:Int)≤c:=by omega
 have c1:(c:Int)<32:=by omega
 have c2:¬(c:Int)<0:=by omega
 go_enter Tryz.func108,Tryz.ntmps108
 go_wp2_with (go_at_call 139;((with_reducible refine D.out.mono ?_));rintro e w1 ⟨rfl,hb1⟩)
 go_ret
 exact⟨rfl,hb1⟩
set_option maxRecDepth 20000 in
theorem fmt_cb {c:Nat} (hc:c<32) (w:World) (h:DB16 w):Calls Tryz.prog 74 #[.int .i64 (c:Int),.int .i64 16] w fun e w'=>e=.returned (.string (mks (if c<16 then [hexd c] else [hexd (c / 16),hexd (c % 16)])))∧Below w.heap.size w w':=by
 have D:=Lib.hid (ifmt_cb hc w h)
 generalize mks (if c<16 then [hexd c] else [hexd (c / 16),hexd (c % 16)])=t at *
 go_enter Tryz.func74,Tryz.ntmps74
 go_wp2_with (go_at_call 108;((with_reducible refine D.out.mono ?_));rintro e w1 ⟨rfl,hb1⟩)
 go_ret
 exact⟨rfl,hb1⟩
end Go.Proofs.YtnnnagnjikdnnaaGreatDoor
namespace Go.Proofs.YtnnnagnjikdnnaaGreatDoor
open Go.RowKit
theorem skip_at (a b:List Nat) (i:Nat):(a ++ b)[a.length+i]? = b[i]?:=by rw [List.getElem?_append_right (by omega),show a.length+i - a.length=i by omega]
theorem stay_at {a b:List Nat} {i:Nat} (h:i<a.length):(a ++ b)[i]? = a[i]?:=List.getElem?_append_left h
section
variable {k v:List Nat} {n m:Nat}
theorem srcI_is:srcI k v = [91] ++ (keyI k ++ ([93,10] ++ (keyI k ++ ([32,61,32] ++ (valI v ++ [10]))))):=rfl
theorem srcI_len (hn:(keyI k).length=n) (hm:(valI v).length=m):(srcI k v).length=2*n+m+7:=by
 rw [srcI_is]
 simp only [List.length_append,List.length_cons,List.length_nil,hn,hm]
 omega
structure SrcAt (S K V:List Nat) (n m:Nat):Prop where
 len:S.length=2*n+m+7
 s0:S[0]? = some 91
 k1:∀j,j<n→S[1+j]? = K[j]?
 s1:S[n+1]? = some 93
 s2:S[n+2]? = some 10
 k2:∀j,j<n→S[n+3+j]? = K[j]?
 s3:S[2*n+3]? = some 32
 s4:S[2*n+4]? = some 61
 s5:S[2*n+5]? = some 32
 v1:∀j,j<m→S[2*n+6+j]? = V[j]?
 s6:S[2*n+6+m]? = some 10
theorem srcI_at (hn:(keyI k).length=n) (hm:(valI v).length=m):SrcAt (srcI k v) (keyI k) (valI v) n m:=by
 have g1:∀i,(srcI k v)[1+i]? = (keyI k ++ ([93,10] ++ (keyI k ++ ([32,61,32] ++ (valI v ++ [10])))))[i]?:=fun i=>skip_at [91] _ i
 have g2:∀i,(srcI k v)[1+(n+i)]? = ([93,10] ++ (keyI k ++ ([32,61,32] ++ (valI v ++ [10]))))[i]?:=fun i=>by rw [g1,←hn,skip_at]
 have g3:∀i,(srcI k v)[1+(n+(2+i))]? = (keyI k ++ ([32,61,32] ++ (valI v ++ [10])))[i]?:=fun i=>by rw [g2];exact skip_at [93,10] _ i
 have g4:∀i,(srcI k v)[1+(n+(2+(n+i)))]? = ([32,61,32] ++ (valI v ++ [10]))[i]?:=fun i=>by rw [g3,←hn,skip_at]
 have g5:∀i,(srcI k v)[1+(n+(2+(n+(3+i))))]? = (valI v ++ [10])[i]?:=fun i=>by rw [g4];exact skip_at [32,61,32] _ i
 have g6:∀i,(srcI k v)[1+(n+(2+(n+(3+(m+i)))))]? = [10][i]?:=fun i=>by rw [g5,←hm,skip_at]
 exact {
  len:=srcI_len hn hm
  s0:=rfl
  k1:=fun j hj=>by rw [g1];exact stay_at (by omega)
  s1:=by rw [show n+1=1+(n+0) by omega,g2];rfl
  s2:=by rw [show n+2=1+(n+1) by omega,g2];rfl
  k2:=fun j hj=>by rw [show n+3+j=1+(n+(2+j)) by omega,g3];exact stay_at (by omega)
  s3:=by rw [show 2*n+3=1+(n+(2+(n+0))) by omega,g4];rfl
  s4:=by rw [show 2*n+4=1+(n+(2+(n+1))) by omega,g4];rfl
  s5:=by rw [show 2*n+5=1+(n+(2+(n+2))) by omega,g4];rfl
  v1:=fun j hj=>by rw [show 2*n+6+j=1+(n+(2+(n+(3+j)))) by omega,g5];exact stay_at (by omega)
  s6:=by rw [show 2*n+6+m=1+(n+(2+(n+(3+(m+0))))) by omega,g6];rfl }
end
/-! What the reader of INI asks of a source: blanks, trimmed ends, a text in quotes. -/
def blankI (c:Nat):Prop:=c=32∨c=9
def BlkI (S:List Nat) (i e j:Nat):Prop:=i≤j∧j≤e∧(∀x,i≤x→x<j→∃c,S[x]? = some c∧blankI c)∧(j<e→∃c,S[j]? = some c∧¬blankI c)
def TrmI (S:List Nat) (i e j:Nat):Prop:=i≤j∧j≤e∧(∀x,j≤x→x<e→∃c,S[x]? = some c∧blankI c)∧(i<j→∃c,S[j - 1]? = some c∧¬blankI c)
def QuoAt (S:List Nat) (i e:Nat) (t:List Nat):Prop:=i+(quoI t).length≤e∧e≤S.length∧∀j,j<(quoI t).length→S[i+j]? = (quoI t)[j]?
theorem BlkI.here {S:List Nat} {i e c:Nat} (h:i≤e) (hc:S[i]? = some c) (hb:¬blankI c):BlkI S i e i:=⟨Nat.le_refl _,h,fun x h1 h2=>by omega,fun _=>⟨c,hc,hb⟩⟩
theorem BlkI.stop {S:List Nat} (i:Nat):BlkI S i i i:=⟨Nat.le_refl _,Nat.le_refl _,fun x h1 h2=>by omega,fun h=>by omega⟩
theorem BlkI.next {S:List Nat} {i e j c:Nat} (hc:S[i]? = some c) (hb:blankI c) (h:BlkI S (i+1) e j):BlkI S i e j:=⟨by have:=h.1;omega,h.2.1,fun x h1 h2=>by
 rcases Nat.eq_or_lt_of_le h1 with rfl | h3
 ·exact⟨c,hc,hb⟩
 ·exact h.2.2.1 x h3 h2,h.2.2.2⟩
theorem TrmI.here {S:List Nat} {i e c:Nat} (h:i<e) (hc:S[e - 1]? = some c) (hb:¬blankI c):TrmI S i e e:=⟨Nat.le_of_lt h,Nat.le_refl _,fun x h1 h2=>by omega,fun _=>⟨c,hc,hb⟩⟩
theorem TrmI.next {S:List Nat} {i e j c:Nat} (hc:S[e]? = some c) (hb:blankI c) (h:TrmI S i e j):TrmI S i (e+1) j:=⟨h.1,by have:=h.2.1;omega,fun x h1 h2=>by
 rcases Nat.eq_or_lt_of_le (Nat.le_of_lt_succ h2) with rfl | h3
 ·exact⟨c,hc,hb⟩
 ·exact h.2.2.1 x h1 h3,h.2.2.2⟩
theorem quo_step {t:List Nat} {j c:Nat} (h:t[j]? = some c):quoI t=(34 :: escIL (t.take j)) ++ (escI c ++ (escIL (t.drop (j+1)) ++ [34])):=by
 have e:t=t.take j ++ (c :: t.drop (j+1)):=by
  have hj:j<t.length:=(List.getElem?_eq_some_iff.1 h).1
  have hg:t[j]=c:=(List.getElem?_eq_some_iff.1 h).2
  rw [←hg,←List.drop_eq_getElem_cons hj,List.take_append_drop]
 show 34 :: (escIL t ++ [34])=_
 rw [congrArg escIL e,escIL_app,escIL_cons]
 simp
theorem quo_end (t:List Nat):quoI t=(34 :: escIL t) ++ [34]:=rfl
theorem QuoAt.unit {S t:List Nat} {i e j c x:Nat} (h:QuoAt S i e t) (hc:t[j]? = some c) (hx:x<(escI c).length):S[i+1+(escIL (t.take j)).length+x]? = (escI c)[x]?:=by
 have hl:(quoI t).length=1+(escIL (t.take j)).length+(escI c).length+((escIL (t.drop (j+1))).length+1):=by rw [quo_step hc];simp;omega
 have h2:=h.2.2 (1+(escIL (t.take j)).length+x) (by omega)
 rw [show i+1+(escIL (t.take j)).length+x=i+(1+(escIL (t.take j)).length+x) by omega,h2,quo_step hc]
 have e:1+(escIL (t.take j)).length+x=(34 :: escIL (t.take j)).length+x:=by simp;omega
 rw [e,skip_at,stay_at hx]
theorem QuoAt.last {S t:List Nat} {i e:Nat} (h:QuoAt S i e t):S[i+1+(escIL t).length]? = some 34:=by
 have hl:(quoI t).length=1+(escIL t).length+1:=by rw [quo_end];simp;omega
 have h2:=h.2.2 (1+(escIL t).length) (by omega)
 rw [show i+1+(escIL t).length=i+(1+(escIL t).length) by omega,h2,quo_end]
 have e:1+(escIL t).length=(34 :: escIL t).length+0:=by simp;omega
 rw [e,skip_at]
 rfl
theorem QuoAt.first {S t:List Nat} {i e:Nat} (h:QuoAt S i e t):S[i]? = some 34:=by
 have h2:=h.2.2 0 (by rw [quo_end];simp)
 rw [Nat.add_zero] at h2
 rw [h2]
 rfl
end Go.Proofs.YtnnnagnjikdnnaaGreatDoor
namespace Go.Proofs.YtnnnagnjikdnnaaGreatDoor
open Go.RowKit
set_option maxRecDepth 20000 in
set_option maxHeartbeats 4000000 in
theorem blanks_cb {pb i e j:Nat} {S:List Nat} (hS:By S) (hl:S.length≤100000) (he:e≤S.length) (h:BlkI S i e j) (w:World) (hp:w.cell? ⟨pb,2,none⟩=some (.string (mks S))) :
  Calls Tryz.prog 47 #[.pointer (some ⟨pb,0,none⟩),.int .i64 (i:Int),.int .i64 (e:Int)] w fun en w'=>en=.returned (.int .i64 (j:Int))∧Below w.heap.size w w':=by
 obtain⟨m,hm⟩:∃m,S.length=m:=⟨_,rfl⟩
 have hsz:(mks S).size=m:=by rw [size_mks];exact hm
 have HS:=Lib.hid hS
 have HK:=Lib.hid h
 have HP:=Lib.hid hp
 have HB:=Lib.hid (Below.refl w.heap.size w)
 obtain⟨h1,h2,_,_⟩:=h
 rw [hm] at hl he
 clear hS hp
 go_enter Tryz.func47,Tryz.ntmps47
 go_wp2_with (fail)
 go_loopw [1] (fun iv wr=>∃x:Nat,i≤x∧x≤j∧iv=.int .i64 (x:Int)∧Hid (Below w.heap.size w wr)) (fun iv _=>j - (intOf iv).toNat)
 case atStart=>exact⟨i,Nat.le_refl _,h1,rfl,HB⟩
 case round=>
  obtain⟨x,hx1,hx2,rfl,hB⟩:=hrel
  have hp':=(hB.out.cell (block_lt_of_cell HP.out)).trans HP.out
  have hx0:(0:Int)≤x:=by omega
  by_cases hxj:x=j
  ·subst hxj
   by_cases hje:x<e
   ·have hje':(x:Int)<e:=by omega
    obtain⟨c,hc,hn⟩:=HK.out.2.2.2 hje
    have cb:=HS.out.get hc
    have hg:=get_mks hc cb (by rw [hsz];omega)
    have hxm:(x:Int)<m:=by omega
    have n1:((c:Int) == 32)=false:=by simp;exact fun q=>hn (.inl (by omega))
    have n2:((c:Int) == 9)=false:=by simp;exact fun q=>hn (.inr (by omega))
    clear hc hn
    go_wp2
    go_ret
    exact⟨rfl,hB.out⟩
   ·have hje':¬(x:Int)<e:=by omega
    go_wp2
    go_ret
    exact⟨rfl,hB.out⟩
  ·obtain⟨c,hc,hn⟩:=HK.out.2.2.1 x hx1 (by omega)
   have hje':(x:Int)<e:=by omega
   have cb:=HS.out.get hc
   have hg:=get_mks hc cb (by rw [hsz];omega)
   have hxm:(x:Int)<m:=by omega
   clear hc
   rcases hn with rfl | rfl
   all_goals
    go_wp2
    go_roundw
    case rel=>exact⟨x+1,by omega,by omega,i64e (by omega),hB⟩
    case measure=>simp [intOf];omega
set_option maxRecDepth 20000 in
set_option maxHeartbeats 4000000 in
theorem trimmed_cb {pb i e j:Nat} {S:List Nat} (hS:By S) (hl:S.length≤100000) (he:e≤S.length) (h:TrmI S i e j) (w:World) (hp:w.cell? ⟨pb,2,none⟩=some (.string (mks S))) :
  Calls Tryz.prog 80 #[.pointer (some ⟨pb,0,none⟩),.int .i64 (i:Int),.int .i64 (e:Int)] w fun en w'=>en=.returned (.int .i64 (j:Int))∧Below w.heap.size w w':=by
 obtain⟨m,hm⟩:∃m,S.length=m:=⟨_,rfl⟩
 have hsz:(mks S).size=m:=by rw [size_mks];exact hm
 have HS:=Lib.hid hS
 have HK:=Lib.hid h
 have HP:=Lib.hid hp
 have HB:=Lib.hid (Below.refl w.heap.size w)
 obtain⟨h1,h2,_,_⟩:=h
 rw [hm] at hl he
 clear hS hp
 go_enter Tryz.func80,Tryz.ntmps80
 go_wp2_with (fail)
 go_loopw [2] (fun iv wr=>∃x:Nat,j≤x∧x≤e∧iv=.int .i64 (x:Int)∧Hid (Below w.heap.size w wr)) (fun iv _=>(intOf iv).toNat)
 case atStart=>exact⟨e,h2,Nat.le_refl _,rfl,HB⟩
 case round=>
  obtain⟨x,hx1,hx2,rfl,hB⟩:=hrel
  have hp':=(hB.out.cell (block_lt_of_cell HP.out)).trans HP.out
  have hx0:(0:Int)≤x:=by omega
  by_cases hxi:i<x
  ·have hxi':(x:Int) > i:=by omega
   obtain⟨y,rfl⟩:∃y,x=y+1:=⟨x - 1,by omega⟩
   have e1:((y+1:Nat):Int) - 1=(y:Int):=by omega
   have hym:(y:Int)<m:=by omega
   have hy0:(0:Int)≤y:=by omega
   by_cases hxj:y+1=j
   ·obtain⟨c,hc,hn⟩:=HK.out.2.2.2 (by omega)
    have hc':S[y]? = some c:=by rw [←hc,←hxj];rfl
    have cb:=HS.out.get hc'
    have hg:=get_mks hc' cb (by rw [hsz];omega)
    have n1:((c:Int) == 32)=false:=by simp;exact fun q=>hn (.inl (by omega))
    have n2:((c:Int) == 9)=false:=by simp;exact fun q=>hn (.inr (by omega))
    have ej:=Lib.hid (show((y+1:Nat):Int)=(j:Int) by omega)
    clear hc hc' hn
    generalize ((y+1:Nat):Int)=z at *
    go_wp2
    go_ret
    exact⟨by rw [ej.out];rfl,hB.out⟩
   ·obtain⟨c,hc,hn⟩:=HK.out.2.2.1 y (by omega) (by omega)
    have cb:=HS.out.get hc
    have hg:=get_mks hc cb (by rw [hsz];omega)
    clear hc
    rcases hn with rfl | rfl
    all_goals
     generalize ((y+1:Nat):Int)=z at *
     go_wp2
     go_roundw
     case rel=>exact⟨y,by omega,by omega,rfl,hB⟩
     case measure=>simp [intOf];omega
  ·have hxi':¬(x:Int) > i:=by omega
   obtain rfl:x=j:=by omega
   go_wp2
   go_ret
   exact⟨rfl,hB.out⟩
end Go.Proofs.YtnnnagnjikdnnaaGreatDoor
namespace Go.Proofs.YtnnnagnjikdnnaaGreatDoor
open Go.RowKit
theorem encR_low:∀c,c<32→Lib.encodeRune ((c:Nat):Int) = [UInt8.ofNat c]:=by decide
theorem valR_low:∀c,c<32→Lib.validRune ((c:Nat):Int)=true:=by decide
theorem cellsR_low {c:Nat} (hc:c<32):Lib.runeCells (c:Int)=B8 [c]:=by
 rw [←Lib.byteCells_encodeRune,encR_low c hc]
 have:∀c,c<32→(UInt8.ofNat c).toNat=c:=by decide
 show [Value.int .u8 (((UInt8.ofNat c).toNat:Nat):Int)]=_
 rw [this c hc]
 rfl
set_option maxRecDepth 20000 in
set_option maxHeartbeats 4000000 in
theorem enc1_cb {c g:Nat} (hc:c<32) (w:World) (hA:w.cell? ⟨g,0,none⟩=some (.int .i32 (c:Int))) :
  Calls Tryz.prog 140 #[.slice (some ⟨g,0,none⟩) 1 1] w fun e w'=>e=.returned (.tuple #[.string (mks [c]),.int .i64 0])∧Below w.heap.size w w':=by
 have HA:=Lib.hid hA
 have DV:Hid (∀W,Calls Tryz.prog 164 #[.int .i32 (c:Int)] W fun e w'=>e=.returned (.bool true)∧w'=W):=fun W=>by
  have h:=Tryz.utf8_ValidRune (c:Int) W
  rw [valR_low c hc] at h
  exact h
 have H0:Hid (w.ownsRow w.heap.size 5 1 (.slice none 0 0) 0 (B8 ([c].take 0))):=World.ownsRow_nil _ _ _ _
 have HB:=Lib.hid (Below.refl w.heap.size w)
 clear hA
 go_enter Tryz.func140,Tryz.ntmps140
 go_wp2_with (fail)
 go_loopw [4,9] (fun ov iv wr=>∃r:Nat,r≤1∧iv=.int .i64 (r:Int)∧Hid (wr.ownsRow w.heap.size 5 1 ov r (B8 ([c].take r)))∧Hid (Below w.heap.size w wr)) (fun _ iv _=>1 - (intOf iv).toNat)
 case atStart=>exact⟨0,by omega,rfl,H0,HB⟩
 case round=>
  obtain⟨r,hr,rfl,hO,hB⟩:=hrel
  have hbz:=hB.out.size
  rcases(show r=0∨r=1 by omega) with rfl | rfl
  ·obtain⟨A1,c1,hv,_,_⟩:=own_slice hO.out
   subst hv
   have hA':=(hB.out.cell (block_lt_of_cell HA.out)).trans HA.out
   have DA:=Lib.hid (Tryz.utf8_AppendRune_plain w.heap.size (.slice A1 0 c1) 0 (B8 ([c].take 0)) (c:Int) (by omega) (by omega) wr hO.out (by omega) hbz)
   go_wp2_with (first | (go_at_call 164;((with_reducible refine(DV.out _).mono ?_));rintro e w1 ⟨rfl,rfl⟩) | (go_at_call 165;((with_reducible refine(DA.out).mono ?_));rintro e w2 ⟨v2,rfl,hO2,o2,hg2⟩))
   go_roundw
   case rel=>exact⟨1,by omega,rfl,by rw [cellsR_low hc] at hO2;exact hO2,(hB.out.alloc hbz _).grown hg2 (by simp;omega) (fun k hk=>(hO.out.lt k hk).1)⟩
   case measure=>simp [intOf]
  ·obtain⟨A1,c1,hv,_,_⟩:=own_some hO.out (by omega)
   subst hv
   have hcv:=run_str (P:=Tryz.prog) wr 47 9 5 Tryz.underlying47 Tryz.underlying5 Tryz.underlying9 (some ⟨A1,0,none⟩) 1 c1 [c] (fun j u hj=>⟨_,rfl,hO.out.cells rfl j u hj⟩) rfl
   go_wp2_with (fail)
   go_ret2
   exact⟨rfl,hB.out⟩
end Go.Proofs.YtnnnagnjikdnnaaGreatDoor
namespace Go.Proofs.YtnnnagnjikdnnaaGreatDoor
open Go.RowKit
set_option maxRecDepth 20000 in
set_option maxHeartbeats 4000000 in
theorem esc_low {pb i e c:Nat} {S:List Nat} (hl:S.length≤100000) (he:e≤S.length) (hc:c=34∨c=92∨c=10∨c=13∨c=9) (hi:i+2<e) (hu:∀x,x<(escI c).length→S[i+x]? = (escI c)[x]?) (w:World) (hp:w.cell? ⟨pb,2,none⟩=some (.string (mks S))) :
  Calls Tryz.prog 110 #[.pointer (some ⟨pb,0,none⟩),.int .i64 (i:Int),.int .i64 (e:Int)] w fun en w'=>en=.returned (.tuple #[.string (mks [c]),.int .i64 2,.int .i64 0])∧Below w.heap.size w w':=by
 obtain⟨m,hm⟩:∃m,S.length=m:=⟨_,rfl⟩
 have hsz:(mks S).size=m:=by rw [size_mks];exact hm
 rw [hm] at hl he
 have h1:¬(i:Int)+1 ≥ e:=by omega
 have h2:(i:Int)+1<m:=by omega
 have h3:(i:Int)+2≤m:=by omega
 have h0:(0:Int)≤i:=by omega
 obtain⟨j,hj⟩:∃j,i+1=j:=⟨_,rfl⟩
 have ej:(i:Int)+1=(j:Int):=by omega
 have HB:=Lib.hid (Below.refl w.heap.size w)
 rcases hc with rfl | rfl | rfl | rfl | rfl
 ·have hg:S[j]? = some 34:=by rw [←hj];exact hu 1 (by decide)
  have hg2:=get_mks hg (by decide) (by rw [hsz];omega)
  have hsub:(S.take (i+2)).drop j = [34]:=by
   rw [show i+2=j+1 by omega,List.take_add_one,hg,List.drop_append_of_le_length (by rw [List.length_take];omega),List.drop_of_length_le (by rw [List.length_take];omega)]
   rfl
  have HSub:=Lib.hid hsub
  clear hu hsub hg
  go_enter Tryz.func110,Tryz.ntmps110
  go_wp2_with (fail)
  rw [HSub.out]
  go_ret3
  exact⟨rfl,HB.out⟩
 ·have hg:S[j]? = some 92:=by rw [←hj];exact hu 1 (by decide)
  have hg2:=get_mks hg (by decide) (by rw [hsz];omega)
  have hsub:(S.take (i+2)).drop j = [92]:=by
   rw [show i+2=j+1 by omega,List.take_add_one,hg,List.drop_append_of_le_length (by rw [List.length_take];omega),List.drop_of_length_le (by rw [List.length_take];omega)]
   rfl
  have HSub:=Lib.hid hsub
  clear hu hsub hg
  go_enter Tryz.func110,Tryz.ntmps110
  go_wp2_with (fail)
  rw [HSub.out]
  go_ret3
  exact⟨rfl,HB.out⟩
 ·have hg:S[j]? = some 110:=by rw [←hj];exact hu 1 (by decide)
  have hg2:=get_mks hg (by decide) (by rw [hsz];omega)
  clear hu hg
  go_enter Tryz.func110,Tryz.ntmps110
  go_wp2_with (fail)
  go_ret3
  exact⟨rfl,HB.out⟩
 ·have hg:S[j]? = some 114:=by rw [←hj];exact hu 1 (by decide)
  have hg2:=get_mks hg (by decide) (by rw [hsz];omega)
  clear hu hg
  go_enter Tryz.func110,Tryz.ntmps110
  go_wp2_with (fail)
  go_ret3
  exact⟨rfl,HB.out⟩
 ·have hg:S[j]? = some 116:=by rw [←hj];exact hu 1 (by decide)
  have hg2:=get_mks hg (by decide) (by rw [hsz];omega)
  clear hu hg
  go_enter Tryz.func110,Tryz.ntmps110
  go_wp2_with (fail)
  go_ret3
  exact⟨rfl,HB.out⟩
def hexT:List Nat:=[48,49,50,51,52,53,54,55,56,57,97,98,99,100,101,102]
theorem hexT_by:By hexT:=by intro c hc;unfold hexT at hc;simp at hc;omega
theorem or_hex:∀d,d<16→bits BinOp.or IntKind.u8 ((hexd d:Nat):Int) 32=((hexd d:Nat):Int):=by decide
theorem ix_hex:∀d,d<16→ixBV (hexd d) hexT=(d:Int):=by decide
def digI (c:Nat):List Nat:=if c<16 then [c] else [c / 16,c % 16]
def valD (l:List Nat):Nat:=l.foldl (fun a d=>16*a+d) 0
theorem escI_u:∀c,c<32→c≠10→c≠13→c≠9→escI c = [92,117,123] ++ ((digI c).map hexd ++ [125]):=by decide
theorem digI_ok:∀c,c<32→1≤(digI c).length∧(digI c).length≤2∧(∀d∈digI c,d<16)∧valD (digI c)=c∧(∀r,r<3→valD ((digI c).take r)<32):=by decide
theorem valD_snoc (l:List Nat) (d:Nat):valD (l ++ [d])=16*valD l+d:=by simp [valD]
theorem hexd_is:∀d,d<16→48≤hexd d∧hexd d≤102∧¬(57<hexd d∧hexd d<65):=by decide
set_option maxRecDepth 20000 in
set_option maxHeartbeats 8000000 in
theorem esc_u {pb i e c:Nat} {S:List Nat} (hS:By S) (hl:S.length≤100000) (he:e≤S.length) (hc:c<32) (h10:c≠10) (h13:c≠13) (h9:c≠9) (hi:i+(escI c).length<e) (hu:∀x,x<(escI c).length→S[i+x]? = (escI c)[x]?) (w:World) (hp:w.cell? ⟨pb,2,none⟩=some (.string (mks S))) :
  Calls Tryz.prog 110 #[.pointer (some ⟨pb,0,none⟩),.int .i64 (i:Int),.int .i64 (e:Int)] w fun en w'=>en=.returned (.tuple #[.string (mks [c]),.int .i64 ((escI c).length:Int),.int .i64 0])∧Below w.heap.size w w':=by
 obtain⟨m,hm⟩:∃m,S.length=m:=⟨_,rfl⟩
 have hsz:(mks S).size=m:=by rw [size_mks];exact hm
 have HS:=Lib.hid hS
 obtain⟨n1,n2,hd16,hval,hv32⟩:=digI_ok c hc
 have hesc:=escI_u c hc h10 h13 h9
 obtain⟨D,hD⟩:∃D,digI c=D:=⟨_,rfl⟩
 rw [hD] at n1 n2 hd16 hval hv32 hesc
 obtain⟨nd,hnd⟩:∃nd,D.length=nd:=⟨_,rfl⟩
 have hel:(escI c).length=nd+4:=by rw [hesc];simp;omega
 rw [hnd] at n1 n2
 rw [hel] at hi hu ⊢
 have g1:S[i+1]? = some 117:=by rw [hu 1 (by omega),hesc];rfl
 have g2:S[i+2]? = some 123:=by rw [hu 2 (by omega),hesc];rfl
 have gd:Hid (∀r d,D[r]? = some d→S[i+3+r]? = some (hexd d)):=fun r d hr=>by
  have hrl:r<nd:=by rw [←hnd];exact(List.getElem?_eq_some_iff.1 hr).1
  rw [show i+3+r=i+([92,117,123].length+r) by simp;omega,hu _ (by simp;omega),hesc,skip_at,stay_at (by simp;omega),List.getElem?_map,hr]
  rfl
 have ge:S[i+3+nd]? = some 125:=by
  rw [show i+3+nd=i+([92,117,123].length+((D.map hexd).length+0)) by simp;omega,hu _ (by simp;omega),hesc,skip_at,skip_at]
  rfl
 rw [hm] at hl he
 have GE:=Lib.hid ge
 have HV:=Lib.hid hv32
 have HVL:=Lib.hid hval
 have HD16:=Lib.hid hd16
 have HND:=Lib.hid hnd
 have HB:=Lib.hid (Below.refl w.heap.size w)
 have D125:Hid (∀W,Calls Tryz.prog 46 #[.string ⟨#[48,49,50,51,52,53,54,55,56,57,97,98,99,100,101,102]⟩,.int .u8 (bits BinOp.or IntKind.u8 125 32)] W fun e w'=>e=.returned (.int .i64 (-1))∧W=w'):=fun W=>by
  rw [show bits BinOp.or IntKind.u8 125 32=((125:Nat):Int) by decide]
  exact(indexByte_any hexT hexT_by 125 (by decide) W).mono fun e w' h=>⟨h.1.trans (by rw [show ixBV 125 hexT = -1 by decide]),h.2⟩
 obtain⟨j1,hj1⟩:∃j,i+1=j:=⟨_,rfl⟩
 obtain⟨j2,hj2⟩:∃j,i+2=j:=⟨_,rfl⟩
 have ej1:(i:Int)+1=(j1:Int):=by omega
 have ej2:(i:Int)+2=(j2:Int):=by omega
 rw [hj1] at g1
 rw [hj2] at g2
 have q1:j1<(mks S).size:=by rw [hsz];omega
 have q2:j2<(mks S).size:=by rw [hsz];omega
 have hg1:=get_mks g1 (by decide) q1
 have hg2:=get_mks g2 (by decide) q2
 have a1:(j1:Int)<m:=by omega
 have a2:(j2:Int)<m:=by omega
 have b1:¬(j1:Int) ≥ e:=by omega
 have b2:¬(j2:Int) ≥ e:=by omega
 have c1:(0:Int)≤j1:=by omega
 have c2:(0:Int)≤j2:=by omega
 have HP:=Lib.hid hp
 clear hu g1 g2 hesc hel hD hval hv32 hd16 ge hnd hS
 go_enter Tryz.func110,Tryz.ntmps110
 go_upto_region 17 with(fail)
 clear hg1 hg2
 go_wp2_with (fail)
 go_loopw [9,10] (fun nv iv wr=>∃r x:Nat,r≤nd∧i+3+r=x∧nv=.int .i64 (valD (D.take r):Int)∧iv=.int .i64 (x:Int)∧Hid (Below w.heap.size w wr)) (fun _ iv _=>i+10 - (intOf iv).toNat)
 case atStart=>exact⟨0,i+3,Nat.zero_le _,rfl,rfl,congrArg (Value.int .i64) (by omega),HB⟩
 case round=>
  obtain⟨r,x,hr,hx,rfl,rfl,hB⟩:=hrel
  have hp':=(hB.out.cell (block_lt_of_cell HP.out)).trans HP.out
  have hv:=HV.out r (by omega)
  obtain⟨V,hV⟩:∃V,valD (D.take r)=V:=⟨_,rfl⟩
  rw [hV] at hv
  rw [hV]
  have x0:(0:Int)≤x:=by omega
  have x1:(x:Int)<e:=by omega
  have x2:(x:Int)<(i:Int)+9:=by omega
  have x3:(x:Int)<m:=by omega
  have qx:x<(mks S).size:=by rw [hsz];omega
  by_cases hrn:r=nd
  ·have gx:S[x]? = some 125:=by rw [←hx,hrn];exact GE.out
   have hgx:=get_mks gx (by decide) qx
   have x4:((x:Int) == (i:Int)+3)=false:=by simp;omega
   have x5:¬(x:Int) ≥ e:=by omega
   have hVc:V=c:=by rw [←hV,hrn,←HND.out,List.take_length];exact HVL.out
   go_upto_region 24 with(go_at_call 46;((with_reducible refine(D125.out _).mono ?_));rintro en w2 ⟨rfl,rfl⟩)
   have hbl:Below wr.heap.size wr (wr.alloc (.cells #[.int .i32 (c:Int)] 21)):=(Below.refl _ _).alloc (Nat.le_refl _) _
   subst hVc
   go_wp2_with (go_at_call 140;((with_reducible refine(enc1_cb hc _ (cell_new _ _ _)).mono ?_));rintro e w3 ⟨rfl,hb3⟩)
   have ef:(x:Int)+1 - (i:Int)=((nd+4:Nat):Int):=by omega
   rw [ef]
   go_ret3
   exact⟨rfl,hB.out.trans ((hbl.trans (hb3.mono hbl.size)).mono hB.out.size)⟩
  ·obtain⟨d,hd⟩:∃d,D[r]? = some d:=⟨_,List.getElem?_eq_getElem (by have:=HND.out;omega)⟩
   have hd16:d<16:=HD16.out d (List.mem_of_getElem? hd)
   have gx:S[x]? = some (hexd d):=by rw [←hx];exact gd.out r d hd
   have hV2:valD (D.take (r+1))=16*V+d:=by rw [List.take_add_one,hd,←hV];exact valD_snoc _ _
   have hv2:valD (D.take (r+1))<32:=HV.out (r+1) (by omega)
   obtain⟨k1,k2,k3⟩:=hexd_is d hd16
   have DH:Hid (∀W,Calls Tryz.prog 46 #[.string ⟨#[48,49,50,51,52,53,54,55,56,57,97,98,99,100,101,102]⟩,.int .u8 (bits BinOp.or IntKind.u8 ((hexd d:Nat):Int) 32)] W fun e w'=>e=.returned (.int .i64 (d:Int))∧W=w'):=fun W=>by
    rw [or_hex d hd16]
    exact(indexByte_any hexT hexT_by (hexd d) (by omega) W).mono fun e w' h=>⟨h.1.trans (by rw [ix_hex d hd16]),h.2⟩
   have hgx:=get_mks gx (by omega) qx
   obtain⟨h,hh⟩:∃h,hexd d=h:=⟨_,rfl⟩
   rw [hh] at DH hgx k1 k2 k3
   have k4:¬(h:Int)<48:=by omega
   have k5:(h:Int) > 57→¬(h:Int)<65:=by omega
   have HV2:=Lib.hid hV2
   have hV3:V≤1:=by omega
   have hrn2:r+1≤nd:=by omega
   clear hd gx hh hV2 hv2
   by_cases k6:(h:Int) > 57
   ·have k7:=k5 k6
    go_wp2_with (go_at_call 46;((with_reducible refine(DH.out _).mono ?_));rintro en w2 ⟨rfl,rfl⟩)
    go_roundw
    case rel=>exact⟨r+1,x+1,hrn2,by omega,by rw [HV2.out];exact congrArg (Value.int .i64) (by omega),congrArg (Value.int .i64) (by omega),hB⟩
    case measure=>simp [intOf];omega
   ·go_wp2_with (go_at_call 46;((with_reducible refine(DH.out _).mono ?_));rintro en w2 ⟨rfl,rfl⟩)
    go_roundw
    case rel=>exact⟨r+1,x+1,hrn2,by omega,by rw [HV2.out];exact congrArg (Value.int .i64) (by omega),congrArg (Value.int .i64) (by omega),hB⟩
    case measure=>simp [intOf];omega
end Go.Proofs.YtnnnagnjikdnnaaGreatDoor
