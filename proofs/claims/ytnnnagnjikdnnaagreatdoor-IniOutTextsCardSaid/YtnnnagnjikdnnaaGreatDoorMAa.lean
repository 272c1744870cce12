/- Plain laws on decimal digits, least significant first: no program is mentioned here. -/
import Derived.WalkKit
import Derived.WalkSpells
import Derived.WalkLawsBesides
import Derived.Lib.Hide
import Derived.Laws.CopyOwn
import Derived.Laws.BytesArg
import Derived.Laws.Tables
import Derived.Laws.AppendOwn
import Derived.Laws.AppendOwnNone
import Derived.Deep.QuietTactic
import Derived.Deep.AppendLies
import Derived.Deep.Draws
import Derived.Deep.DeepFit
import Derived.Deep.DeepCutAuto
import Derived.Deep.RegionHeld3
import Derived.Deep.RegionLaw
import Derived.Maps.AppendAt
import Derived.BigQuiet
import Derived.StillTailTactics
import Derived.Test.YtnnnagnjikdnnaaGreatDoorRows
import Derived.ProofKit
import Derived.Below
import Derived.ChangeSame
import Derived.Lib.SmallJoins
import Derived.Test.YtnnnagnjikdnnaaGreatDoorProg
import Derived.Laws.BitsAllLaws
set_option linter.unusedVariables false
set_option linter.unusedSimpArgs false
set_option linter.defProp false
set_option linter.constructorNameAsVariable false
namespace Go.Proofs.YtnnnagnjikdnnaaGreatDoor
def val:List Nat→Nat
 | []=>0
 | d :: ds=>d+10*val ds
def dg (n:Nat):List Nat:=if h:n=0 then [] else n % 10 :: dg (n / 10)
termination_by n
decreasing_by omega
def Ten (ds:List Nat):Prop:=∀d∈ds,d<10
theorem Ten.nil:Ten []:=by intro d h;cases h
theorem Ten.cons {d:Nat} {ds:List Nat} (h:d<10) (hs:Ten ds):Ten (d :: ds):=by
 intro x hx
 rcases List.mem_cons.1 hx with rfl | hx
 ·exact h
 ·exact hs x hx
theorem Ten.head {d:Nat} {ds:List Nat} (h:Ten (d :: ds)):d<10:=h d (by simp)
theorem Ten.tail {d:Nat} {ds:List Nat} (h:Ten (d :: ds)):Ten ds:=fun x hx=>h x (by simp [hx])
theorem Ten.append {a b:List Nat} (h:Ten a) (k:Ten b):Ten (a ++ b):=by
 intro x hx
 rcases List.mem_append.1 hx with hx | hx
 ·exact h x hx
 ·exact k x hx
theorem Ten.drop {a:List Nat} (h:Ten a) (k:Nat):Ten (a.drop k):=fun x hx=>h x (List.mem_of_mem_drop hx)
theorem Ten.take {a:List Nat} (h:Ten a) (k:Nat):Ten (a.take k):=fun x hx=>h x (List.mem_of_mem_take hx)
theorem Ten.get {a:List Nat} (h:Ten a) {k d:Nat} (hk:a[k]? = some d):d<10:=h d (List.mem_of_getElem? hk)
theorem dg_zero:dg 0 = []:=by rw [dg];simp
theorem dg_pos {n:Nat} (h:n≠0):dg n=n % 10 :: dg (n / 10):=by rw [dg];simp [h]
def tlen:List Nat→Nat
 | []=>0
 | d :: ds=>if tlen ds=0∧d=0 then 0 else tlen ds+1
theorem tlen_le (ds:List Nat):tlen ds≤ds.length:=by
 induction ds with
 | nil=>simp [tlen]
 | cons d ds ih=>unfold tlen;split <;> simp <;> omega
theorem tlen_snoc (ds:List Nat) (d:Nat):tlen (ds ++ [d])=if d=0 then tlen ds else ds.length+1:=by
 induction ds with
 | nil=>simp [tlen]
 | cons e ds ih=>
  simp only [List.cons_append,tlen,ih]
  by_cases h:d=0
  ·simp [h]
  ·simp [h]
theorem tlen_take_succ {ds:List Nat} {k d:Nat} (hd:ds[k]? = some d):tlen (ds.take (k+1))=if d=0 then tlen (ds.take k) else k+1:=by
 have hk:k<ds.length:=(List.getElem?_eq_some_iff.1 hd).1
 have e:ds.take (k+1)=ds.take k ++ [d]:=by
  rw [List.take_succ_eq_append_getElem hk]
  congr 1
  have:=(List.getElem?_eq_some_iff.1 hd).2
  rw [this]
 rw [e,tlen_snoc,List.length_take]
 split <;> omega
theorem val_zero_of_tlen {ds:List Nat} (h:tlen ds=0):val ds=0:=by
 induction ds with
 | nil=>rfl
 | cons d ds ih=>
  unfold tlen at h
  by_cases hc:tlen ds=0∧d=0
  ·rw [val,ih hc.1,hc.2]
  ·rw [if_neg hc] at h;omega
theorem dg_val {ds:List Nat} (h:Ten ds):dg (val ds)=ds.take (tlen ds):=by
 induction ds with
 | nil=>rw [val,dg_zero];rfl
 | cons d ds ih=>
  have h1:=h.head
  have ih:=ih h.tail
  unfold tlen
  by_cases hc:tlen ds=0∧d=0
  ·rw [if_pos hc,val,val_zero_of_tlen hc.1,hc.2];simp [dg_zero]
  ·rw [if_neg hc]
   have hne:val (d :: ds)≠0:=by
    intro h0
    rw [val] at h0
    have hv:val ds=0:=by omega
    have hd:d=0:=by omega
    rw [hv,dg_zero] at ih
    have:=congrArg List.length ih
    rw [List.length_take] at this
    have:=tlen_le ds
    simp at *
    omega
   rw [dg_pos hne,List.take_succ_cons]
   have e1:val (d :: ds) % 10=d:=by rw [val];omega
   have e2:val (d :: ds) / 10=val ds:=by rw [val];omega
   rw [e1,e2,ih]
/-! ### The loops -/
def asc (ds:List Nat):List Nat:=ds.map (48 + ·)
def ntx (neg:Bool) (m:Nat):List Nat:=if m=0 then [48] else (if neg then [45] else []) ++ (asc (dg m)).reverse
def negL (l:List Nat):Bool:=decide (1<l.length∧l[0]? = some 45)
def bodyL (l:List Nat):List Nat:=if negL l then l.tail else l
def isDig (c:Nat):Bool:=decide (48≤c∧c≤57)
def dec (b:List Nat):List Nat:=b.map (· - 48)
def badL (l:List Nat):Prop:=(bodyL l).length=0∨400<(bodyL l).length∨((bodyL l)[0]? = some 48∧1<l.length)
instance (l:List Nat):Decidable (badL l):=by unfold badL;infer_instance
def parseC (l:List Nat):Option (Bool×Nat):=
 if badL l then none else if (bodyL l).all isDig then some (negL l,val (dec (bodyL l)).reverse) else none
theorem ten_dec {b:List Nat} (h:b.all isDig=true):Ten (dec b).reverse:=by
 intro d hd
 rw [List.mem_reverse] at hd
 obtain⟨c,hc,rfl⟩:=List.mem_map.1 hd
 have:=List.all_eq_true.1 h c hc
 unfold isDig at this
 have:=of_decide_eq_true this
 omega
/-! ### The product -/
end Go.Proofs.YtnnnagnjikdnnaaGreatDoor
namespace Go.Proofs.YtnnnagnjikdnnaaGreatDoor
open Go.RowKit
def B8 (ds:List Nat):List Value:=ds.map fun(d:Nat)=>Value.int .u8 (d:Int)
theorem length_B8 (ds:List Nat):(B8 ds).length=ds.length:=by simp [B8]
theorem B8_get {ds:List Nat} {k d:Nat} (h:ds[k]? = some d):(B8 ds)[k]? = some (.int .u8 (d:Int)):=by simp [B8,h]
theorem B8_append (a b:List Nat):B8 (a ++ b)=B8 a ++ B8 b:=by simp [B8]
theorem B8_set (a:List Nat) (k d:Nat):(B8 a).set k (.int .u8 (d:Int))=B8 (a.set k d):=by simp [B8,List.map_set]
theorem B8_one (ds:List Nat):∀u∈B8 ds,u.oneCell'=true:=by
 intro u hu
 obtain⟨_,_,rfl⟩:=List.mem_map.1 hu
 rfl
def I64 (ds:List Int):List Value:=ds.map fun d=>Value.int .i64 d
theorem I64_get {ds:List Int} {k:Nat} {d:Int} (h:ds[k]? = some d):(I64 ds)[k]? = some (.int .i64 d):=by simp [I64,h]
theorem I64_set (a:List Int) (k:Nat) (d:Int):(I64 a).set k (.int .i64 d)=I64 (a.set k d):=by simp [I64,List.map_set]
theorem i64e {a b:Int} (h:a=b):Value.int .i64 a=.int .i64 b:=by rw [h]
theorem set_mid {α:Type} {dn rest:List α} {x y:α} {k:Nat} (h:dn.length=k):(dn ++ x :: rest).set k y=dn ++ [y] ++ rest:=by
 subst h;simp
theorem q0 (w:World):∃k,w=w.drewN k:=⟨0,rfl⟩
theorem q1 (w:World) (n:Nat):∃k,w.drewN n=w.drewN k:=⟨n,rfl⟩
theorem q2 (w:World) (n m:Nat):∃k,(w.drewN n).drewN m=w.drewN k:=⟨n+m,World.drewN_drewN _ _ _⟩
theorem q3 (w:World) (n m k:Nat):∃j,((w.drewN n).drewN m).drewN k=w.drewN j:=⟨n+(m+k),by rw [World.drewN_drewN,World.drewN_drewN]⟩
def mks (l:List Nat):ByteArray:=⟨(l.map UInt8.ofNat).toArray⟩
def By (l:List Nat):Prop:=∀c∈l,c<256
theorem By.nil:By []:=by intro d h;cases h
theorem By.cons {d:Nat} {ds:List Nat} (h:d<256) (hs:By ds):By (d :: ds):=by
 intro x hx
 rcases List.mem_cons.1 hx with rfl | hx
 ·exact h
 ·exact hs x hx
theorem By.tail {d:Nat} {ds:List Nat} (h:By (d :: ds)):By ds:=fun x hx=>h x (by simp [hx])
theorem By.head {d:Nat} {ds:List Nat} (h:By (d :: ds)):d<256:=h d (by simp)
theorem By.append {a b:List Nat} (h:By a) (k:By b):By (a ++ b):=by
 intro x hx
 rcases List.mem_append.1 hx with hx | hx
 ·exact h x hx
 ·exact k x hx
theorem By.drop {a:List Nat} (h:By a) (k:Nat):By (a.drop k):=fun x hx=>h x (List.mem_of_mem_drop hx)
theorem By.take {a:List Nat} (h:By a) (k:Nat):By (a.take k):=fun x hx=>h x (List.mem_of_mem_take hx)
theorem By.get {a:List Nat} (h:By a) {k d:Nat} (hk:a[k]? = some d):d<256:=h d (List.mem_of_getElem? hk)
theorem mks_of (s:ByteArray):∃l,s=mks l∧By l:=by
 refine⟨s.data.toList.map UInt8.toNat,?_,?_⟩
 ·unfold mks
  rw [List.map_map]
  have:(UInt8.ofNat ∘ UInt8.toNat)=id:=by funext x;simp
  rw [this,List.map_id]
 ·intro c hc
  obtain⟨x,_,rfl⟩:=List.mem_map.1 hc
  exact x.toNat_lt
@[go_sem] theorem size_mks (l:List Nat):(mks l).size=l.length:=by simp [mks,ByteArray.size]
theorem get_mks {l:List Nat} {i c:Nat} (h:l[i]? = some c) (hc:c<256) (hi:i<(mks l).size):((mks l)[i]'hi).toNat=c:=by
 have h2:=(List.getElem?_eq_some_iff.1 h).2
 show((mks l).data[i]).toNat=c
 simp [mks,h2]
 omega
@[go_sem] theorem extract_mks (l:List Nat) (a b:Nat):(mks l).extract a b=mks ((l.take b).drop a):=by
 apply ByteArray.ext
 simp [mks,ByteArray.data_extract,List.map_take,List.map_drop,List.drop_take]
@[go_sem] theorem append_mks (a b:List Nat):mks a ++ mks b=mks (a ++ b):=by
 apply ByteArray.ext
 simp [mks,ByteArray.data_append]
theorem mks_lit1 (c:UInt8):(ByteArray.mk #[c]:ByteArray)=mks [c.toNat]:=by simp [mks]
theorem toList_mks (l:List Nat):(mks l).toList=l.map UInt8.ofNat:=by rw [ByteArray.toList_eq];simp [mks]
theorem ofNat_inj {a b:Nat} (ha:a<256) (hb:b<256) (h:UInt8.ofNat a=UInt8.ofNat b):a=b:=by
 have:=congrArg UInt8.toNat h
 simp at this
 omega
theorem mks_inj {a b:List Nat} (ha:By a) (hb:By b) (h:mks a=mks b):a=b:=by
 have h1:a.map UInt8.ofNat=b.map UInt8.ofNat:=by rw [←toList_mks,h,toList_mks]
 induction a generalizing b with
 | nil=>cases b with
  | nil=>rfl
  | cons y b=>simp at h1
 | cons x a ih=>cases b with
  | nil=>simp at h1
  | cons y b=>
   simp only [List.map_cons,List.cons.injEq] at h1
   have e:=ofNat_inj ha.head hb.head h1.1
   subst e
   congr 1
   exact ih ha.tail hb.tail (by unfold mks;rw [h1.2]) h1.2
theorem eq_mks {a b:List Nat} (ha:By a) (hb:By b):((mks a).toList == (mks b).toList)=decide (a=b):=by
 by_cases h:a=b
 ·subst h;simp
 ·simp only [h,decide_false]
  rw [beq_eq_false_iff_ne]
  intro he
  rw [toList_mks,toList_mks] at he
  exact h (mks_inj ha hb (by unfold mks;rw [he]))
theorem blk_add (a:Addr) (n:Nat):(a.add n).block=a.block:=by unfold Addr.add;split <;> rfl
theorem add_add (a:Addr) (i j:Nat):(a.add i).add j=a.add (i+j):=by
 unfold Addr.add
 by_cases hi:i=0 <;> by_cases hj:j=0 <;> simp [hi,hj,Nat.add_assoc]
def Rd (w:World) (A:Option Addr) (xs:List Value):Prop:=∀j u,xs[j]? = some u→∃ad,A=some ad∧w.cell? (ad.add j)=some u
def From (B:Nat) (A:Option Addr):Prop:=∀ad,A=some ad→B≤ad.block
def Arr (w:World) (g:Nat) (t:TypeId) (xs:List Value):Prop:=w.heap[g]? = some (.cells xs.toArray t (0,0))
section
variable {w w':World} {A:Option Addr} {xs:List Value} {g:Nat} {t:TypeId}
theorem cell_new (w:World) (u:Value) (t:TypeId):(w.alloc (.cells #[u] t)).cell? ⟨w.heap.size,0,none⟩=some u:=by
 rw [World.cell?_alloc_at _ _ _ _ rfl];rfl
theorem Rd.nil:Rd w A []:=by intro j u h;simp at h
theorem Rd.at_ {k:Nat} {u:Value} (h:Rd w A xs) (hk:xs[k]? = some u):∃ad,A=some ad∧w.cell? (ad.add k)=some u:=h k u hk
theorem Rd.below {B:Nat} (h:Rd w A xs) (hb:Below B w w') (hA:∀ad,A=some ad→ad.block<B):Rd w' A xs:=by
 intro j u hj
 obtain⟨ad,e,hc⟩:=h j u hj
 exact⟨ad,e,(hb.cell (by rw [blk_add];exact hA ad e)).trans hc⟩
theorem Rd.keep (h:Rd w A xs) (hb:Below w.heap.size w w'):Rd w' A xs:=by
 intro j u hj
 obtain⟨ad,e,hc⟩:=h j u hj
 exact⟨ad,e,(hb.cell (block_lt_of_cell hc)).trans hc⟩
theorem Rd.grown {row:Option Nat} (h:Rd w A xs) (hb:w.grownBy w' row) (hA:∀ad,A=some ad→some ad.block≠row):Rd w' A xs:=by
 intro j u hj
 obtain⟨ad,e,hc⟩:=h j u hj
 exact⟨ad,e,hb.cell hc (by rw [blk_add];exact hA ad e)⟩
theorem Rd.alloc (h:Rd w A xs) (o:Obj):Rd (w.alloc o) A xs:=h.keep ((Below.refl _ _).alloc (Nat.le_refl _) o)
theorem Rd.drew (h:Rd w A xs):Rd w.drew A xs:=h
theorem Rd.drewN (h:Rd w A xs) (n:Nat):Rd (w.drewN n) A xs:=h
theorem Rd.setCell (h:Rd w A xs) {p:Addr} (u:Value) (hA:∀ad,A=some ad→ad.block≠p.block):Rd (w.setCell p u) A xs:=by
 intro j v hj
 obtain⟨ad,e,hc⟩:=h j v hj
 refine⟨ad,e,?_⟩
 rw [World.cell?_setCell_other w p (ad.add j) u (fun e'=>hA ad e (by rw [e',blk_add]))]
 exact hc
theorem Rd.take (h:Rd w A xs) (k:Nat):Rd w A (xs.take k):=by
 intro j u hj
 refine h j u ?_
 rw [List.getElem?_take] at hj
 split at hj
 ·exact hj
 ·cases hj
theorem Rd.drop {ad:Addr} (h:Rd w (some ad) xs) (k:Nat):Rd w (some (ad.add k)) (xs.drop k):=by
 intro j u hj
 rw [List.getElem?_drop] at hj
 obtain⟨ad',e,hc⟩:=h _ u hj
 obtain rfl:=Option.some.inj e
 exact⟨_,rfl,by rw [add_add];exact hc⟩
theorem Arr.lt (h:Arr w g t xs):g<w.heap.size:=by
 rcases Nat.lt_or_ge g w.heap.size with hlt | hge
 ·exact hlt
 ·unfold Arr at h;rw [Array.getElem?_eq_none hge] at h;cases h
theorem Arr.cell (h:Arr w g t xs) (i:Nat):w.cell? ⟨g,i,none⟩=xs[i]?:=by
 have:=cell_of_row w g i _ t (0,0) h
 simpa using this
theorem Arr.cell' {i:Nat} {u:Value} (h:Arr w g t xs) (hu:xs[i]? = some u):w.cell? ⟨g,i,none⟩=some u:=(h.cell i).trans hu
theorem Arr.frozen (h:Arr w g t xs) (i:Nat):w.frozen? ⟨g,i,none⟩=false:=frozen_of_row w g i _ t h
theorem Arr.keep (h:Arr w g t xs) (hb:Below w.heap.size w w'):Arr w' g t xs:=(hb.block g h.lt).trans h
theorem Arr.below {B:Nat} (h:Arr w g t xs) (hb:Below B w w') (hg:g<B):Arr w' g t xs:=(hb.block g hg).trans h
theorem Arr.grown {row:Option Nat} (h:Arr w g t xs) (hb:w.grownBy w' row) (hg:some g≠row):Arr w' g t xs:=(hb.block g h.lt hg).trans h
theorem Arr.alloc (h:Arr w g t xs) (o:Obj):Arr (w.alloc o) g t xs:=h.keep ((Below.refl _ _).alloc (Nat.le_refl _) o)
theorem Arr.new (w:World) (t:TypeId) (xs:List Value):Arr (w.alloc (.cells xs.toArray t)) w.heap.size t xs:=heap_alloc_new w _
theorem Arr.far (h:Arr w g t xs) {p:Addr} (hp:g≠p.block) (u:Value):Arr (w.setCell p u) g t xs:=(Below.heap_setCell w p u g hp).trans h
theorem Arr.store (h:Arr w g t xs) (i:Nat) (u:Value):Arr (w.setCell ⟨g,i,none⟩ u) g t (xs.set i u):=by
 unfold Arr at h ⊢
 simp [World.setCell,Array.getElem?_modify,h]
theorem Arr.rd (h:Arr w g t xs):Rd w (some ⟨g,0,none⟩) xs:=by
 intro j u hj
 refine⟨_,rfl,?_⟩
 have:(⟨g,0,none⟩:Addr).add j=⟨g,j,none⟩:=by unfold Addr.add;split <;> simp_all
 rw [this]
 exact h.cell' hj
theorem Arr.ne {g':Nat} {t':TypeId} {xs':List Value} (h:Arr w g t xs) (h':Arr w g' t' xs') (hne:t≠t'):g≠g':=by
 rintro rfl
 unfold Arr at h h'
 rw [h] at h'
 injection h' with h'
 injection h' with _ ht
 exact hne ht
end
theorem run_str {P:Program} (w:World) (src dst e:TypeId) (hs:P.underlying src=some (.slice e)) (he:P.underlying e=some (.int .u8)) (hd:P.underlying dst=some .string)
  (A:Option Addr) (n c:Nat) (l:List Nat) (hr:Rd w A (B8 l)) (hn:n=l.length):(convert src dst (.slice A n c)).run P w=.ok (.string (mks l)) w:=by
 subst hn
 cases A with
 | none=>
  have:l = []:=by
   cases l with
   | nil=>rfl
   | cons x l=>
    obtain⟨ad,h,_⟩:=hr 0 (.int .u8 (x:Int)) rfl
    cases h
  subst this
  rw [run_convert_bytes_nil w src e hs he _ _ dst hd];rfl
 | some ad=>
  have hl:=run_loadCells_list (P:=P) w ad (B8 l) (fun j v hj=>by
   obtain⟨ad',h,hc⟩:=hr j v hj
   obtain rfl:=Option.some.inj h
   exact hc)
  rw [length_B8] at hl
  have e1:B8 l=(l.map fun(d:Nat)=>(d:Int)).map (Value.int .u8):=by simp [B8]
  rw [e1] at hl
  rw [run_convert_bytes_string w src dst e _ _ c hs he hd,run_bytesToString w ad _ c _ hl,foldl_push_bytes]
  simp [mks,ByteArray.empty,ByteArray.emptyWithCapacity]
  rfl
theorem own_rd {w:World} {base:Nat} {e:TypeId} {v:Value} {n:Nat} {xs:List Value} (h:w.ownsRow base e 1 v n xs) :
  ∃A c,v=.slice A n c∧Hid (n=xs.length)∧n≤c∧c≤maxLen∧Rd w A xs∧From base A:=by
 have hl:n=xs.length:=by have:=h.1;omega
 rcases h.2 with⟨rfl,rfl⟩ | ⟨g,cap,cur,rfl,hb,_,hc,hm,_⟩
 ·refine⟨none,0,rfl,hl,Nat.le_refl _,by decide,?_,fun _ h=>by cases h⟩
  have:xs = []:=List.eq_nil_of_length_eq_zero hl.symm
  subst this
  exact Rd.nil
 ·refine⟨some ⟨g,0,none⟩,cap,rfl,hl,hc,hm,fun j u hj=>⟨_,rfl,h.cells rfl j u hj⟩,?_⟩
  rintro ad h;obtain rfl:=Option.some.inj h;exact hb
theorem arr_own {w:World} {g c n:Nat} {t:TypeId} {xs:List Value} {base:Nat} (h:Arr w g t xs) (hb:base≤g) (hn:n≤c) (hc:c=xs.length) (hm:c≤maxLen) :
  w.ownsRow base t 1 (.slice (some ⟨g,0,none⟩) n c) n (xs.take n):=by
 refine⟨by simp;omega,.inr ⟨g,c,xs.toArray,rfl,hb,h,hn,hm,by simp;omega,by simp⟩⟩
theorem below_of_grown {w w':World} {B:Nat} {row:Option Nat} (hg:w.grownBy w' row) (hB:B≤w.heap.size) (hr:∀k,row=some k→B≤k):Below B w w':=
 (Below.refl B w).grown hg hB hr
theorem Below.drewN' {B:Nat} {a w:World} (h:Below B a w) (n:Nat):Below B a (w.drewN n):=⟨h.os,h.tape,h.output,h.size,h.block⟩
section
variable {P:Program} {w:World} {ops:Array Oper} {rest:List Oper} {o:Oper} {a:Act} {Q:Exit→Act→World→Prop}
theorem madeCells_one (z:Value) (hz:z.cells=#[z]) (n:Nat):madeCells z.cells n=(List.replicate n z).toArray:=by
 rw [hz]
 have:=toList_madeCells_one z n
 rw [←this]
theorem wpList_mk (hg:o.guard=none) (l c:Operand) (t:TypeId) (hop:o.op=.makeSlice t l c) (e:TypeId) (z:Value) (bytes:Nat) (h1:P.underlying t=some (.slice e))
  (h2:(P.info? e).map (fun i=>(i.zero,i.size,i.bytes))=some (some z,1,bytes)) (hz:z.cells=#[z]) (kl kc:IntKind) (L C:Int) (hl:a.eval l=.int kl L) (hc:a.eval c=.int kc C)
  (n m:Nat) (hL:L=n) (hC:C=m) (hnm:n≤m) (hb:bytes*m≤281474976710656) (hm:m≤maxLen)
  (hK:∀g w',Hid (g=w.heap.size)→Hid (Arr w' g e (List.replicate m z))→Below w.heap.size w w'→Hid (w'.heap.size=g+1) →
   wpList P ops Q rest (a.put o.dst (.slice (some ⟨g,0,none⟩) n m)) w'):wpList P ops Q (o :: rest) a w:=by
 obtain⟨i,hi,hz1,hz2,hz3⟩:=info_parts h2
 refine wpList_plain hg fun K hK'=>?_
 subst hL;subst hC
 have hb':(i.bytes:Int)*(m:Int)≤281474976710656:=by
  have h:((i.bytes*m:Nat):Int)≤281474976710656:=by subst hz3;omega
  rwa [Int.natCast_mul] at h
 have hm':(m:Int)≤9223372036854775807:=by simp [maxLen] at hm;omega
 have hrun:=run_make (P:=P) w t e i z h1 hi hz1 kl kc n m (by omega) (by omega) hb' hm'
 simp only [Int.toNat_natCast,hz2,Nat.mul_one,madeCells_one z hz] at hrun
 unfold Oper.wp
 simp [execOp,hop,hl,hc,hrun,Result.andThen]
 refine hK' _ _ (hK w.heap.size _ rfl (Arr.new w e _) ((Below.refl _ _).alloc (Nat.le_refl _) _) ?_)
 show _=_
 simp
theorem wpList_cp (hg:o.guard=none) (d s:Operand) (dT sT:TypeId) (ho:o.op=.call { callee:=.builtin .copy,args:=#[d,s],argTypes:=#[dT,sT] }) (e:TypeId) (hu:P.underlying dT=some (.slice e))
  (hsz:(P.info? e).map (·.size)=some 1) (g dLen dCap sLen sCap:Nat) (sp:Option Addr) (hd:a.eval d=.slice (some ⟨g,0,none⟩) dLen dCap) (hs:a.eval s=.slice sp sLen sCap)
  (cur:List Value) (t:TypeId) (harr:Arr w g t cur) (hcur:dLen≤cur.length) (src:List Value) (hr:Rd w sp src) (hsl:src.length=sLen) (hle:sLen≤dLen) (h1:∀v∈src,v.oneCell'=true)
  (hK:∀w',Hid (Arr w' g t (src ++ cur.drop sLen))→w.grownBy w' (some g)→Hid (w'.heap.size=w.heap.size)→wpList P ops Q rest (a.put o.dst (goInt sLen)) w'):wpList P ops Q (o :: rest) a w:=by
 by_cases h0:sLen=0
 ·have:src = []:=List.eq_nil_of_length_eq_zero (by omega)
  subst this
  subst h0
  exact wpList_copy_nothing hg d s dT sT ho e hu hsz _ _ _ _ _ _ hd hs (by simp) (hK w (show Arr _ _ _ _ by simpa using harr) (World.grownBy.refl _ _) rfl)
 ·obtain⟨u,hu0⟩:∃u,src[0]? = some u:=⟨_,List.getElem?_eq_getElem (by omega)⟩
  obtain⟨ad,rfl,_⟩:=hr 0 u hu0
  have hn:src.length=Nat.min sLen dLen:=by rw [hsl];exact(Nat.min_eq_left hle).symm
  have hsrc:∀j v,src[j]? = some v→w.cell? (ad.add j)=some v:=by
   intro j v hj
   obtain⟨ad',e',hc⟩:=hr j v hj
   obtain rfl:=Option.some.inj e'
   exact hc
  refine wpList_copy_own hg d s dT sT ho e hu hsz g 0 dLen dCap ad sLen sCap hd hs cur.toArray t harr src hn hsrc (by simp;omega) h1 ?_
  have:=hK (w.setRow g (src ++ cur.drop sLen).toArray) (setRow_heap w g _ _ t _ harr) ⟨rfl,rfl,rfl,by simp,fun k _ hk=>setRow_other w g k _ (by intro e;subst e;exact hk rfl)⟩ (by show _=_;simp)
  simpa [hsl] using this
theorem wpList_sr (hg:o.guard=none) (hdst:o.dst=none) (ty:TypeId) (x y:Operand) (ho:o.op=.store ty x y) (g:Nat) (us:List Value) (hx:a.eval x=.pointer (some ⟨g,0,none⟩)) (hy:a.eval y=.agg us.toArray)
  (t:TypeId) (old:List Value) (harr:Arr w g t old) (n:Nat) (hi':(P.info? ty).map (·.size)=some n) (hn:us.length=n) (hl':old.length=n) (h1:us.all (·.oneCell')=true)
  (hK:∀w',Hid (Arr w' g t us)→w.grownBy w' (some g)→Hid (w'.heap.size=w.heap.size)→wpList P ops Q rest a w'):wpList P ops Q (o :: rest) a w:=by
 have hput:a.put o.dst undef=a:=by rw [hdst];rfl
 have hi:(P.info? ty).map (·.size)=some us.length:=by rw [hi',hn]
 have hl:old.length=us.length:=by omega
 refine wpList_store_row hg ty x y ho g us.toArray hx hy t old.toArray harr (by simpa using hi) (by simpa using hl) (by simpa using h1) ?_
 rw [hput]
 refine hK (w.setRow g us.toArray) (setRow_heap w g _ _ t _ harr) ⟨rfl,rfl,rfl,by simp,fun k _ hk=>setRow_other w g k _ (by intro e;subst e;exact hk rfl)⟩ ?_
 show _=_
 simp
end
end Go.Proofs.YtnnnagnjikdnnaaGreatDoor
namespace Go.Proofs.YtnnnagnjikdnnaaGreatDoor
open Go.ChangeShapes Go.WideShapes Go.ChangeAt Go.RowKit Go.Joins
theorem own_none:ownKnob Tryz.prog.godebug=none:=by kernel_rfl
section
variable {H:Type} {enc:TypeId×Value→H} {P:Program}
theorem post_below {f:Func} {s:ChangeSpec} {apart fresh handsOn again:Bool} {W W':World} {args:Array Value} {v:Value} {ds gs:List (DataW H)} {before pa pv:List MemPlace}
  (hW:DataW.Whole enc P f.params.toList s.vars apart W args.toList ds gs before)
  (hres:∀(b:Nat) (sp:Nat→Bool) (hd:Bool),DataW.TrodAll enc P W' b sp hd f.resultTypes.toList (v.resultList f.resultTypes.size) (s.fn H (ds ++ gs)).results [])
  (hargs:∀sp:Nat→Bool,(∀p∈before,sp p.block=true)→DataW.TrodAll enc P W' 0 sp true f.params.toList args.toList (s.fn H (ds ++ gs)).args pa)
  (hvars:∀sp:Nat→Bool,(∀p∈before,sp p.block=true)→DataW.TrodVars enc P W' sp s.vars (s.fn H (ds ++ gs)).vars pv)
  (hps:before=pa ++ pv) (hb:Below W.heap.size W W')
  (hok:∀(j:Nat) (t:TypeId) (r:Value),f.resultTypes[j]? = some t→(v.resultList f.resultTypes.size)[j]? = some r→Value.okWide P W' .any 0 t r) :
  s.post enc P f apart fresh handsOn again W args v W':=by
 have hlt:∀p∈before,p.block<W.heap.size:=fun p hp=>hW.lt p hp
 have hold:∀p∈before,(fun b=>decide (b<W.heap.size)) p.block=true:=fun p hp=>by simpa using hlt p hp
 refine⟨ds,gs,before,[],pa,pv,hW,hres _ _ _,hargs _ hold,hvars _ hold,World.keptBut_mono (fun p hp=>⟨hp,?_⟩) (hb.frame (·∈before)),fun _=>?_⟩
 ·rw [hps,List.mem_append] at hp
  exact Or.inr hp
 ·obtain⟨_,_,_,_,_,hz,hn⟩:=hW
  refine⟨hok,_,_,([] ++ pa) ++ pv,⟨[] ++ pa,pv,trodAll_append (hargs _ (fun _ _=>rfl)) (hres _ _ _),hvars _ (fun _ _=>rfl),rfl,?_,?_⟩,?_⟩
  ·intro b off hp
   have hin:MemPlace.cell b off∈before:=by rw [hps];simpa using hp
   rw [hb.frozen (hlt _ hin)]
   exact hz b off hin
  ·intro ha
   have:=hn ha
   rw [hps] at this
   simpa using this
  ·intro p hp _
   rw [hps]
   simpa using hp
set_option maxRecDepth 100000 in
theorem open_str8 {w:World} {r:Reach} {b0 base:Nat} {sp:Nat→Bool} {held:Bool} {v:Value} {d:DataW H} {ps:List MemPlace} (hval:Value.okWide Tryz.prog w r b0 9 v) (hd:DataW.Trod enc Tryz.prog w base sp held 9 v d ps) :
  ∃l,By l∧v=.string (mks l)∧ps = []∧l.length≤maxLen∧∀(W':World) (sp':Nat→Bool),DataW.Trod enc Tryz.prog W' 0 sp' true 9 v d []:=by
 obtain⟨s,rfl,rfl,rfl,hs⟩:=Go.ChangeMaps.open_string Tryz.underlying9 hval hd
 obtain⟨l,rfl,hl⟩:=mks_of s
 exact⟨l,hl,rfl,rfl,by rw [size_mks] at hs;exact hs,fun W' sp'=>Go.ChangeMaps.shut_string Tryz.underlying9 hs⟩
end
end Go.Proofs.YtnnnagnjikdnnaaGreatDoor
namespace Go.Proofs.YtnnnagnjikdnnaaGreatDoor
open Go.RowKit
theorem ret_i {a b:Int} (h:a=b):Ending.returned (.int .i64 a)=.returned (.int .i64 b):=by rw [h]
end Go.Proofs.YtnnnagnjikdnnaaGreatDoor
namespace Go.Proofs.YtnnnagnjikdnnaaGreatDoor
open Go.RowKit
end Go.Proofs.YtnnnagnjikdnnaaGreatDoor
namespace Go.Proofs.YtnnnagnjikdnnaaGreatDoor
open Go.RowKit
end Go.Proofs.YtnnnagnjikdnnaaGreatDoor
namespace Go.Proofs.YtnnnagnjikdnnaaGreatDoor
open Go.RowKit
theorem Tryz.info5:(Tryz.prog.info? 5).map (fun i=>(i.zero,i.size,i.bytes))=some (some (.int .u8 0),1,1):=by kernel_rfl
theorem Tryz.size5:(Tryz.prog.info? 5).map (·.size)=some 1:=by kernel_rfl
theorem Tryz.sz190:(Tryz.prog.info? 190).map (·.size)=some 2:=by kernel_rfl
theorem Tryz.info3:(Tryz.prog.info? 3).map (fun i=>(i.zero,i.size,i.bytes))=some (some (.int .i64 0),1,8):=by kernel_rfl
theorem rd_trim {w:World} {A:Option Addr} {ds:List Nat} (h:Rd w A (B8 ds)) (ht:Ten ds):Rd w A (B8 (dg (val ds))):=by
 rw [dg_val ht]
 have:=h.take (tlen ds)
 unfold B8 at this ⊢
 rwa [←List.map_take] at this
def TrimPost (ds:List Nat) (A:Option Addr) (c:Nat) (w:World) (e:Ending) (w':World):Prop:=
 ∃k,e=.returned (.slice A k c)∧Hid (k=(dg (val ds)).length)∧k≤ds.length∧Rd w A (B8 (dg (val ds)))∧w=w'
theorem trim_end {w:World} {A:Option Addr} {ds:List Nat} {k c:Nat} {n:Nat} (hr:Rd w A (B8 ds)) (hd:Ten ds) (hn:n=ds.length) (hk:k≤n) (ht:tlen (ds.take k)=tlen ds)
  (he:tlen (ds.take k)=k):TrimPost ds A c w (.returned (.slice A k c)) w:=by
 refine⟨k,rfl,?_,by omega,rd_trim hr hd,rfl⟩
 show k=_
 rw [dg_val hd,List.length_take]
 have:=tlen_le ds
 omega
set_option maxHeartbeats 400000 in
theorem trim_any (A:Option Addr) (n c:Nat) (ds:List Nat) (w:World) (hn:Hid (n=ds.length)) (hr:Rd w A (B8 ds)) (hd:Ten ds) (hc:n≤c) (hm:n≤maxLen) :
  Calls Tryz.prog 166 #[.slice A n c] w (TrimPost ds A c w):=by
 unfold maxLen at hm
 go_enter Tryz.func166,Tryz.ntmps166
 go_wp2
 go_loop [0] (fun v=>∃k:Nat,k≤n∧Hid (tlen (ds.take k)=tlen ds)∧v=.slice A k c) (fun v=>match v with | .slice _ k _=>k | _=>0)
 case atStart=>exact⟨n,Nat.le_refl _,by show _=_;rw [List.take_of_length_le (by have:=hn.out;omega)],rfl⟩
 case round=>
  obtain⟨k,hk,ht,rfl⟩:=hrel
  by_cases h0:k=0
  ·subst h0
   go_wp2
   go_ret
   exact trim_end hr hd hn.out hk ht.out (by simp [tlen])
  ·have hk1:0<k:=by omega
   have hk2:k - 1<ds.length:=by have:=hn.out;omega
   obtain⟨d,hdd⟩:∃d,ds[k-1]? = some d:=⟨_,List.getElem?_eq_getElem hk2⟩
   obtain⟨ad,rfl,hcell⟩:=hr.at_ (B8_get hdd)
   have hs:=tlen_take_succ hdd
   rw [show k - 1+1=k by omega] at hs
   have HS:=Lib.hid hs;clear hs
   have HD:=Lib.hid hdd;clear hdd
   have e1:((k:Int) - 1).toNat=k - 1:=by omega
   by_cases hz:d=0
   ·subst hz
    go_wp2
    refine⟨⟨k - 1,by omega,?_,rfl⟩,?_⟩
    ·have h1:=HS.out
     rw [if_pos rfl] at h1
     exact h1.symm.trans ht.out
    ·show k - 1<k
     omega
   ·have hz':((d:Int) == 0)=false:=by simp;omega
    go_wp2
    go_ret
    have h1:=HS.out
    rw [if_neg hz] at h1
    exact trim_end hr hd hn.out hk ht.out (by omega)
end Go.Proofs.YtnnnagnjikdnnaaGreatDoor
namespace Go.Proofs.YtnnnagnjikdnnaaGreatDoor
open Go.RowKit
def runL:List Nat→Nat
 | []=>0
 | c :: l=>if 48≤c∧c≤57 then runL l+1 else 0
def AllD (l:List Nat):Prop:=∀c∈l,48≤c∧c≤57
theorem AllD.get {a:List Nat} (h:AllD a) {k d:Nat} (hk:a[k]? = some d):48≤d∧d≤57:=h d (List.mem_of_getElem? hk)
theorem drop_cons {l:List Nat} {k c:Nat} (h:l[k]? = some c):l.drop k=c :: l.drop (k+1):=by
 have h2:=List.getElem?_eq_some_iff.1 h
 rw [List.drop_eq_getElem_cons h2.1,h2.2]
def smallV:List Nat→Nat→Nat
 | [],n=>n
 | c :: l,n=>smallV l (if 1099511627776<10*n+(c - 48) then 1099511627776 else 10*n+(c - 48))
def hasP (p s:List Nat):Bool:=decide (s.take p.length=p)
theorem dec_set {b:List Nat} {k c:Nat} (hd:b[k]? = some c):((dec (b.take k) ++ List.replicate (b.length - k) 0).set k (c - 48))=dec (b.take (k+1)) ++ List.replicate (b.length - (k+1)) 0:=by
 have h:=List.getElem?_eq_some_iff.1 hd
 have hk:=h.1
 have e1:List.replicate (b.length - k) 0=0 :: List.replicate (b.length - (k+1)) 0:=by
  rw [←List.replicate_succ];congr 1;have:=h.1;omega
 rw [e1,set_mid (by simp [dec];omega),List.take_succ_eq_append_getElem h.1,h.2]
 simp [dec]
set_option maxHeartbeats 1000000 in
theorem bytes_any (b:List Nat) (hs:AllD b) (w:World) (hl:b.length<4294967296):Calls Tryz.prog 170 #[.string (mks b)] w fun e w'=>
  ∃g,e=.returned (.slice (some ⟨g,0,none⟩) b.length b.length)∧Hid (g=w.heap.size)∧Hid (Arr w' g 5 (B8 (dec b)))∧Below w.heap.size w w':=by
 go_enter Tryz.func170,Tryz.ntmps170
 go_wp2_with (at_make;go_loud (refine wpList_mk rfl _ _ 47 rfl 5 _ _ Tryz.underlying47 Tryz.info5 rfl _ _ _ _ rfl rfl (b.length) (b.length) (by omega) (by omega) (by omega) (by omega) (by unfold maxLen;omega) ?_;intro g w1 hg harr hbl hsz))
 have hS1:Hid (Arr w1 g 5 (B8 (dec (b.take 0) ++ List.replicate (b.length - 0) 0))):=by
  have h:=harr.out
  show Arr _ _ _ _
  have e:B8 (dec (b.take 0) ++ List.replicate (b.length - 0) 0)=List.replicate b.length (.int .u8 0):=by simp [dec,B8]
  rw [e];exact h
 clear harr hsz
 go_loopw [10] (fun iv wr=>∃k:Nat,k≤b.length∧iv=.int .i64 (k:Int)∧Hid (Arr wr g 5 (B8 (dec (b.take k) ++ List.replicate (b.length - k) 0)))∧Below w.heap.size w wr) (fun iv _=>b.length - (intOf iv).toNat)
 case atStart=>exact⟨0,by omega,rfl,hS1,hbl⟩
 case round=>
  clear hS1 hbl
  obtain⟨k,hk,rfl,ha,hb⟩:=hrel
  by_cases hlt:k<b.length
  ·obtain⟨c,hc⟩:∃c,b[k]? = some c:=⟨_,List.getElem?_eq_getElem hlt⟩
   have cb:=hs.get hc
   have gc:=get_mks hc (by omega) (by rw [size_mks];omega)
   have hget:(dec (b.take k) ++ List.replicate (b.length - k) 0)[k]? = some 0:=by
    rw [List.getElem?_append_right (by simp [dec];omega),List.getElem?_replicate,if_pos (by simp [dec];omega)]
   have hc2:=ha.out.cell' (B8_get hget)
   have hfr:=ha.out.frozen k
   have hst:=ha.out.store k (.int .u8 ((c - 48:Nat):Int))
   rw [B8_set,dec_set hc] at hst
   have ecast:((c - 48:Nat):Int)=(c:Int) - 48:=by omega
   rw [ecast] at hst
   have HST:=Lib.hid hst
   have hB2:=hb.setCell (p:=⟨g,k,none⟩) (by have:=hg.out;show w.heap.size≤g;omega) (.int .u8 ((c:Int) - 48))
   clear hst ecast hget hc
   go_wp2
   go_roundw
   case rel=>exact⟨k+1,by omega,by go_num,HST,hB2⟩
   case measure=>simp [intOf];omega
  ·obtain rfl:k=b.length:=by omega
   have hst:=ha.out
   rw [List.take_length,Nat.sub_self,List.replicate_zero,List.append_nil] at hst
   have HST:=Lib.hid hst
   clear hst ha
   go_wp2
   go_ret
   exact⟨g,rfl,hg,HST,hb⟩
end Go.Proofs.YtnnnagnjikdnnaaGreatDoor
namespace Go.Proofs.YtnnnagnjikdnnaaGreatDoor
open Go.RowKit
def knownB (b:Int):Bool:=decide (b=2∨b=8∨b=10∨b=16)
def digV (c:Nat):Nat:=if 48≤c∧c≤57 then c - 48 else if 97≤c∧c≤102 then c - 97+10 else if 65≤c∧c≤70 then c - 65+10 else 99
end Go.Proofs.YtnnnagnjikdnnaaGreatDoor
namespace Go.Proofs.YtnnnagnjikdnnaaGreatDoor
open Go.RowKit
end Go.Proofs.YtnnnagnjikdnnaaGreatDoor
namespace Go.Proofs.YtnnnagnjikdnnaaGreatDoor
open Go.RowKit
end Go.Proofs.YtnnnagnjikdnnaaGreatDoor
namespace Go.Proofs.YtnnnagnjikdnnaaGreatDoor
open Go.RowKit
end Go.Proofs.YtnnnagnjikdnnaaGreatDoor
namespace Go.Proofs.YtnnnagnjikdnnaaGreatDoor
open Go.RowKit
end Go.Proofs.YtnnnagnjikdnnaaGreatDoor
namespace Go.Proofs.YtnnnagnjikdnnaaGreatDoor
open Go.RowKit
end Go.Proofs.YtnnnagnjikdnnaaGreatDoor
