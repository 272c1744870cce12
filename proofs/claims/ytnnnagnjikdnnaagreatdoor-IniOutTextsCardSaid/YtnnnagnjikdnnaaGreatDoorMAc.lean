/- The walk of two of integer. -/
import Derived.Test.YtnnnagnjikdnnaaGreatDoorMAb
import Derived.Test.YtnnnagnjikdnnaaGreatDoorMAa
import Derived.StillTailTactics
import Derived.Lib.MapLaws
import Derived.Lib.IndexMore
import Derived.Lib.ItoaNum
set_option linter.unusedVariables false
set_option linter.unusedSimpArgs false
set_option linter.defProp false
set_option linter.constructorNameAsVariable false
namespace Go.Proofs.YtnnnagnjikdnnaaGreatDoor
open Go.RowKit
def NumV (B:Nat) (w:World) (o:Option (Bool×Nat)) (v0 v1:Value):Prop:=
 match o with
 | none=>v0=.bool false∧v1=.slice none 0 0
 | some (neg,m)=>∃A n c,v0=.bool neg∧v1=.slice A n c∧Hid (n=(dg m).length)∧n≤400∧n≤c∧Rd w A (B8 (dg m))∧From B A
theorem NumV.keep {B:Nat} {w w':World} {o:Option (Bool×Nat)} {v0 v1:Value} (h:NumV B w o v0 v1) (hb:Below w.heap.size w w'):NumV B w' o v0 v1:=by
 match o,h with
 | none,h=>exact h
 | some (neg,m),⟨A,n,c,h1,h2,h3,h4,h5,h6,h7⟩=>exact⟨A,n,c,h1,h2,h3,h4,h5,h6.keep hb,h7⟩
theorem NumV.grown {B:Nat} {w w':World} {o:Option (Bool×Nat)} {v0 v1:Value} {g:Nat} (h:NumV B w o v0 v1) (hb:w.grownBy w' (some g)) (hg:g<B):NumV B w' o v0 v1:=by
 match o,h with
 | none,h=>exact h
 | some (neg,m),⟨A,n,c,h1,h2,h3,h4,h5,h6,h7⟩=>
  refine⟨A,n,c,h1,h2,h3,h4,h5,h6.grown hb ?_,h7⟩
  intro ad e h
  have:=h7 ad e
  have:=Option.some.inj h
  omega
theorem NumV.setCell {B:Nat} {w:World} {o:Option (Bool×Nat)} {v0 v1:Value} {p:Addr} (h:NumV B w o v0 v1) (u:Value) (hp:p.block<B):NumV B (w.setCell p u) o v0 v1:=by
 match o,h with
 | none,h=>exact h
 | some (neg,m),⟨A,n,c,h1,h2,h3,h4,h5,h6,h7⟩=>exact⟨A,n,c,h1,h2,h3,h4,h5,h6.setCell u (fun ad e=>by have:=h7 ad e;omega),h7⟩
theorem NumV.drew {B:Nat} {w:World} {o:Option (Bool×Nat)} {v0 v1:Value} (h:NumV B w o v0 v1):NumV B w.drew o v0 v1:=by
 match o,h with
 | none,h=>exact h
 | some (neg,m),h=>exact h
theorem NumV.mono {B B':Nat} {w:World} {o:Option (Bool×Nat)} {v0 v1:Value} (h:NumV B w o v0 v1) (hB:B'≤B):NumV B' w o v0 v1:=by
 match o,h with
 | none,h=>exact h
 | some (neg,m),⟨A,n,c,h1,h2,h3,h4,h5,h6,h7⟩=>exact⟨A,n,c,h1,h2,h3,h4,h5,h6,fun ad e=>Nat.le_trans hB (h7 ad e)⟩
theorem NumV.kind {B:Nat} {w:World} {o:Option (Bool×Nat)} {v0 v1:Value} (h:NumV B w o v0 v1):(∃b,v0=.bool b)∧∃A n c,v1=.slice A n c:=by
 match o,h with
 | none,⟨h1,h2⟩=>exact⟨⟨_,h1⟩,_,_,_,h2⟩
 | some (neg,m),⟨A,n,c,h1,h2,_⟩=>exact⟨⟨_,h1⟩,_,_,_,h2⟩
theorem read_num (l:List Nat) (w:World) (hby:By l):Calls Tryz.prog 141 #[.string (mks l)] w fun e w'=>
  Below w.heap.size w w'∧∃(b:Bool) (A:Option Addr) (n c:Nat),e=.returned (.tuple #[.agg #[.bool b,.slice A n c],.bool (parseC l).isSome])∧NumV w.heap.size w' (parseC l) (.bool b) (.slice A n c):=by
 refine(read_any l w hby).mono fun e w' ⟨hb,h⟩=>⟨hb,?_⟩
 cases hp:parseC l with
 | none=>rw [hp] at h;exact⟨false,none,0,0,h,rfl,rfl⟩
 | some x=>
  obtain⟨neg,m⟩:=x
  rw [hp] at h
  obtain⟨A,n,c,he,h3,h4,h5,h6,h7⟩:=h
  exact⟨neg,A,n,c,he,A,n,c,rfl,rfl,h3,h4,h5,h6,h7⟩
end Go.Proofs.YtnnnagnjikdnnaaGreatDoor
namespace Go.Proofs.YtnnnagnjikdnnaaGreatDoor
open Go.RowKit
end Go.Proofs.YtnnnagnjikdnnaaGreatDoor
namespace Go.Proofs.YtnnnagnjikdnnaaGreatDoor
open Go.RowKit
end Go.Proofs.YtnnnagnjikdnnaaGreatDoor
namespace Go.Proofs.YtnnnagnjikdnnaaGreatDoor
open Go.RowKit
def tS (x:Bool×Nat):List Nat:=if (dg x.2).length≤400 then ntx x.1 x.2 else []
def tE (x:Bool×Nat):Int:=if (dg x.2).length≤400 then 0 else 6
end Go.Proofs.YtnnnagnjikdnnaaGreatDoor
namespace Go.Proofs.YtnnnagnjikdnnaaGreatDoor
open Go.RowKit
end Go.Proofs.YtnnnagnjikdnnaaGreatDoor
namespace Go.Proofs.YtnnnagnjikdnnaaGreatDoor
open Go.RowKit
set_option maxHeartbeats 2000000 in
theorem valid_any (l:List Nat) (w:World) (hl:By l):Calls Tryz.prog 111 #[.string (mks l)] w fun e w'=>
  e=.returned (.bool (parseC l).isSome)∧Below w.heap.size w w':=by
 have H1:=Lib.hid (read_num l w hl)
 generalize parseC l=o at *
 go_enter Tryz.func111,Tryz.ntmps111
 go_wp2_with (go_at_call 141;go_loud (refine H1.out.mono ?_;rintro e w1 ⟨hb1,b1,A1,n1,c1,rfl,_⟩))
 go_ret
 exact⟨rfl,hb1.alloc hb1.size _⟩
end Go.Proofs.YtnnnagnjikdnnaaGreatDoor
namespace Go.Proofs.YtnnnagnjikdnnaaGreatDoor
open Go.RowKit
end Go.Proofs.YtnnnagnjikdnnaaGreatDoor
namespace Go.Proofs.YtnnnagnjikdnnaaGreatDoor
open Go.RowKit
section
variable {P:Program} {w:World} {ops:Array Oper} {rest:List Oper} {o:Oper} {a:Act} {Q:Exit→Act→World→Prop}
theorem wpList_apl (hg:o.guard=none) (s x:Operand) (t:TypeId) (ho:o.op=.call { callee:=.builtin .append,args:=#[s,x],argTypes:=#[t,t] }) (base:Nat) (e:TypeId) (z:Value) (bytes:Nat)
  (ht:P.underlying t=some (.slice e)) (h2:(P.info? e).map (fun i=>(i.zero,i.size,i.bytes))=some (some z,1,bytes)) (hz:z.cells=#[z])
  (v:Value) (n:Nat) (xs:List Value) (hs:a.eval s=v) (hown:w.ownsRow base e 1 v n xs) (A:Option Addr) (m c:Nat) (news:List Value) (hx:a.eval x=.slice A m c)
  (hr:Rd w A news) (hm:news.length=m) (hA:A=none→c=0) (h1:∀u∈news,u.oneCell'=true) (hmx:n+m≤maxLen) (hb:(n+m)*bytes≤140737488355328) (hbase:base≤w.heap.size)
  (hK:∀v' w',w'.ownsRow base e 1 v' (n+m) (xs ++ news)→w.grownBy w' v.ownBlock→wpList P ops Q rest (a.put o.dst v') w'):wpList P ops Q (o :: rest) a w:=by
 obtain⟨i,hi,hz1,hz2,hz3⟩:=info_parts h2
 cases A with
 | none=>
  have hn:news = []:=by
   cases news with
   | nil=>rfl
   | cons u l=>obtain⟨ad,h,_⟩:=hr 0 u rfl;cases h
  subst hn
  have hm0:m=0:=by simpa using hm.symm
  subst hm0
  have hc0:=hA rfl
  subst hc0
  exact wpList_append_own_none hg s x t ho base e i 1 ht hi v n xs hs hown hx (hK v w (by simpa using hown) (World.grownBy.refl _ _))
 | some ad=>
  refine wpList_append_own w hg s x t ho base e i z 1 bytes ht hi hz1 hz2 hz3 (by rw [hz];rfl) (by decide) v n xs hs hown ad m c news hx (by omega) ?_ h1 hmx hb hbase (fun v' w' h3 h4 _=>hK v' w' h3 h4)
  intro j y hj
  obtain⟨ad',e',hc⟩:=hr j y hj
  obtain rfl:=Option.some.inj e'
  exact hc
end
theorem Below.allocDrew {B:Nat} {a w:World} (h:Below B a w.drew) (hB:B≤w.heap.size) (o:Obj):Below B a (w.alloc o).drew:=Below.alloc (w:=w.drew) h hB o
theorem own_rd2 {w:World} {base:Nat} {e:TypeId} {v:Value} {n:Nat} {xs:List Value} (h:w.ownsRow base e 1 v n xs) :
  ∃A c,v=.slice A n c∧Hid (n=xs.length)∧n≤c∧c≤maxLen∧Rd w A xs∧From base A∧(A=none→c=0):=by
 obtain⟨A,c,rfl,h1,h2,h3,h4,h5⟩:=own_rd h
 refine⟨A,c,rfl,h1,h2,h3,h4,h5,?_⟩
 rintro rfl
 rcases h.2 with⟨he,_⟩ | ⟨g,cap,cur,he,_⟩
 ·simp at he;omega
 ·simp at he
section
variable {P:Program} {w:World} {ops:Array Oper} {o:Oper} {a:Act} {K:Act→World→Prop} {Q:Exit→Act→World→Prop} {E:Prop}
end
end Go.Proofs.YtnnnagnjikdnnaaGreatDoor
namespace Go.Proofs.YtnnnagnjikdnnaaGreatDoor
open Go.RowKit
end Go.Proofs.YtnnnagnjikdnnaaGreatDoor
namespace Go.Proofs.YtnnnagnjikdnnaaGreatDoor
open Go.RowKit
def lead (z:Nat):List Nat→List Nat
  | []=>[]
  | c :: l=>if c=z then lead z l else c :: l
theorem lead_eq {z:Nat} {l:List Nat}:lead z (z :: l)=lead z l:=by simp [lead]
theorem lead_ne {z c:Nat} {l:List Nat} (h:c≠z):lead z (c :: l)=c :: l:=by simp [lead,h]
theorem lead_le (z:Nat) (l:List Nat):(lead z l).length≤l.length:=by
  induction l with
  | nil=>simp [lead]
  | cons c l ih=>unfold lead;split <;> simp;omega
theorem By.lead {z:Nat} {l:List Nat} (h:By l):By (lead z l):=by
  induction l with
  | nil=>exact h
  | cons c l ih => unfold Go.Proofs.YtnnnagnjikdnnaaGreatDoor.lead; split; · exact ih h.tail
                   · exact h
def horF (b:Nat) (f:Nat→Nat) (l:List Nat) (a:Nat):Nat:=l.foldl (fun a c=>a*b+f c) a
def hor (b:Nat) (f:Nat→Nat) (l:List Nat):Nat:=horF b f l 0
@[go_sem] theorem mks_isEmpty (l:List Nat):(mks l).toList.isEmpty=l.isEmpty:=by rw [toList_mks];cases l <;> rfl
@[go_sem] theorem mks_eq_nil (l:List Nat):((mks l).toList = [])=(l = []):=by rw [toList_mks];simp
def sigN (neg:Bool) (m:Nat):Bool×Nat:=(neg && decide (0<m),m)
end Go.Proofs.YtnnnagnjikdnnaaGreatDoor
namespace Go.Proofs.YtnnnagnjikdnnaaGreatDoor
open Go.RowKit
theorem Tryz.sz194:(Tryz.prog.info? 194).map (·.size)=some 3:=by kernel_rfl
def normV (neg:Bool) (d:List Nat) (ex:Int):Bool×List Nat×Int:=
  if tlen (lead 0 d)=0 then (false,[],0) else (neg,(lead 0 d).take (tlen (lead 0 d)),ex+(((lead 0 d).length - tlen (lead 0 d):Nat):Int))
def NumR (w:World) (x:Bool×List Nat×Int) (e:Ending) (w':World):Prop:=
  ∃A n c,e=.returned (.agg #[.bool x.1,.slice A n c,.int .i64 x.2.2])∧Hid (n=x.2.1.length)∧n≤c∧Rd w' A (B8 x.2.1)∧From w.heap.size A∧Below w.heap.size w w'
set_option maxHeartbeats 2000000 in
theorem norm_any (neg : Bool) (ad : Addr) (n c : Nat) (d : List Nat) (ex : Int) (w : World) (hn : Hid (n = d.length)) (hr : Rd w (some ad) (B8 d)) (hc : n ≤ c) (hm : n ≤ 4294967296) (hcm : c ≤ maxLen)
    (h1:-4398046511104≤ex) (h2:ex≤4398046511104) :
    Calls Tryz.prog 169 #[.bool neg,.slice (some ad) n c,.int .i64 ex] w (NumR w (normV neg d ex)):=by
  generalize hv:normV neg d ex=v
  have HV:=Lib.hid hv
  clear hv
  unfold maxLen at hcm
  go_enter Tryz.func169,Tryz.ntmps169
  go_wp2
  go_loopw [1] (fun sv wr=>∃(k:Nat) (B:Addr),k≤n∧sv=.slice (some B) (n - k) (c - k)∧Hid (k<n→B=ad.add k)∧Hid (lead 0 (d.drop k)=lead 0 d)∧w.alloc (.cells #[.bool false,.slice none 0 0,.int .i64 0] 194)=wr) (fun sv _=>match sv with | .slice _ k _=>k | _=>0)
  case atStart=>exact⟨0,ad,Nat.zero_le _,rfl,fun _=>by simp [Addr.add],rfl,rfl⟩
  case round=>
    obtain⟨k,B,hk,rfl,hB,hlead,rfl⟩:=hrel
    have hcase:(k<n∧B=ad.add k∧d[k]? = some 0)∨(k<n∧B=ad.add k∧∃x,d[k]? = some x∧x≠0)∨k=n:=by
      by_cases hlt:k<n
      · obtain⟨x,hx⟩:∃x,d[k]? = some x:=⟨_,List.getElem?_eq_getElem (by have:=hn.out;omega)⟩
        by_cases hx0:x=0
        · subst hx0;exact .inl ⟨hlt,hB.out hlt,hx⟩
        · exact .inr (.inl ⟨hlt,hB.out hlt,x,hx,hx0⟩)
      · exact .inr (.inr (by omega))
    have hrd:∀x,B=ad.add k→d[k]? = some x→(w.alloc (.cells #[.bool false,.slice none 0 0,.int .i64 0] 194)).cell? B=some (.int .u8 (x:Int)):=by
      rintro x rfl hx
      obtain⟨ad',e',hc'⟩:=(hr.alloc (.cells #[.bool false,.slice none 0 0,.int .i64 0] 194)) k _ (B8_get hx)
      obtain rfl:=Option.some.inj e'
      exact hc'
    rcases hcase with⟨hlt,hBe,hx⟩ | hcase
    · have hcell:=hrd 0 hBe hx
      have b1:(0:Int)<((n - k:Nat):Int):=by omega
      have b0:(0:Int)<(n:Int) - k:=by omega
      have hdr:=drop_cons hx
      have hl2:lead 0 (d.drop (k+1))=lead 0 d:=by rw [←hlead.out,hdr,lead_eq]
      have HL:=Lib.hid hl2
      have HBE:=Lib.hid hBe
      clear hdr hl2 hx hrd hBe hB
      go_wp2
      refine⟨⟨k+1,if c - k=1 then B else B.add 1,by omega,?_,?_,HL,trivial⟩,by show n - k - 1<n - k;omega⟩
      · have e1:n - k - 1=n - (k+1):=by omega
        have e2:c - k - 1=c - (k+1):=by omega
        rw [e1,e2]
        split <;> simp [Addr.add]
      · intro h
        rw [if_neg (by omega),HBE.out,add_add]
    · have hfin : Hid (lead 0 d = d.drop k) := by
        show _=_
        rcases hcase with⟨_,_,x,hx,hx0⟩ | rfl
        · rw [←hlead.out,drop_cons hx,lead_ne hx0]
        · rw [←hlead.out,List.drop_eq_nil_of_le (by have:=hn.out;omega)];rfl
      have HV2:Hid ((if tlen (d.drop k)=0 then (false,[],0) else (neg,(d.drop k).take (tlen (d.drop k)),ex+(((d.drop k).length - tlen (d.drop k):Nat):Int)))=v):=by
        have h:=HV.out
        unfold normV at h
        rw [hfin.out] at h
        exact h
      obtain⟨m,hm2⟩:∃m,m=n - k:=⟨_,rfl⟩
      obtain⟨cc,hcc⟩:∃cc,cc=c - k:=⟨_,rfl⟩
      have hdl:Hid ((d.drop k).length=m):=by show _=_;have:=hn.out;simp;omega
      have HRD:Hid (Rd (w.alloc (.cells #[.bool false,.slice none 0 0,.int .i64 0] 194)) (some B) (B8 (d.drop k))):=by
        show Rd _ _ _
        rcases hcase with⟨_,hBe,_⟩ | rfl
        · rw [hBe]
          have h:=(hr.drop k).alloc (.cells #[.bool false,.slice none 0 0,.int .i64 0] 194)
          unfold B8 at h ⊢
          rwa [List.map_drop]
        · rw [List.drop_eq_nil_of_le (by have:=hn.out;omega)]
          exact Rd.nil
      have hhead:(0<m∧∃x:Nat,(w.alloc (.cells #[.bool false,.slice none 0 0,.int .i64 0] 194)).cell? B=some (.int .u8 (x:Int))∧((x:Int) == 0)=false)∨m=0:=by
        rcases hcase with⟨hlt,hBe,x,hx,hx0⟩ | rfl
        · exact .inl ⟨by omega,x,hrd x hBe hx,by simp;omega⟩
        · exact .inr (by omega)
      rw [←hm2,←hcc]
      have hmc:m≤cc:=by omega
      have hm9:m≤4294967296:=by omega
      have hc9:cc≤9223372036854775807:=by omega
      clear hfin HV hlead hB hcase hrd hm2 hcc hn hr hc hm hcm hk
      generalize d.drop k=d1 at *
      have HBd:Below w.heap.size w (w.alloc (.cells #[.bool false,.slice none 0 0,.int .i64 0] 194)):=(Below.refl _ _).alloc (Nat.le_refl _) _
      have HAr:=Lib.hid (Arr.new w 194 [.bool false,.slice none 0 0,.int .i64 0])
      generalize (w.alloc (.cells #[.bool false,.slice none 0 0,.int .i64 0] 194))=W at *
      have hlow:w.heap.size<W.heap.size:=HAr.out.lt
      rcases hhead with⟨hm0,x,hcell,hx0⟩ | hm0
      all_goals
        first | (have hm0':¬(0:Int)<(m:Int):=by omega) | have hm0':(0:Int)<(m:Int):=by omega
        clear hm0
        go_wp2
        go_loopw [1,2] (fun sv ev wr=>∃j:Nat,j≤m∧sv=.slice (some B) j cc∧ev=.int .i64 (ex+((m - j:Nat):Int))∧Hid (tlen (d1.take j)=tlen d1)∧W=wr) (fun sv _ _=>match sv with | .slice _ k _=>k | _=>0)
        case atStart=>exact⟨m,Nat.le_refl _,rfl,by simp,by show _=_;rw [List.take_of_length_le (by have:=hdl.out;omega)],rfl⟩
        case round=>
          obtain⟨j,hj,rfl,rfl,htl,rfl⟩:=hrel
          clear hm0'
          by_cases hj0:j=0
          · subst hj0
            have hv1:v=(false,[],0):=by
              have h:=HV2.out
              rw [if_pos (by rw [←htl.out];simp [tlen])] at h
              exact h.symm
            subst hv1
            have hm00:tlen (d1.take 0)=0:=rfl
            clear HV2 htl
            go_wp2_with ((with_reducible show wpList _ _ _ (Oper.mk none (Op.store 194 (Operand.tmp 6) (Operand.tmp 41)) _ _ _ _ :: _) _ _);go_loud (refine wpList_sr rfl rfl 194 (.tmp 6) (.tmp 41) rfl (w.heap.size) [.bool false,.slice none 0 0,.int .i64 0] rfl rfl 194 _ HAr.out _ Tryz.sz194 (by first | rfl | simp) (by first | rfl | simp) (by first | rfl | simp [Value.oneCell']) ?_;intro w5 hr5 hg5 hz5))
            have r0:=hr5.out.cell' (i:=0) rfl
            have r1:=hr5.out.cell' (i:=1) rfl
            have r2:=hr5.out.cell' (i:=2) rfl
            refine bodyPost_ret (v:=.agg #[.bool false,.slice none 0 0,.int .i64 0]) (by simp [results,Tryz.results169,go_sem,r0,r1,r2]) rfl ?_
            exact⟨none,0,0,rfl,rfl,Nat.le_refl _,Rd.nil,(fun _ h=>by cases h),HBd.grown hg5 HBd.size (fun k e=>by have:=Option.some.inj e;omega)⟩
          · first
            | (exfalso;omega)
            | (obtain ⟨y, hy⟩ : ∃ y, d1[j-1]? = some y := ⟨_, List.getElem?_eq_getElem (by have := hdl.out; omega)⟩
               obtain⟨B',hB',hcell2⟩:=HRD.out.at_ (B8_get hy)
               obtain rfl:=Option.some.inj hB'
               have hs:=tlen_take_succ hy
               rw [show j - 1+1=j by omega] at hs
               have HS:=Lib.hid hs;clear hs
               have e1:((j:Int) - 1).toNat=j - 1:=by omega
               have e2:(0:Int)<(j:Int):=by omega
               have e3:(0:Int)≤(j:Int) - 1:=by omega
               clear hy hB'
               by_cases hz:y=0
               · subst hz
                 go_wp2
                 refine⟨⟨j - 1,by omega,rfl,i64e (by omega),?_,trivial⟩,by show j - 1<j;omega⟩
                 have h1:=HS.out
                 rw [if_pos rfl] at h1
                 exact h1.symm.trans htl.out
               · have hz':((y:Int) == 0)=false:=by simp;omega
                 have htj:tlen d1=j:=by
                   have h1:=HS.out
                   rw [if_neg hz] at h1
                   rw [←htl.out]
                   omega
                 have hv1:v=(neg,d1.take j,ex+((m - j:Nat):Int)):=by
                   have h:=HV2.out
                   rw [if_neg (by omega),htj,hdl.out] at h
                   exact h.symm
                 subst hv1
                 have hl1:(d1.take j).length=j:=by rw [List.length_take];have:=hdl.out;omega
                 have HL1:=Lib.hid hl1
                 clear HV2 htl HS htj hl1
                 have hrt:=HRD.out.take j
                 have hB8:(B8 d1).take j=B8 (d1.take j):=by unfold B8;rw [List.map_take]
                 rw [hB8] at hrt
                 clear hB8
                 have HRT:=Lib.hid hrt
                 clear hrt
                 go_wp2_with (first | (at_make;go_loud (refine wpList_mk rfl _ _ 47 rfl 5 _ _ Tryz.underlying47 Tryz.info5 rfl _ _ _ _ rfl rfl (j) (j) (by omega) (by omega) (by omega) (by omega) (by unfold maxLen;omega) ?_;intro g w1 hg harr hbl hsz)) | (with_reducible refine wpList_cp rfl (.tmp 45) (.tmp 46) 47 47 rfl 5 Tryz.underlying47 Tryz.size5 g (j) (j) (j) cc (some B) rfl rfl _ _ harr.out (by simp) (B8 (d1.take j)) (HRT.out.keep hbl) (by rw [length_B8];exact HL1.out) (Nat.le_refl _) (B8_one _) ?_;intro w2 harr2 hgr2 hsz2) | ((with_reducible show wpList _ _ _ (Oper.mk none (Op.store 194 (Operand.tmp 6) (Operand.tmp 51)) _ _ _ _ :: _) _ _);go_loud (refine wpList_sr rfl rfl 194 (.tmp 6) (.tmp 51) rfl (w.heap.size) [.bool neg,.slice (some ⟨g,0,none⟩) j j,.int .i64 (ex+((m - j:Nat):Int))] rfl rfl 194 _ ((HAr.out.keep hbl).grown hgr2 (by intro e;have:=Option.some.inj e;have:=hg.out;omega)) _ Tryz.sz194 (by first | rfl | simp) (by first | rfl | simp) (by first | rfl | simp [Value.oneCell']) ?_;intro w5 hr5 hg5 hz5)))
                 have hlg:=hg.out
                 have r0:=hr5.out.cell' (i:=0) rfl
                 have r1:=hr5.out.cell' (i:=1) rfl
                 have r2:=hr5.out.cell' (i:=2) rfl
                 refine bodyPost_ret (v:=.agg #[.bool neg,.slice (some ⟨g,0,none⟩) j j,.int .i64 (ex+((m - j:Nat):Int))]) (by simp [results,Tryz.results169,go_sem,r0,r1,r2]) rfl ?_
                 have harr3:=harr2.out
                 rw [List.drop_eq_nil_of_le (by simp),List.append_nil] at harr3
                 refine⟨some ⟨g,0,none⟩,j,j,rfl,HL1.out.symm,Nat.le_refl _,(harr3.grown hg5 (by intro e;have:=Option.some.inj e;omega)).rd,?_,?_⟩
                 · rintro ad e;obtain rfl:=Option.some.inj e;show w.heap.size≤g;omega
                 · have hB1:=HBd.trans (hbl.mono (by omega))
                   refine Below.grown (Below.grown hB1 hgr2 (by have:=hbl.size;omega) (fun k e=>by have:=Option.some.inj e;omega)) hg5 ?_ (fun k e=>by have:=Option.some.inj e;omega)
                   have:=hsz2.out;have:=hsz.out;omega)
end Go.Proofs.YtnnnagnjikdnnaaGreatDoor
namespace Go.Proofs.YtnnnagnjikdnnaaGreatDoor
open Go.RowKit
def limV (x:Bool×List Nat×Int):Int:=if 400<x.2.1.length then 6 else if x.2.2 < -2000∨2000<x.2.2 then 2 else 0
set_option maxHeartbeats 1000000 in
theorem limit_any (x:Bool×List Nat×Int) (A:Option Addr) (n c:Nat) (w:World) (hn:Hid (n=x.2.1.length)) :
  Calls Tryz.prog 171 #[.agg #[.bool x.1,.slice A n c,.int .i64 x.2.2]] w fun e w'=>e=.returned (.int .i64 (limV x))∧Below w.heap.size w w':=by
 have hv:limV x=if 400<n then 6 else if x.2.2 < -2000∨2000<x.2.2 then 2 else 0:=by unfold limV;rw [hn.out]
 rw [hv]
 have HX:=Arr.new w 194 [.bool x.1,.slice A n c,.int .i64 x.2.2]
 have HBd:Below w.heap.size w (w.alloc (.cells #[.bool x.1,.slice A n c,.int .i64 x.2.2] 194)):=(Below.refl _ _).alloc (Nat.le_refl _) _
 have x0:=HX.cell' (i:=0) rfl
 have x1:=HX.cell' (i:=1) rfl
 have x2:=HX.cell' (i:=2) rfl
 clear hv
 go_enter Tryz.func171,Tryz.ntmps171
 go_upto_region 1 with(fail)
 generalize (w.alloc (.cells #[.bool x.1,.slice A n c,.int .i64 x.2.2] 194))=W at *
 go_wp2
 all_goals
  go_ret
  refine⟨ret_i ?_,HBd⟩
  (repeat' split) <;> omega
def signL (neg:Bool):List Nat:=if neg then [45] else []
set_option maxHeartbeats 1000000 in
theorem sign_any (x:Bool×List Nat×Int) (A:Option Addr) (n c:Nat) (w:World) :
  Calls Tryz.prog 226 #[.agg #[.bool x.1,.slice A n c,.int .i64 x.2.2]] w fun e w'=>e=.returned (.string (mks (signL x.1)))∧Below w.heap.size w w':=by
 have HX:=Arr.new w 194 [.bool x.1,.slice A n c,.int .i64 x.2.2]
 have HBd:Below w.heap.size w (w.alloc (.cells #[.bool x.1,.slice A n c,.int .i64 x.2.2] 194)):=(Below.refl _ _).alloc (Nat.le_refl _) _
 have x0:=HX.cell' (i:=0) rfl
 go_enter Tryz.func226,Tryz.ntmps226
 go_upto_region 1 with(fail)
 generalize (w.alloc (.cells #[.bool x.1,.slice A n c,.int .i64 x.2.2] 194))=W at *
 obtain⟨neg,d,ex⟩:=x
 cases neg
 all_goals
  go_wp2
  go_ret
  exact⟨rfl,HBd⟩
theorem asc_set {d:List Nat} {k c:Nat} (hd:d[k]? = some c):((asc (d.take k) ++ List.replicate (d.length - k) 0).set k (48+c))=asc (d.take (k+1)) ++ List.replicate (d.length - (k+1)) 0:=by
 have h:=List.getElem?_eq_some_iff.1 hd
 have hk:=h.1
 have e1:List.replicate (d.length - k) 0=0 :: List.replicate (d.length - (k+1)) 0:=by
  rw [←List.replicate_succ];congr 1;omega
 rw [e1,set_mid (by simp [asc];omega),List.take_succ_eq_append_getElem h.1,h.2]
 simp [asc]
set_option maxRecDepth 8000 in
set_option maxHeartbeats 1000000 in
theorem digits_any (neg:Bool) (d:List Nat) (ex:Int) (A:Option Addr) (n c:Nat) (w:World) (hn:Hid (n=d.length)) (hr:Rd w A (B8 d)) (ht:Ten d) (hm:n≤4294967296) :
  Calls Tryz.prog 227 #[.agg #[.bool neg,.slice A n c,.int .i64 ex]] w fun e w'=>e=.returned (.string (mks (asc d)))∧Below w.heap.size w w':=by
 have HX:=Lib.hid (Arr.new w 194 [.bool neg,.slice A n c,.int .i64 ex])
 have HBd:Below w.heap.size w (w.alloc (.cells #[.bool neg,.slice A n c,.int .i64 ex] 194)):=(Below.refl _ _).alloc (Nat.le_refl _) _
 go_enter Tryz.func227,Tryz.ntmps227
 go_upto_region 1 with(fail)
 have hlow:w.heap.size<(w.alloc (.cells #[.bool neg,.slice A n c,.int .i64 ex] 194)).heap.size:=HX.out.lt
 generalize (w.alloc (.cells #[.bool neg,.slice A n c,.int .i64 ex] 194))=W at *
 have x1:=HX.out.cell' (i:=1) rfl
 go_wp2_with (at_make;go_loud (refine wpList_mk rfl _ _ 47 rfl 5 _ _ Tryz.underlying47 Tryz.info5 rfl _ _ _ _ rfl rfl (n) (n) (by omega) (by omega) (by omega) (by omega) (by unfold maxLen;omega) ?_;intro g w1 hg harr hbl hsz;have x1':=(HX.out.keep hbl).cell' (i:=1) rfl))
 have hS1:Hid (Arr w1 g 5 (B8 (asc (d.take 0) ++ List.replicate (d.length - 0) 0))):=by
  have h:=harr.out
  show Arr _ _ _ _
  have e:B8 (asc (d.take 0) ++ List.replicate (d.length - 0) 0)=List.replicate n (.int .u8 0):=by simp [asc,B8,hn.out]
  rw [e];exact h
 have hB1:Below w.heap.size w w1:=HBd.trans (hbl.mono (by omega))
 have hwg:w.heap.size≤g:=by have:=hg.out;omega
 clear harr hsz x1 hbl
 try clear x1'
 go_loopw [13] (fun iv wr=>∃k:Nat,k≤n∧iv=.int .i64 (k:Int)∧Hid (Arr wr g 5 (B8 (asc (d.take k) ++ List.replicate (d.length - k) 0)))∧Below w.heap.size w wr) (fun iv _=>n - (intOf iv).toNat)
 case atStart=>exact⟨0,by omega,rfl,hS1,hB1⟩
 case round=>
  clear hS1 hB1
  obtain⟨k,hk,rfl,ha,hb⟩:=hrel
  by_cases hlt:k<n
  ·obtain⟨x,hx⟩:∃x,d[k]? = some x:=⟨_,List.getElem?_eq_getElem (by have:=hn.out;omega)⟩
   have cb:=ht.get hx
   obtain⟨ad,rfl,hcell0⟩:=hr.at_ (B8_get hx)
   have hcell:=(hb.cell (block_lt_of_cell hcell0)).trans hcell0
   have hget:(asc (d.take k) ++ List.replicate (d.length - k) 0)[k]? = some 0:=by
    have:=hn.out
    rw [List.getElem?_append_right (by simp [asc];omega),List.getElem?_replicate,if_pos (by simp [asc];omega)]
   have hc2:=ha.out.cell' (B8_get hget)
   have hfr:=ha.out.frozen k
   have hst:=ha.out.store k (.int .u8 ((48+x:Nat):Int))
   rw [B8_set,asc_set hx] at hst
   have ecast:((48+x:Nat):Int)=48+(x:Int):=by omega
   rw [ecast] at hst
   have HST:=Lib.hid hst
   have hB2:=hb.setCell (p:=⟨g,k,none⟩) (by show w.heap.size≤g;omega) (.int .u8 (48+(x:Int)))
   clear hst ecast hget hx hcell0
   go_wp2
   go_roundw
   case rel=>exact⟨k+1,by omega,by go_num,HST,hB2⟩
   case measure=>simp [intOf];omega
  ·obtain rfl:k=n:=by omega
   have hrd:=ha.out.rd
   have hkn:=hn.out
   rw [List.take_of_length_le (by omega),show d.length - k=0 by omega,List.replicate_zero,List.append_nil] at hrd
   have hcv:=run_str (P:=Tryz.prog) wr 47 9 5 Tryz.underlying47 Tryz.underlying5 Tryz.underlying9 (some ⟨g,0,none⟩) k k _ hrd (by simp [asc];omega)
   clear hkn hrd ha
   go_wp2
   go_ret
   exact⟨rfl,hb⟩
end Go.Proofs.YtnnnagnjikdnnaaGreatDoor
namespace Go.Proofs.YtnnnagnjikdnnaaGreatDoor
open Go.RowKit
def coefL (neg:Bool) (d:List Nat):List Nat:=if d = [] then [48] else signL neg ++ asc d
set_option maxRecDepth 8000 in
set_option maxHeartbeats 2000000 in
theorem coef_any (neg:Bool) (d:List Nat) (ex:Int) (A:Option Addr) (n c:Nat) (w:World) (hn:Hid (n=d.length)) (hr:Rd w A (B8 d)) (ht:Ten d) (hm:n≤4294967296) :
  Calls Tryz.prog 200 #[.agg #[.bool neg,.slice A n c,.int .i64 ex]] w fun e w'=>e=.returned (.string (mks (coefL neg d)))∧Below w.heap.size w w':=by
 generalize hcl:coefL neg d=cl
 have HCL:=Lib.hid hcl
 clear hcl
 have HX:=Lib.hid (Arr.new w 194 [.bool neg,.slice A n c,.int .i64 ex])
 have HBd:Below w.heap.size w (w.alloc (.cells #[.bool neg,.slice A n c,.int .i64 ex] 194)):=(Below.refl _ _).alloc (Nat.le_refl _) _
 have hrW:=hr.keep HBd
 go_enter Tryz.func200,Tryz.ntmps200
 go_upto_region 1 with(fail)
 have hlow:w.heap.size<(w.alloc (.cells #[.bool neg,.slice A n c,.int .i64 ex] 194)).heap.size:=HX.out.lt
 generalize (w.alloc (.cells #[.bool neg,.slice A n c,.int .i64 ex] 194))=W at *
 have x1:=HX.out.cell' (i:=1) rfl
 by_cases hd:d = []
 ·subst hd
  have hn0:n=0:=by have:=hn.out;simpa using this
  subst hn0
  have hc:cl = [48]:=HCL.out.symm
  subst hc
  have e48:(ByteArray.mk #[48]:ByteArray)=mks [48]:=mks_lit1 48
  go_wp2
  go_ret
  exact⟨rfl,HBd⟩
 ·have hc:cl=signL neg ++ asc d:=by rw [←HCL.out];unfold coefL;rw [if_neg hd]
  subst hc
  clear HCL
  have hn0:((n:Int) == 0)=false:=by
   have h1:=hn.out
   have h2:0<d.length:=List.length_pos_iff.2 hd
   simp;omega
  go_upto_region 3 with(fail)
  obtain⟨zz,hzz⟩:∃zz,Hid (W.heap.size=zz):=⟨_,rfl⟩
  have hz1:w.heap.size<zz:=by have:=hzz.out;omega
  have hz2:zz≤W.heap.size:=by have:=hzz.out;omega
  have RX:∀w',Below zz W w'→Rd w' A (B8 d):=fun w' h=>hrW.keep (by rw [hzz.out];exact h)
  have q0:∀w',Below zz W w'→w'.cell? ⟨w.heap.size,0,none⟩=some (.bool neg):=fun w' h=>(Arr.below (w:=W) HX.out h (by omega)).cell' (i:=0) rfl;have qf0:∀w',Below zz W w'→w'.frozen? ⟨w.heap.size,0,none⟩=false:=fun w' h=>(Arr.below (w:=W) HX.out h (by omega)).frozen 0;have q1:∀w',Below zz W w'→w'.cell? ⟨w.heap.size,1,none⟩=some (.slice A n c):=fun w' h=>(Arr.below (w:=W) HX.out h (by omega)).cell' (i:=1) rfl;have qf1:∀w',Below zz W w'→w'.frozen? ⟨w.heap.size,1,none⟩=false:=fun w' h=>(Arr.below (w:=W) HX.out h (by omega)).frozen 1;have q2:∀w',Below zz W w'→w'.cell? ⟨w.heap.size,2,none⟩=some (.int .i64 ex):=fun w' h=>(Arr.below (w:=W) HX.out h (by omega)).cell' (i:=2) rfl;have qf2:∀w',Below zz W w'→w'.frozen? ⟨w.heap.size,2,none⟩=false:=fun w' h=>(Arr.below (w:=W) HX.out h (by omega)).frozen 2
  have E1:Hid (∀w,Calls Tryz.prog 226 #[.agg #[.bool neg,.slice A n c,.int .i64 ex]] w fun e w'=>e=.returned (.string (mks (signL neg)))∧Below w.heap.size w w'):=fun w=>sign_any (neg,d,ex) A n c w
  have E2:Hid (∀w,Below zz W w→Calls Tryz.prog 227 #[.agg #[.bool neg,.slice A n c,.int .i64 ex]] w fun e w'=>e=.returned (.string (mks (asc d)))∧Below w.heap.size w w'):=fun w h=>digits_any neg d ex A n c w hn (RX w h) ht hm
  have HS:Below zz W W:=Below.refl _ _
  have HSd:Below zz W W.drew:=Below.drew HS
  have hz3:zz≤W.drew.heap.size:=hz2
  have hl1:(signL neg).length≤1:=by cases neg <;> decide
  have hl2:(asc d).length≤4294967296:=by have:=hn.out;simp [asc];omega
  have hl3:¬9223372036854775807<(signL neg).length+(asc d).length:=by omega
  clear RX hr hrW x1
  go_region_held3 (fun w'=>Below zz W w') (assumption) (first | (go_at_call 226;((with_reducible refine(E1.out _).mono ?_));(all_goals try (fail));rintro e w5 ⟨rfl,hb5⟩;have z5:=hb5.size;(try simp at z5);have hS5_0:Below zz W w5:=Below.trans (by first | assumption | exact Below.alloc (by assumption) (by first | omega | (simp;omega)) _ | exact Below.allocDrew (by assumption) (by first | omega | (simp;omega)) _) (hb5.mono (by first | omega | (simp;omega)))) | (go_at_call 227;((with_reducible refine(E2.out _ (by assumption)).mono ?_));(all_goals try (fail));rintro e w6 ⟨rfl,hb6⟩;have z6:=hb6.size;(try simp at z6);have hS6_0:Below zz W w6:=Below.trans (by first | assumption | exact Below.alloc (by assumption) (by first | omega | (simp;omega)) _ | exact Below.allocDrew (by assumption) (by first | omega | (simp;omega)) _) (hb6.mono (by first | omega | (simp;omega)))))
  all_goals
   go_wp2
   go_ret
   refine⟨rfl,HBd.trans ?_⟩
   have hdw:W.drew.heap.size=W.heap.size:=rfl
   have hW:Below w.heap.size W W.drew:=Below.drew (Below.refl _ _)
   first
    | exact(hW.trans (hb5.mono (by omega))).trans (hb6.mono (by omega))
    | exact(hW.trans (hb6.mono (by omega))).trans (hb5.mono (by omega))
end Go.Proofs.YtnnnagnjikdnnaaGreatDoor
namespace Go.Proofs.YtnnnagnjikdnnaaGreatDoor
open Go.RowKit
def expV (s:List Nat):Option Int:=
  match s with
  | []=>some 0
  | c :: t => if c = 101 ∨ c = 69 then
      (if (if hasP [45] t∨hasP [43] t then t.drop 1 else t) = []∨runL (if hasP [45] t∨hasP [43] t then t.drop 1 else t)≠(if hasP [45] t∨hasP [43] t then t.drop 1 else t).length then none
       else some (if hasP [45] t then -((smallV (if hasP [45] t∨hasP [43] t then t.drop 1 else t) 0:Nat):Int) else ((smallV (if hasP [45] t∨hasP [43] t then t.drop 1 else t) 0:Nat):Int)))
    else none
def fracV (s:List Nat):Option (List Nat×Nat×List Nat):=
  if hasP [46] s then (if runL (s.drop 1)=0 then none else some (dec ((s.drop 1).take (runL (s.drop 1))),runL (s.drop 1),s.drop (runL (s.drop 1)+1))) else some ([],0,s)
def bodyV (neg:Bool) (b:List Nat):Option (Bool×List Nat×Int):=
  if runL b=0∨(1<runL b∧b[0]? = some 48) then none else
    match fracV (b.drop (runL b)) with
    | none=>none
    | some (d',m,r)=>match expV r with
      | none=>none
      | some k=>some (normV neg (dec (b.take (runL b)) ++ d') (-(m:Int)+k))
def numeralV (s:List Nat):Option (Bool×List Nat×Int):=bodyV (hasP [45] s) (if hasP [45] s then s.drop 1 else s)
theorem AllD.by_ {l:List Nat} (h:AllD l):By l:=fun c hc=>by have:=h c hc;omega
end Go.Proofs.YtnnnagnjikdnnaaGreatDoor
namespace Go.Proofs.YtnnnagnjikdnnaaGreatDoor
open Go.RowKit
end Go.Proofs.YtnnnagnjikdnnaaGreatDoor
namespace Go.Proofs.YtnnnagnjikdnnaaGreatDoor
open Go.RowKit
end Go.Proofs.YtnnnagnjikdnnaaGreatDoor
namespace Go.Proofs.YtnnnagnjikdnnaaGreatDoor
open Go.RowKit
end Go.Proofs.YtnnnagnjikdnnaaGreatDoor
namespace Go.Proofs.YtnnnagnjikdnnaaGreatDoor
open Go.RowKit
theorem mks_u8 (l:List UInt8):(⟨l.toArray⟩:ByteArray)=mks (l.map UInt8.toNat):=by
 unfold mks
 rw [List.map_map]
 have:(UInt8.ofNat ∘ UInt8.toNat)=id:=by funext x;simp
 rw [this,List.map_id]
theorem By.u8 (l:List UInt8):By (l.map UInt8.toNat):=by
 intro c hc
 obtain⟨x,_,rfl⟩:=List.mem_map.1 hc
 exact x.toNat_lt
def u8s (l:List Nat):List UInt8:=l.map UInt8.ofNat
def decL (l:List Nat):Nat×Nat:=Lib.decodeL (u8s l)
def encL (r:Int):List Nat:=(Lib.encodeRune r).map UInt8.toNat
def itoaL (n:Int):List Nat:=(Lib.itoa n).map UInt8.toNat
def textV (x:Bool×List Nat×Int):List Nat:=coefL x.1 x.2.1 ++ [101] ++ itoaL x.2.2
def resV (x:Bool×List Nat×Int):List Nat×Int:=if limV x=0 then (textV x,0) else ([],limV x)
def parseDV (s:List Nat):List Nat×Int:=match numeralV s with | none=>([],3) | some x=>resV x
structure JTok where
 kind:Nat
 from_:Nat
 to_:Nat
 text:List Nat
structure JNote where
 from_:Nat
 to_:Nat
 text:List Nat
def litTrue:List Nat:=[116,114,117,101]
def litFalse:List Nat:=[102,97,108,115,101]
def litNull:List Nat:=[110,117,108,108]
def idxB (c:Nat):List Nat→Option Nat
 | []=>none
 | x :: l=>if x=c then some 0 else (idxB c l).map (· + 1)
structure Scanned where
 toks:List JTok
 notes:List JNote
 at_:Nat
 err:Nat
def checkG:Nat→Nat→List Nat→Option Nat
 | 0,_,_=>none
 | f+1,at_,l=>if l = [] then none else if decL l=(65533,1) then some at_ else checkG f (at_+(decL l).2) (l.drop (decL l).2)
def checkV (s:List Nat):Option Nat:=checkG s.length 0 s
end Go.Proofs.YtnnnagnjikdnnaaGreatDoor
