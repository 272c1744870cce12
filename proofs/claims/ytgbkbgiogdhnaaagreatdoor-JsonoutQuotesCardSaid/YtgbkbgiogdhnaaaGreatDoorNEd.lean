/- The reference's way to read UTF-8, as plain functions. -/
import Derived.Test.YtgbkbgiogdhnaaaGreatDoorMAa
import Derived.Test.YtgbkbgiogdhnaaaGreatDoorMAb
import Derived.Laws.IdiomStrings
set_option linter.unusedVariables false
set_option linter.unusedSimpArgs false
set_option linter.defProp false
set_option linter.constructorNameAsVariable false
namespace Go.Proofs.YtgbkbgiogdhnaaaGreatDoor
open Go.RowKit
def leadV (c:Nat):Nat×Nat×Nat×Nat:=
  if 192≤c∧c<224 then (2,c - 192,128,2047) else if 224≤c∧c<240 then (3,c - 224,2048,65535) else if 240≤c∧c<248 then (4,c - 240,65536,1114111) else (0,0,0,0)
def contB (c:Nat):Bool:=decide (128≤c∧c≤191)
def foldV (v:Nat) (l:List Nat):Nat:=l.foldl (fun v c=>64*v+c - 128) v
theorem foldV_nil (v:Nat):foldV v []=v:=rfl
theorem foldV_cons (v c:Nat) (l:List Nat):foldV v (c :: l)=foldV (64*v+c - 128) l:=by unfold foldV;rw [List.foldl_cons]
def loV:Nat→Nat→Nat
  | 0,v=>v
  | k+1,v=>loV k (64*v)
def hiV:Nat→Nat→Nat
  | 0,v=>v
  | k+1,v=>hiV k (64*v+63)
def begV (b:List Nat):Nat×Nat:=
  if b.getD 0 0<128∧b.length=1 then (b.getD 0 0,1)
  else if (leadV (b.getD 0 0)).1<b.length then (0,0)
  else if (b.drop 1).all contB then
    (if hiV ((leadV (b.getD 0 0)).1 - b.length) (foldV (leadV (b.getD 0 0)).2.1 (b.drop 1)) < (leadV (b.getD 0 0)).2.2.1 ∨ (leadV (b.getD 0 0)).2.2.2 < loV ((leadV (b.getD 0 0)).1 - b.length) (foldV (leadV (b.getD 0 0)).2.1 (b.drop 1)) ∨
        (55296≤loV ((leadV (b.getD 0 0)).1 - b.length) (foldV (leadV (b.getD 0 0)).2.1 (b.drop 1))∧hiV ((leadV (b.getD 0 0)).1 - b.length) (foldV (leadV (b.getD 0 0)).2.1 (b.drop 1))≤57343) then (0,0)
     else (loV ((leadV (b.getD 0 0)).1 - b.length) (foldV (leadV (b.getD 0 0)).2.1 (b.drop 1)),(leadV (b.getD 0 0)).1))
  else (0,0)
def atG:Nat→Nat→List Nat→Nat×Nat
  | 0,_,_=>(0,0)
  | m+1,k,l=>if l.length<k then (0,0) else if (begV (l.take k)).2=k then begV (l.take k) else atG m (k+1) l
def atV (l:List Nat):Nat×Nat:=atG 4 1 l
theorem lead_cases (c:Nat):(192≤c∧c<224∧leadV c=(2,c - 192,128,2047))∨(224≤c∧c<240∧leadV c=(3,c - 224,2048,65535))∨(240≤c∧c<248∧leadV c=(4,c - 240,65536,1114111))∨((c<192∨248≤c)∧leadV c=(0,0,0,0)):=by
  unfold leadV
  by_cases h1:192≤c∧c<224
  · rw [if_pos h1];exact .inl ⟨h1.1,h1.2,rfl⟩
  · rw [if_neg h1]
    by_cases h2:224≤c∧c<240
    · rw [if_pos h2];exact .inr (.inl ⟨h2.1,h2.2,rfl⟩)
    · rw [if_neg h2]
      by_cases h3:240≤c∧c<248
      · rw [if_pos h3];exact .inr (.inr (.inl ⟨h3.1,h3.2,rfl⟩))
      · rw [if_neg h3];exact .inr (.inr (.inr ⟨by omega,rfl⟩))
theorem beg_len (a:Nat) (t:List Nat) (h:¬(a<128∧t = [])):(begV (a :: t)).2=0∨(begV (a :: t)).2=(leadV a).1:=by
  unfold begV
  rw [if_neg (by rintro⟨h1,h2⟩;exact h ⟨h1,List.eq_nil_of_length_eq_zero (by simpa using h2)⟩)]
  split
  · exact .inl rfl
  · split
    · split
      · exact .inl rfl
      · exact .inr rfl
    · exact .inl rfl
theorem beg_one (a:Nat) (h:a<128):begV [a]=(a,1):=by
  unfold begV
  rw [if_pos ⟨h,rfl⟩]
  rfl
theorem beg_full (a : Nat) (t : List Nat) (n v0 lo hi : Nat) (hl : leadV a = (n, v0, lo, hi)) (hn : t.length + 1 = n) (ht : t ≠ []) :
    begV (a :: t)=if t.all contB∧lo≤foldV v0 t∧foldV v0 t≤hi∧¬(55296≤foldV v0 t∧foldV v0 t≤57343) then (foldV v0 t,n) else (0,0):=by
  unfold begV
  have hd:(a :: t).drop 1=t:=rfl
  have hg:(a :: t).getD 0 0=a:=rfl
  rw [hd,hg,hl,if_neg (by rintro⟨_,h2⟩;exact ht (List.eq_nil_of_length_eq_zero (by simpa using h2)))]
  simp only [List.length_cons,hn,Nat.lt_irrefl,if_false,Nat.sub_self,loV,hiV]
  by_cases hc:t.all contB=true
  · rw [if_pos hc]
    by_cases hb:foldV v0 t<lo∨hi<foldV v0 t∨55296≤foldV v0 t∧foldV v0 t≤57343
    · rw [if_pos hb,if_neg (by rintro⟨_,h1,h2,h3⟩;omega)]
    · rw [if_neg hb,if_pos ⟨hc,by omega,by omega,by omega⟩]
  · rw [if_neg hc,if_neg (fun h=>hc h.1)]
theorem foldV_bd (l:List Nat) (v:Nat) (h:l.all contB=true):v≤foldV v l∧foldV v l<(v+1)*64 ^ l.length:=by
  induction l generalizing v with
  | nil=>rw [foldV_nil];exact⟨Nat.le_refl _,by rw [List.length_nil,Nat.pow_zero];omega⟩
  | cons c l ih=>
    rw [List.all_cons,Bool.and_eq_true] at h
    have hc:128≤c∧c≤191:=of_decide_eq_true h.1
    have:=ih (64*v+c - 128) h.2
    rw [foldV_cons]
    refine⟨by omega,Nat.lt_of_lt_of_le this.2 ?_⟩
    rw [List.length_cons,Nat.pow_succ,Nat.mul_comm (64 ^ l.length) 64,←Nat.mul_assoc]
    exact Nat.mul_le_mul_right _ (by omega)
theorem foldV_snoc (l:List Nat) (v c:Nat):foldV v (l ++ [c])=64*foldV v l+c - 128:=by
  induction l generalizing v with
  | nil=>rw [List.nil_append,foldV_cons,foldV_nil,foldV_nil]
  | cons x l ih=>rw [List.cons_append,foldV_cons,ih,foldV_cons]
theorem loV_ge (j x:Nat):x≤loV j x:=by
  induction j generalizing x with
  | zero=>exact Nat.le_refl _
  | succ j ih=>have:=ih (64*x);unfold loV;omega
theorem hiV_ge (j x:Nat):x≤hiV j x:=by
  induction j generalizing x with
  | zero=>exact Nat.le_refl _
  | succ j ih=>have:=ih (64*x+63);unfold hiV;omega
theorem ends_bd (m v:Nat) (hm:m≤3) (hv:v<8388608):loV m v<2199023255552∧hiV m v<2199023255552:=by
  match m,hm with
  | 0,_=>simp only [loV,hiV];omega
  | 1,_=>simp only [loV,hiV];omega
  | 2,_=>simp only [loV,hiV];omega
  | 3,_=>simp only [loV,hiV];omega
end Go.Proofs.YtgbkbgiogdhnaaaGreatDoor
namespace Go.Proofs.YtgbkbgiogdhnaaaGreatDoor
open Go.RowKit
def PairQ (w:World) (p:Nat×Nat) (e:Ending) (w':World):Prop:=e=.returned (.tuple #[.int .i64 (p.1:Int),.int .i64 (p.2:Int)])∧∃k,w'=w.drewN k
theorem all_take_succ {l:List Nat} {k x:Nat} (hx:l[k]? = some x):(l.take (k+1)).all contB=((l.take k).all contB && contB x):=by
 rw [List.take_add_one,hx];simp
theorem fold_take_succ {l:List Nat} {k x:Nat} (v:Nat) (hx:l[k]? = some x):foldV v (l.take (k+1))=64*foldV v (l.take k)+x - 128:=by
 rw [List.take_add_one,hx];exact foldV_snoc _ _ _
theorem begV_bad {a x k:Nat} {t:List Nat} (hx:t[k]? = some x) (hc:contB x=false):begV (a :: t)=(0,0):=by
 unfold begV
 have ht:t≠[]:=by rintro rfl;simp at hx
 have hall:((a :: t).drop 1).all contB=false:=by
  show t.all contB=false
  rw [List.all_eq_false]
  exact⟨x,List.mem_of_getElem? hx,by simp [hc]⟩
 rw [if_neg (by rintro⟨_,h2⟩;exact ht (List.eq_nil_of_length_eq_zero (by simpa using h2)))]
 split
 ·rfl
 ·rw [hall,if_neg (by simp)]
theorem begV_long {a n v lo hi:Nat} {t:List Nat} (hl:leadV a=(n,v,lo,hi)) (hn:n<t.length+1) (h:¬(a<128∧t = [])):begV (a :: t)=(0,0):=by
 unfold begV
 have hg:(a :: t).getD 0 0=a:=rfl
 rw [hg,hl,if_neg (by rintro⟨h1,h2⟩;exact h ⟨h1,List.eq_nil_of_length_eq_zero (by simpa using h2)⟩),if_pos (by simpa using hn)]
theorem begV_end {a n v lo hi L H:Nat} {t:List Nat} (hl:leadV a=(n,v,lo,hi)) (hn:t.length+1≤n) (h:¬(a<128∧t = [])) (hc:t.all contB=true) (hL:loV (n - (t.length+1)) (foldV v t)=L) (hH:hiV (n - (t.length+1)) (foldV v t)=H) :
  begV (a :: t)=if H<lo∨hi<L∨(55296≤L∧H≤57343) then (0,0) else (L,n):=by
 unfold begV
 have hg:(a :: t).getD 0 0=a:=rfl
 have hd:(a :: t).drop 1=t:=rfl
 have hlen:(a :: t).length=t.length+1:=rfl
 rw [hg,hd,hlen,hl,if_neg (by rintro⟨h1,h2⟩;exact h ⟨h1,List.eq_nil_of_length_eq_zero (by omega)⟩),if_neg (by simpa using hn),if_pos hc,hL,hH]
set_option maxRecDepth 60000 in
set_option maxHeartbeats 4000000 in
theorem begins_two (a:Nat) (t:List Nat) (h1:192≤a) (h2:a<224) (hb:By t) (hl:t.length+1≤2) (hlead:leadV a=(2,a - 192,128,2047)) (ad:Addr) (n c:Nat) (hn:Hid (n=t.length+1)) (w:World) (hr:Rd w (some ad) (B8 (a :: t))) :
  Calls Tryz.prog 122 #[.slice (some ad) n c] w (PairQ w (begV (a :: t))):=by
 obtain⟨ad',had,hc0⟩:=hr.at_ (k:=0) (u:=.int .u8 (a:Int)) rfl
 obtain rfl:=Option.some.inj had
 replace hc0:w.cell? ad=some (.int .u8 (a:Int)):=hc0
 have hne:¬(a<128∧t = []):=by omega
 have hend:=fun hc L H hL hH=>begV_end (t:=t) (L:=L) (H:=H) hlead hl hne hc hL hH
 have hbad:=fun k x hx hc=>begV_bad (a:=a) (t:=t) (k:=k) (x:=x) hx hc
 generalize begV (a :: t)=p at *
 have HE:=Lib.hid hend
 have HBAD:=Lib.hid hbad
 clear hend hbad hlead hne had
 obtain⟨v0,hv0,hv0b⟩:∃v0,a - 192=v0∧v0<32:=⟨_,rfl,by omega⟩
 have hn1:1≤n:=by have:=hn.out;omega
 have hn4:n≤2:=by have:=hn.out;omega
 have ea:(a:Int) - 192=(v0:Int):=by omega
 rw [hv0] at HE
 clear hv0
 go_enter Tryz.func122,Tryz.ntmps122
 go_wp2
 go_loopw [6,9] (fun vv iv wr=>∃k v i:Nat,Hid (i=k+1)∧k+1≤n∧v<8388608∧Hid (v=foldV v0 (t.take k))∧vv=.int .i64 (v:Int)∧iv=.int .i64 (i:Int)∧Hid ((t.take k).all contB=true)∧∃j,wr=w.drewN j) (fun _ iv _=>n - (intOf iv).toNat)
 case atStart=>exact⟨0,v0,1,rfl,by omega,by omega,rfl,i64e (by omega),i64e (by omega),rfl,by first | exact q0 _ | exact q1 _ _⟩
 case round=>
  obtain⟨k,v,i,hik,hk,hvb,hv,rfl,rfl,hall,j,rfl⟩:=hrel
  by_cases hkn:k+1<n
  ·obtain⟨x,hx⟩:∃x,t[k]? = some x:=⟨_,List.getElem?_eq_getElem (by have:=hn.out;omega)⟩
   have xb:=hb.get hx
   obtain⟨ad',had,hcx⟩:=hr.at_ (k:=k+1) (u:=.int .u8 (x:Int)) (B8_get (by simpa using hx))
   obtain rfl:=Option.some.inj had
   clear had
   rw [←hik.out] at hcx
   have hin:i<n:=by have:=hik.out;omega
   have b2:(i:Int)<n:=by omega
   by_cases hcx2:128≤x∧x≤191
   ·have hcb:contB x=true:=decide_eq_true hcx2
    have hbd:=foldV_bd (t.take (k+1)) v0 (by rw [all_take_succ hx,hall.out,hcb];rfl)
    rw [fold_take_succ _ hx,←hv.out] at hbd
    have hlt:(t.take (k+1)).length≤3:=by rw [List.length_take];omega
    have hpw:64 ^ (t.take (k+1)).length≤64 ^ 3:=Nat.pow_le_pow_right (by omega) hlt
    have hpw2:(v0+1)*64 ^ (t.take (k+1)).length≤32*64 ^ 3:=Nat.mul_le_mul (by omega) hpw
    have hvb2:64*v+x - 128<8388608:=by omega
    have HV2:Hid (64*v+x - 128=foldV v0 (t.take (k+1))):=by show _=_;rw [fold_take_succ _ hx,←hv.out]
    have HA2:Hid ((t.take (k+1)).all contB=true):=by show _=_;rw [all_take_succ hx,hall.out,hcb];rfl
    clear hbd hlt hpw hpw2 hcb hx
    go_wp2
    try (go_quiet (fail);go_wp2)
    try (go_quiet (fail);go_wp2)
    go_roundw
    case rel=>exact⟨k+1,64*v+x - 128,i+1,by have:=hik.out;show _=_;omega,by omega,hvb2,HV2,i64e (by omega),i64e (by omega),HA2,by first | exact q0 _ | exact q1 _ _ | exact q2 _ _ _ | exact q3 _ _ _ _⟩
    case measure=>simp [intOf];omega
   ·have hp:p=(0,0):=HBAD.out k x hx (decide_eq_false hcx2)
    subst hp
    clear hx
    by_cases hx1:x<128
    ·go_wp2
     try (go_quiet (fail);go_wp2)
     try (go_quiet (fail);go_wp2)
     go_ret2
     exact⟨rfl,by first | exact q0 _ | exact q1 _ _ | exact q2 _ _ _ | exact q3 _ _ _ _⟩
    ·have hx2:191<x:=by omega
     go_wp2
     try (go_quiet (fail);go_wp2)
     try (go_quiet (fail);go_wp2)
     go_ret2
     exact⟨rfl,by first | exact q0 _ | exact q1 _ _ | exact q2 _ _ _ | exact q3 _ _ _ _⟩
  ·obtain⟨ht,hlen⟩:t.take k=t∧t.length=k:=by
    have:=hn.out
    exact⟨List.take_of_length_le (by omega),by omega⟩
   have hkn':¬((i:Int)<n):=by have:=hik.out;omega
   have hnk:n=k+1:=by omega
   rw [ht] at hv hall
   obtain⟨L,hL⟩:∃L,Hid (loV (2 - n) v=L):=⟨_,rfl⟩
   obtain⟨H,hH⟩:∃H,Hid (hiV (2 - n) v=H):=⟨_,rfl⟩
   have hbd:=ends_bd (2 - n) v (by omega) hvb
   rw [hL.out,hH.out] at hbd
   have hp:=HE.out hall.out L H (by rw [hlen,←hnk,←hv.out];exact hL.out) (by rw [hlen,←hnk,←hv.out];exact hH.out)
   clear HE HBAD ht
   have HP:=Lib.hid hp
   clear hp
   go_wp2
   go_loopw [10,11,12] (fun lv hv iv wr=>∃x y i:Nat,n≤i∧i≤2∧Hid (loV (2 - i) x=L)∧Hid (hiV (2 - i) y=H)∧lv=.int .i64 (x:Int)∧hv=.int .i64 (y:Int)∧iv=.int .i64 (i:Int)∧∃j,wr=w.drewN j) (fun _ _ iv _=>2 - (intOf iv).toNat)
   case atStart=>exact⟨v,v,n,by omega,by omega,hL,hH,i64e (by omega),i64e (by omega),i64e (by omega),by first | exact q0 _ | exact q1 _ _⟩
   case round=>
    obtain⟨x,y,i,hi1,hi2,hx,hy,rfl,rfl,rfl,j2,rfl⟩:=hrel
    by_cases hi:i<2
    ·obtain⟨r,hr'⟩:∃r,2 - i=r+1:=⟨2 - i - 1,by omega⟩
     have hx':=hx.out
     have hy':=hy.out
     rw [hr'] at hx' hy'
     have g1:=loV_ge r (64*x)
     have g2:=hiV_ge r (64*y+63)
     have e1:loV (r+1) x=loV r (64*x):=rfl
     have e2:hiV (r+1) y=hiV r (64*y+63):=rfl
     rw [←e1,hx'] at g1
     rw [←e2,hy'] at g2
     have HX2:Hid (loV (2 - (i+1)) (64*x)=L):=by show _=_;rw [show 2 - (i+1)=r by omega];exact hx'
     have HY2:Hid (hiV (2 - (i+1)) (64*y+63)=H):=by show _=_;rw [show 2 - (i+1)=r by omega];exact hy'
     clear hx hy hx' hy' e1 e2 hL hH
     go_wp2
     go_roundw
     case rel=>exact⟨64*x,64*y+63,i+1,by omega,by omega,HX2,HY2,i64e (by omega),i64e (by omega),i64e (by omega),by first | exact q0 _ | exact q1 _ _ | exact q2 _ _ _ | exact q3 _ _ _ _⟩
     case measure=>simp [intOf];omega
    ·obtain rfl:i=2:=by omega
     have hx':x=L:=hx.out
     have hy':y=H:=hy.out
     subst hx'
     subst hy'
     clear hx hy hL hH
     by_cases q1':y<128
     ·have hp:=HP.out
      rw [if_pos (.inl q1')] at hp
      subst hp
      go_wp2
      try (go_quiet (fail);go_wp2)
      go_ret2
      exact⟨rfl,by first | exact q0 _ | exact q1 _ _ | exact q2 _ _ _ | exact q3 _ _ _ _⟩
     ·by_cases q2':2047<x
      ·have hp:=HP.out
       rw [if_pos (.inr (.inl q2'))] at hp
       subst hp
       go_wp2
       try (go_quiet (fail);go_wp2)
       go_ret2
       exact⟨rfl,by first | exact q0 _ | exact q1 _ _ | exact q2 _ _ _ | exact q3 _ _ _ _⟩
      ·by_cases q3':55296≤x
       ·by_cases q4':y≤57343
        ·have hp:=HP.out
         rw [if_pos (.inr (.inr ⟨q3',q4'⟩))] at hp
         subst hp
         go_wp2
         try (go_quiet (fail);go_wp2)
         all_goals go_ret2
         all_goals exact⟨rfl,by first | exact q0 _ | exact q1 _ _ | exact q2 _ _ _ | exact q3 _ _ _ _⟩
        ·have hp:=HP.out
         rw [if_neg (by omega)] at hp
         subst hp
         go_wp2
         try (go_quiet (fail);go_wp2)
         all_goals go_ret2
         all_goals exact⟨rfl,by first | exact q0 _ | exact q1 _ _ | exact q2 _ _ _ | exact q3 _ _ _ _⟩
       ·have hp:=HP.out
        rw [if_neg (by omega)] at hp
        subst hp
        go_wp2
        try (go_quiet (fail);go_wp2)
        go_ret2
        exact⟨rfl,by first | exact q0 _ | exact q1 _ _ | exact q2 _ _ _ | exact q3 _ _ _ _⟩
set_option maxRecDepth 60000 in
set_option maxHeartbeats 4000000 in
theorem begins_three (a:Nat) (t:List Nat) (h1:224≤a) (h2:a<240) (hb:By t) (hl:t.length+1≤3) (hlead:leadV a=(3,a - 224,2048,65535)) (ad:Addr) (n c:Nat) (hn:Hid (n=t.length+1)) (w:World) (hr:Rd w (some ad) (B8 (a :: t))) :
  Calls Tryz.prog 122 #[.slice (some ad) n c] w (PairQ w (begV (a :: t))):=by
 obtain⟨ad',had,hc0⟩:=hr.at_ (k:=0) (u:=.int .u8 (a:Int)) rfl
 obtain rfl:=Option.some.inj had
 replace hc0:w.cell? ad=some (.int .u8 (a:Int)):=hc0
 have hne:¬(a<128∧t = []):=by omega
 have hend:=fun hc L H hL hH=>begV_end (t:=t) (L:=L) (H:=H) hlead hl hne hc hL hH
 have hbad:=fun k x hx hc=>begV_bad (a:=a) (t:=t) (k:=k) (x:=x) hx hc
 generalize begV (a :: t)=p at *
 have HE:=Lib.hid hend
 have HBAD:=Lib.hid hbad
 clear hend hbad hlead hne had
 obtain⟨v0,hv0,hv0b⟩:∃v0,a - 224=v0∧v0<32:=⟨_,rfl,by omega⟩
 have hn1:1≤n:=by have:=hn.out;omega
 have hn4:n≤3:=by have:=hn.out;omega
 have ea:(a:Int) - 224=(v0:Int):=by omega
 rw [hv0] at HE
 clear hv0
 go_enter Tryz.func122,Tryz.ntmps122
 go_wp2
 go_loopw [6,9] (fun vv iv wr=>∃k v i:Nat,Hid (i=k+1)∧k+1≤n∧v<8388608∧Hid (v=foldV v0 (t.take k))∧vv=.int .i64 (v:Int)∧iv=.int .i64 (i:Int)∧Hid ((t.take k).all contB=true)∧∃j,wr=w.drewN j) (fun _ iv _=>n - (intOf iv).toNat)
 case atStart=>exact⟨0,v0,1,rfl,by omega,by omega,rfl,i64e (by omega),i64e (by omega),rfl,by first | exact q0 _ | exact q1 _ _⟩
 case round=>
  obtain⟨k,v,i,hik,hk,hvb,hv,rfl,rfl,hall,j,rfl⟩:=hrel
  by_cases hkn:k+1<n
  ·obtain⟨x,hx⟩:∃x,t[k]? = some x:=⟨_,List.getElem?_eq_getElem (by have:=hn.out;omega)⟩
   have xb:=hb.get hx
   obtain⟨ad',had,hcx⟩:=hr.at_ (k:=k+1) (u:=.int .u8 (x:Int)) (B8_get (by simpa using hx))
   obtain rfl:=Option.some.inj had
   clear had
   rw [←hik.out] at hcx
   have hin:i<n:=by have:=hik.out;omega
   have b2:(i:Int)<n:=by omega
   by_cases hcx2:128≤x∧x≤191
   ·have hcb:contB x=true:=decide_eq_true hcx2
    have hbd:=foldV_bd (t.take (k+1)) v0 (by rw [all_take_succ hx,hall.out,hcb];rfl)
    rw [fold_take_succ _ hx,←hv.out] at hbd
    have hlt:(t.take (k+1)).length≤3:=by rw [List.length_take];omega
    have hpw:64 ^ (t.take (k+1)).length≤64 ^ 3:=Nat.pow_le_pow_right (by omega) hlt
    have hpw2:(v0+1)*64 ^ (t.take (k+1)).length≤32*64 ^ 3:=Nat.mul_le_mul (by omega) hpw
    have hvb2:64*v+x - 128<8388608:=by omega
    have HV2:Hid (64*v+x - 128=foldV v0 (t.take (k+1))):=by show _=_;rw [fold_take_succ _ hx,←hv.out]
    have HA2:Hid ((t.take (k+1)).all contB=true):=by show _=_;rw [all_take_succ hx,hall.out,hcb];rfl
    clear hbd hlt hpw hpw2 hcb hx
    go_wp2
    try (go_quiet (fail);go_wp2)
    try (go_quiet (fail);go_wp2)
    go_roundw
    case rel=>exact⟨k+1,64*v+x - 128,i+1,by have:=hik.out;show _=_;omega,by omega,hvb2,HV2,i64e (by omega),i64e (by omega),HA2,by first | exact q0 _ | exact q1 _ _ | exact q2 _ _ _ | exact q3 _ _ _ _⟩
    case measure=>simp [intOf];omega
   ·have hp:p=(0,0):=HBAD.out k x hx (decide_eq_false hcx2)
    subst hp
    clear hx
    by_cases hx1:x<128
    ·go_wp2
     try (go_quiet (fail);go_wp2)
     try (go_quiet (fail);go_wp2)
     go_ret2
     exact⟨rfl,by first | exact q0 _ | exact q1 _ _ | exact q2 _ _ _ | exact q3 _ _ _ _⟩
    ·have hx2:191<x:=by omega
     go_wp2
     try (go_quiet (fail);go_wp2)
     try (go_quiet (fail);go_wp2)
     go_ret2
     exact⟨rfl,by first | exact q0 _ | exact q1 _ _ | exact q2 _ _ _ | exact q3 _ _ _ _⟩
  ·obtain⟨ht,hlen⟩:t.take k=t∧t.length=k:=by
    have:=hn.out
    exact⟨List.take_of_length_le (by omega),by omega⟩
   have hkn':¬((i:Int)<n):=by have:=hik.out;omega
   have hnk:n=k+1:=by omega
   rw [ht] at hv hall
   obtain⟨L,hL⟩:∃L,Hid (loV (3 - n) v=L):=⟨_,rfl⟩
   obtain⟨H,hH⟩:∃H,Hid (hiV (3 - n) v=H):=⟨_,rfl⟩
   have hbd:=ends_bd (3 - n) v (by omega) hvb
   rw [hL.out,hH.out] at hbd
   have hp:=HE.out hall.out L H (by rw [hlen,←hnk,←hv.out];exact hL.out) (by rw [hlen,←hnk,←hv.out];exact hH.out)
   clear HE HBAD ht
   have HP:=Lib.hid hp
   clear hp
   go_wp2
   go_loopw [10,11,12] (fun lv hv iv wr=>∃x y i:Nat,n≤i∧i≤3∧Hid (loV (3 - i) x=L)∧Hid (hiV (3 - i) y=H)∧lv=.int .i64 (x:Int)∧hv=.int .i64 (y:Int)∧iv=.int .i64 (i:Int)∧∃j,wr=w.drewN j) (fun _ _ iv _=>3 - (intOf iv).toNat)
   case atStart=>exact⟨v,v,n,by omega,by omega,hL,hH,i64e (by omega),i64e (by omega),i64e (by omega),by first | exact q0 _ | exact q1 _ _⟩
   case round=>
    obtain⟨x,y,i,hi1,hi2,hx,hy,rfl,rfl,rfl,j2,rfl⟩:=hrel
    by_cases hi:i<3
    ·obtain⟨r,hr'⟩:∃r,3 - i=r+1:=⟨3 - i - 1,by omega⟩
     have hx':=hx.out
     have hy':=hy.out
     rw [hr'] at hx' hy'
     have g1:=loV_ge r (64*x)
     have g2:=hiV_ge r (64*y+63)
     have e1:loV (r+1) x=loV r (64*x):=rfl
     have e2:hiV (r+1) y=hiV r (64*y+63):=rfl
     rw [←e1,hx'] at g1
     rw [←e2,hy'] at g2
     have HX2:Hid (loV (3 - (i+1)) (64*x)=L):=by show _=_;rw [show 3 - (i+1)=r by omega];exact hx'
     have HY2:Hid (hiV (3 - (i+1)) (64*y+63)=H):=by show _=_;rw [show 3 - (i+1)=r by omega];exact hy'
     clear hx hy hx' hy' e1 e2 hL hH
     go_wp2
     go_roundw
     case rel=>exact⟨64*x,64*y+63,i+1,by omega,by omega,HX2,HY2,i64e (by omega),i64e (by omega),i64e (by omega),by first | exact q0 _ | exact q1 _ _ | exact q2 _ _ _ | exact q3 _ _ _ _⟩
     case measure=>simp [intOf];omega
    ·obtain rfl:i=3:=by omega
     have hx':x=L:=hx.out
     have hy':y=H:=hy.out
     subst hx'
     subst hy'
     clear hx hy hL hH
     by_cases q1':y<2048
     ·have hp:=HP.out
      rw [if_pos (.inl q1')] at hp
      subst hp
      go_wp2
      try (go_quiet (fail);go_wp2)
      go_ret2
      exact⟨rfl,by first | exact q0 _ | exact q1 _ _ | exact q2 _ _ _ | exact q3 _ _ _ _⟩
     ·by_cases q2':65535<x
      ·have hp:=HP.out
       rw [if_pos (.inr (.inl q2'))] at hp
       subst hp
       go_wp2
       try (go_quiet (fail);go_wp2)
       go_ret2
       exact⟨rfl,by first | exact q0 _ | exact q1 _ _ | exact q2 _ _ _ | exact q3 _ _ _ _⟩
      ·by_cases q3':55296≤x
       ·by_cases q4':y≤57343
        ·have hp:=HP.out
         rw [if_pos (.inr (.inr ⟨q3',q4'⟩))] at hp
         subst hp
         go_wp2
         try (go_quiet (fail);go_wp2)
         all_goals go_ret2
         all_goals exact⟨rfl,by first | exact q0 _ | exact q1 _ _ | exact q2 _ _ _ | exact q3 _ _ _ _⟩
        ·have hp:=HP.out
         rw [if_neg (by omega)] at hp
         subst hp
         go_wp2
         try (go_quiet (fail);go_wp2)
         all_goals go_ret2
         all_goals exact⟨rfl,by first | exact q0 _ | exact q1 _ _ | exact q2 _ _ _ | exact q3 _ _ _ _⟩
       ·have hp:=HP.out
        rw [if_neg (by omega)] at hp
        subst hp
        go_wp2
        try (go_quiet (fail);go_wp2)
        go_ret2
        exact⟨rfl,by first | exact q0 _ | exact q1 _ _ | exact q2 _ _ _ | exact q3 _ _ _ _⟩
set_option maxRecDepth 60000 in
set_option maxHeartbeats 4000000 in
theorem begins_four (a:Nat) (t:List Nat) (h1:240≤a) (h2:a<248) (hb:By t) (hl:t.length+1≤4) (hlead:leadV a=(4,a - 240,65536,1114111)) (ad:Addr) (n c:Nat) (hn:Hid (n=t.length+1)) (w:World) (hr:Rd w (some ad) (B8 (a :: t))) :
  Calls Tryz.prog 122 #[.slice (some ad) n c] w (PairQ w (begV (a :: t))):=by
 obtain⟨ad',had,hc0⟩:=hr.at_ (k:=0) (u:=.int .u8 (a:Int)) rfl
 obtain rfl:=Option.some.inj had
 replace hc0:w.cell? ad=some (.int .u8 (a:Int)):=hc0
 have hne:¬(a<128∧t = []):=by omega
 have hend:=fun hc L H hL hH=>begV_end (t:=t) (L:=L) (H:=H) hlead hl hne hc hL hH
 have hbad:=fun k x hx hc=>begV_bad (a:=a) (t:=t) (k:=k) (x:=x) hx hc
 generalize begV (a :: t)=p at *
 have HE:=Lib.hid hend
 have HBAD:=Lib.hid hbad
 clear hend hbad hlead hne had
 obtain⟨v0,hv0,hv0b⟩:∃v0,a - 240=v0∧v0<32:=⟨_,rfl,by omega⟩
 have hn1:1≤n:=by have:=hn.out;omega
 have hn4:n≤4:=by have:=hn.out;omega
 have ea:(a:Int) - 240=(v0:Int):=by omega
 rw [hv0] at HE
 clear hv0
 go_enter Tryz.func122,Tryz.ntmps122
 go_wp2
 go_loopw [6,9] (fun vv iv wr=>∃k v i:Nat,Hid (i=k+1)∧k+1≤n∧v<8388608∧Hid (v=foldV v0 (t.take k))∧vv=.int .i64 (v:Int)∧iv=.int .i64 (i:Int)∧Hid ((t.take k).all contB=true)∧∃j,wr=w.drewN j) (fun _ iv _=>n - (intOf iv).toNat)
 case atStart=>exact⟨0,v0,1,rfl,by omega,by omega,rfl,i64e (by omega),i64e (by omega),rfl,by first | exact q0 _ | exact q1 _ _⟩
 case round=>
  obtain⟨k,v,i,hik,hk,hvb,hv,rfl,rfl,hall,j,rfl⟩:=hrel
  by_cases hkn:k+1<n
  ·obtain⟨x,hx⟩:∃x,t[k]? = some x:=⟨_,List.getElem?_eq_getElem (by have:=hn.out;omega)⟩
   have xb:=hb.get hx
   obtain⟨ad',had,hcx⟩:=hr.at_ (k:=k+1) (u:=.int .u8 (x:Int)) (B8_get (by simpa using hx))
   obtain rfl:=Option.some.inj had
   clear had
   rw [←hik.out] at hcx
   have hin:i<n:=by have:=hik.out;omega
   have b2:(i:Int)<n:=by omega
   by_cases hcx2:128≤x∧x≤191
   ·have hcb:contB x=true:=decide_eq_true hcx2
    have hbd:=foldV_bd (t.take (k+1)) v0 (by rw [all_take_succ hx,hall.out,hcb];rfl)
    rw [fold_take_succ _ hx,←hv.out] at hbd
    have hlt:(t.take (k+1)).length≤3:=by rw [List.length_take];omega
    have hpw:64 ^ (t.take (k+1)).length≤64 ^ 3:=Nat.pow_le_pow_right (by omega) hlt
    have hpw2:(v0+1)*64 ^ (t.take (k+1)).length≤32*64 ^ 3:=Nat.mul_le_mul (by omega) hpw
    have hvb2:64*v+x - 128<8388608:=by omega
    have HV2:Hid (64*v+x - 128=foldV v0 (t.take (k+1))):=by show _=_;rw [fold_take_succ _ hx,←hv.out]
    have HA2:Hid ((t.take (k+1)).all contB=true):=by show _=_;rw [all_take_succ hx,hall.out,hcb];rfl
    clear hbd hlt hpw hpw2 hcb hx
    go_wp2
    try (go_quiet (fail);go_wp2)
    try (go_quiet (fail);go_wp2)
    go_roundw
    case rel=>exact⟨k+1,64*v+x - 128,i+1,by have:=hik.out;show _=_;omega,by omega,hvb2,HV2,i64e (by omega),i64e (by omega),HA2,by first | exact q0 _ | exact q1 _ _ | exact q2 _ _ _ | exact q3 _ _ _ _⟩
    case measure=>simp [intOf];omega
   ·have hp:p=(0,0):=HBAD.out k x hx (decide_eq_false hcx2)
    subst hp
    clear hx
    by_cases hx1:x<128
    ·go_wp2
     try (go_quiet (fail);go_wp2)
     try (go_quiet (fail);go_wp2)
     go_ret2
     exact⟨rfl,by first | exact q0 _ | exact q1 _ _ | exact q2 _ _ _ | exact q3 _ _ _ _⟩
    ·have hx2:191<x:=by omega
     go_wp2
     try (go_quiet (fail);go_wp2)
     try (go_quiet (fail);go_wp2)
     go_ret2
     exact⟨rfl,by first | exact q0 _ | exact q1 _ _ | exact q2 _ _ _ | exact q3 _ _ _ _⟩
  ·obtain⟨ht,hlen⟩:t.take k=t∧t.length=k:=by
    have:=hn.out
    exact⟨List.take_of_length_le (by omega),by omega⟩
   have hkn':¬((i:Int)<n):=by have:=hik.out;omega
   have hnk:n=k+1:=by omega
   rw [ht] at hv hall
   obtain⟨L,hL⟩:∃L,Hid (loV (4 - n) v=L):=⟨_,rfl⟩
   obtain⟨H,hH⟩:∃H,Hid (hiV (4 - n) v=H):=⟨_,rfl⟩
   have hbd:=ends_bd (4 - n) v (by omega) hvb
   rw [hL.out,hH.out] at hbd
   have hp:=HE.out hall.out L H (by rw [hlen,←hnk,←hv.out];exact hL.out) (by rw [hlen,←hnk,←hv.out];exact hH.out)
   clear HE HBAD ht
   have HP:=Lib.hid hp
   clear hp
   go_wp2
   go_loopw [10,11,12] (fun lv hv iv wr=>∃x y i:Nat,n≤i∧i≤4∧Hid (loV (4 - i) x=L)∧Hid (hiV (4 - i) y=H)∧lv=.int .i64 (x:Int)∧hv=.int .i64 (y:Int)∧iv=.int .i64 (i:Int)∧∃j,wr=w.drewN j) (fun _ _ iv _=>4 - (intOf iv).toNat)
   case atStart=>exact⟨v,v,n,by omega,by omega,hL,hH,i64e (by omega),i64e (by omega),i64e (by omega),by first | exact q0 _ | exact q1 _ _⟩
   case round=>
    obtain⟨x,y,i,hi1,hi2,hx,hy,rfl,rfl,rfl,j2,rfl⟩:=hrel
    by_cases hi:i<4
    ·obtain⟨r,hr'⟩:∃r,4 - i=r+1:=⟨4 - i - 1,by omega⟩
     have hx':=hx.out
     have hy':=hy.out
     rw [hr'] at hx' hy'
     have g1:=loV_ge r (64*x)
     have g2:=hiV_ge r (64*y+63)
     have e1:loV (r+1) x=loV r (64*x):=rfl
     have e2:hiV (r+1) y=hiV r (64*y+63):=rfl
     rw [←e1,hx'] at g1
     rw [←e2,hy'] at g2
     have HX2:Hid (loV (4 - (i+1)) (64*x)=L):=by show _=_;rw [show 4 - (i+1)=r by omega];exact hx'
     have HY2:Hid (hiV (4 - (i+1)) (64*y+63)=H):=by show _=_;rw [show 4 - (i+1)=r by omega];exact hy'
     clear hx hy hx' hy' e1 e2 hL hH
     go_wp2
     go_roundw
     case rel=>exact⟨64*x,64*y+63,i+1,by omega,by omega,HX2,HY2,i64e (by omega),i64e (by omega),i64e (by omega),by first | exact q0 _ | exact q1 _ _ | exact q2 _ _ _ | exact q3 _ _ _ _⟩
     case measure=>simp [intOf];omega
    ·obtain rfl:i=4:=by omega
     have hx':x=L:=hx.out
     have hy':y=H:=hy.out
     subst hx'
     subst hy'
     clear hx hy hL hH
     by_cases q1':y<65536
     ·have hp:=HP.out
      rw [if_pos (.inl q1')] at hp
      subst hp
      go_wp2
      try (go_quiet (fail);go_wp2)
      go_ret2
      exact⟨rfl,by first | exact q0 _ | exact q1 _ _ | exact q2 _ _ _ | exact q3 _ _ _ _⟩
     ·by_cases q2':1114111<x
      ·have hp:=HP.out
       rw [if_pos (.inr (.inl q2'))] at hp
       subst hp
       go_wp2
       try (go_quiet (fail);go_wp2)
       go_ret2
       exact⟨rfl,by first | exact q0 _ | exact q1 _ _ | exact q2 _ _ _ | exact q3 _ _ _ _⟩
      ·by_cases q3':55296≤x
       ·by_cases q4':y≤57343
        ·have hp:=HP.out
         rw [if_pos (.inr (.inr ⟨q3',q4'⟩))] at hp
         subst hp
         go_wp2
         try (go_quiet (fail);go_wp2)
         all_goals go_ret2
         all_goals exact⟨rfl,by first | exact q0 _ | exact q1 _ _ | exact q2 _ _ _ | exact q3 _ _ _ _⟩
        ·have hp:=HP.out
         rw [if_neg (by omega)] at hp
         subst hp
         go_wp2
         try (go_quiet (fail);go_wp2)
         all_goals go_ret2
         all_goals exact⟨rfl,by first | exact q0 _ | exact q1 _ _ | exact q2 _ _ _ | exact q3 _ _ _ _⟩
       ·have hp:=HP.out
        rw [if_neg (by omega)] at hp
        subst hp
        go_wp2
        try (go_quiet (fail);go_wp2)
        go_ret2
        exact⟨rfl,by first | exact q0 _ | exact q1 _ _ | exact q2 _ _ _ | exact q3 _ _ _ _⟩
set_option maxRecDepth 60000 in
set_option maxHeartbeats 4000000 in
theorem begins_one (a:Nat) (ha:a<128) (ad:Addr) (n c:Nat) (hn:Hid (n=([]:List Nat).length+1)) (w:World) (hr:Rd w (some ad) (B8 [a])) :
  Calls Tryz.prog 122 #[.slice (some ad) n c] w (PairQ w (begV [a])):=by
 obtain⟨ad',had,hc0⟩:=hr.at_ (k:=0) (u:=.int .u8 (a:Int)) rfl
 obtain rfl:=Option.some.inj had
 replace hc0:w.cell? ad=some (.int .u8 (a:Int)):=hc0
 obtain rfl:n=1:=hn.out
 rw [beg_one a ha]
 have ha':(a:Int)<128:=by omega
 go_enter Tryz.func122,Tryz.ntmps122
 go_wp2
 go_ret2
 exact⟨rfl,by first | exact q0 _ | exact q1 _ _ | exact q2 _ _ _ | exact q3 _ _ _ _⟩
set_option maxRecDepth 60000 in
set_option maxHeartbeats 4000000 in
theorem begins_long (a:Nat) (t:List Nat) (ha:a<256) (ad:Addr) (n c:Nat) (hn:Hid (n=t.length+1)) (w:World) (hr:Rd w (some ad) (B8 (a :: t)))
  (hs:a<128→t.length≠0) (hc:(192≤a∧a<224∧2<t.length+1)∨(224≤a∧a<240∧3<t.length+1)∨(240≤a∧a<248∧4<t.length+1)∨a<192∨248≤a) (hv:begV (a :: t)=(0,0)) :
  Calls Tryz.prog 122 #[.slice (some ad) n c] w (PairQ w (begV (a :: t))):=by
 obtain⟨ad',had,hc0⟩:=hr.at_ (k:=0) (u:=.int .u8 (a:Int)) rfl
 obtain rfl:=Option.some.inj had
 replace hc0:w.cell? ad=some (.int .u8 (a:Int)):=hc0
 rw [hv]
 have e:=hn.out
 have hn0:0<n:=by omega
 rw [←e] at hc
 have hs':(a<128∧((n:Int) == 1)=false)∨128≤a:=by
  by_cases h:a<128
  ·have:=hs h;exact .inl ⟨h,by simp;omega⟩
  ·exact .inr (by omega)
 clear hs hn hr e hv had
 rcases hs' with⟨h1,h2⟩ | h1
 ·go_enter Tryz.func122,Tryz.ntmps122
  go_wp2
  all_goals go_ret2
  all_goals exact⟨rfl,by first | exact q0 _ | exact q1 _ _ | exact q2 _ _ _ | exact q3 _ _ _ _⟩
 ·rcases hc with⟨h2,h3,h4⟩ | ⟨h2,h3,h4⟩ | ⟨h2,h3,h4⟩ | h2 | h2
  all_goals
   go_enter Tryz.func122,Tryz.ntmps122
   go_wp2
   all_goals go_ret2
   all_goals exact⟨rfl,by first | exact q0 _ | exact q1 _ _ | exact q2 _ _ _ | exact q3 _ _ _ _⟩
theorem begins_any (a:Nat) (t:List Nat) (hb:By (a :: t)) (ad:Addr) (n c:Nat) (hn:Hid (n=t.length+1)) (w:World) (hr:Rd w (some ad) (B8 (a :: t))) :
  Calls Tryz.prog 122 #[.slice (some ad) n c] w (PairQ w (begV (a :: t))):=by
 have ab:=hb.head
 rcases lead_cases a with⟨h1,h2,hl⟩ | ⟨h1,h2,hl⟩ | ⟨h1,h2,hl⟩ | ⟨h1,hl⟩
 ·by_cases hle:t.length+1≤2
  ·exact begins_two a t h1 h2 hb.tail hle hl ad n c hn w hr
  ·exact begins_long a t ab ad n c hn w hr (fun h=>by omega) (.inl ⟨h1,h2,by omega⟩) (begV_long hl (by omega) (by omega))
 ·by_cases hle:t.length+1≤3
  ·exact begins_three a t h1 h2 hb.tail hle hl ad n c hn w hr
  ·exact begins_long a t ab ad n c hn w hr (fun h=>by omega) (.inr (.inl ⟨h1,h2,by omega⟩)) (begV_long hl (by omega) (by omega))
 ·by_cases hle:t.length+1≤4
  ·exact begins_four a t h1 h2 hb.tail hle hl ad n c hn w hr
  ·exact begins_long a t ab ad n c hn w hr (fun h=>by omega) (.inr (.inr (.inl ⟨h1,h2,by omega⟩))) (begV_long hl (by omega) (by omega))
 ·by_cases hs:a<128∧t = []
  ·obtain⟨ha,rfl⟩:=hs
   exact begins_one a ha ad n c hn w hr
  ·refine begins_long a t ab ad n c hn w hr (fun h=>?_) (.inr (.inr (.inr h1))) (begV_long hl (by omega) hs)
   cases t with
   | nil=>exact absurd ⟨h,rfl⟩ hs
   | cons x t=>simp
end Go.Proofs.YtgbkbgiogdhnaaaGreatDoor
namespace Go.Proofs.YtgbkbgiogdhnaaaGreatDoor
open Go.RowKit
def PairB (w:World) (p:Nat×Nat) (e:Ending) (w':World):Prop:=e=.returned (.tuple #[.int .i64 (p.1:Int),.int .i64 (p.2:Int)])∧Below w.heap.size w w'
theorem run_b8 (l:List Nat) (hl:By l) (w:World):∃c W,(convert 9 50 (.string (mks l))).run Tryz.prog w=.ok (.slice (some ⟨w.heap.size,0,none⟩) l.length c) W∧l.length≤c ∧
  Rd W (some ⟨w.heap.size,0,none⟩) (B8 l)∧Below w.heap.size w W:=by
 have h:=run_bytes_of_string (P:=Tryz.prog) w 9 50 5 (mks l) Tryz.underlying9 Tryz.underlying50 Tryz.underlying5
 rw [size_mks] at h
 refine⟨_,_,h,grownCap_ge _ _ _ _,?_,?_⟩
 ·intro j u hj
  refine⟨_,rfl,?_⟩
  have e:(⟨w.heap.size,0,none⟩:Addr).add j=⟨w.drew.heap.size,j,none⟩:=by unfold Addr.add;split <;> simp_all
  rw [e,World.cell?_alloc_mark]
  obtain⟨d,hd,rfl⟩:∃d,l[j]? = some d∧u=.int .u8 (d:Int):=by
   unfold B8 at hj
   rw [List.getElem?_map] at hj
   cases hd:l[j]? with
   | none=>rw [hd] at hj;cases hj
   | some d=>rw [hd] at hj;exact⟨d,rfl,(Option.some.inj hj).symm⟩
  have hlt:=(List.getElem?_eq_some_iff.1 hd).1
  rw [bytesRow_at _ _ _ (by show j<(mks l).size;rw [size_mks];exact hlt)]
  have:=get_mks hd (hl.get hd) (by rw [size_mks];exact hlt)
  have e2:((mks l).data[j]'(by show j<(mks l).size;rw [size_mks];exact hlt)).toNat=d:=this
  rw [e2]
 ·exact((Below.refl _ _).drew).alloc (Nat.le_refl _) _
theorem add_zero_off (g p:Nat):(⟨g,0,none⟩:Addr).add p=⟨g,p,none⟩:=by unfold Addr.add;split <;> simp_all
theorem begins_h (a:Nat) (t:List Nat) (hb:By (a :: t)) (ad:Addr) (n c:Nat) (hn:Hid (n=t.length+1)):Hid (∀w,Rd w (some ad) (B8 (a :: t))→Calls Tryz.prog 122 #[.slice (some ad) n c] w (PairQ w (begV (a :: t)))):=fun w hr=>begins_any a t hb ad n c hn w hr
theorem at_cases {m k:Nat} {l:List Nat} {r:Nat×Nat} (h:atG (m+1) k l=r):(l.length<k∧r=(0,0))∨(k≤l.length∧(begV (l.take k)).2=k∧r=begV (l.take k))∨(k≤l.length∧(begV (l.take k)).2≠k∧atG m (k+1) l=r):=by
 rw [atG] at h
 by_cases h1:l.length<k
 ·rw [if_pos h1] at h;exact .inl ⟨h1,h.symm⟩
 ·rw [if_neg h1] at h
  by_cases h2:(begV (l.take k)).2=k
  ·rw [if_pos h2] at h;exact .inr (.inl ⟨by omega,h2,h.symm⟩)
  ·rw [if_neg h2] at h;exact .inr (.inr ⟨by omega,h2,h⟩)
set_option maxRecDepth 8000 in
set_option maxHeartbeats 4000000 in
theorem at_any (l:List Nat) (hl:By l) (hlen:l.length<4294967296) (p:Nat) (hp:p≤l.length) (w:World):Calls Tryz.prog 83 #[.string (mks l),.int .i64 (p:Int)] w (PairB w (atV (l.drop p))):=by
 generalize hr:atV (l.drop p)=r
 have HR:Hid (atG 4 1 (l.drop p)=r):=hr
 clear hr
 obtain⟨c,W,hcv,hc,hrd,hbw⟩:=run_b8 l hl w
 have hgs:=hbw.size
 generalize hg:w.heap.size=g at *
 have HG:=Lib.hid hg.symm
 clear hg
 have HBW:=Lib.hid hbw
 have HRD:=Lib.hid hrd
 clear hbw hrd
 go_enter Tryz.func83,Tryz.ntmps83
 go_wp2
 go_loopw [7] (fun kv wr=>∃m k:Nat,m+k=5∧1≤k∧Hid (atG m k (l.drop p)=r)∧kv=.int .i64 (k:Int)∧∃j,wr=W.drewN j) (fun kv _=>5 - (intOf kv).toNat)
 case atStart=>exact⟨4,1,rfl,by omega,HR,rfl,by first | exact q0 _ | exact q1 _ _⟩
 case round=>
  clear hcv
  obtain⟨m,k,hmk,hk1,hat,rfl,j,rfl⟩:=hrel
  cases m with
  | zero=>
   obtain rfl:k=5:=by omega
   obtain rfl:(0,0)=r:=hat.out
   clear hat HR
   go_wp2
   go_ret2
   exact⟨rfl,HG.out▸Below.drewN' HBW.out _⟩
  | succ m=>
   have hk4:(k:Int)≤4:=by omega
   rcases at_cases hat.out with⟨h1,rfl⟩ | ⟨h1,h2,rfl⟩ | ⟨h1,h2,h3⟩
   ·have hle:¬((p:Int)+k≤l.length):=by rw [List.length_drop] at h1;omega
    clear hat HR
    go_wp2
    go_ret2
    exact⟨rfl,HG.out▸Below.drewN' HBW.out _⟩
   all_goals
    rw [List.length_drop] at h1
    have h1':p+k≤l.length:=by clear hc hgs;omega
    have hle:(p:Int)+k≤l.length:=by omega
    have hle2:(p:Int)+k≤c:=by omega
    have hpk:(p:Int)≤p+k:=by omega
    have e1:(((p:Int)+k).toNat)=p+k:=by omega
    obtain⟨a,t,hat2,htl⟩:∃a t,(l.drop p).take k=a :: t∧Hid (k=t.length+1):=by
     have hlk:((l.drop p).take k).length=k:=by rw [List.length_take,List.length_drop];omega
     cases h:(l.drop p).take k with
     | nil=>rw [h] at hlk;simp at hlk;omega
     | cons a t=>rw [h] at hlk;exact⟨a,t,rfl,by show _=_;simp at hlk;omega⟩
    have hby:By (a :: t):=hat2▸(hl.drop p).take k
    have hrd2:Rd W (some ((⟨g,0,none⟩:Addr).add p)) (B8 (a :: t)):=by
     rw [←hat2]
     have:=(HRD.out.drop p).take k
     have e5:(B8 l).drop p=B8 (l.drop p):=by simp [B8]
     have e6:∀x,(B8 x).take k=B8 (x.take k):=fun x=>by simp [B8]
     rw [e5,e6] at this
     exact this
    rw [add_zero_off] at hrd2
    have DB:=(begins_h a t hby ⟨g,p,none⟩ k (c - p) htl).out
    rw [hat2] at h2
    try rw [hat2]
    have DB2:∀j,Calls Tryz.prog 122 #[.slice (some ⟨g,p,none⟩) k (c - p)] (W.drewN j) (PairQ (W.drewN j) (begV (a :: t))):=fun j=>DB _ (hrd2.drewN j)
    have DB3:=Lib.hid DB2
    clear DB DB2 hat HR hat2 hby hrd2
    generalize begV (a :: t)=q at *
    obtain⟨x1,x2⟩:=q
   ·obtain rfl:x2=k:=h2
    clear h1
    go_wp2_with (go_at_call 122;((with_reducible refine(DB3.out _).mono ?_));rintro e w8 ⟨rfl,j8,rfl⟩)
    go_ret2
    exact⟨rfl,HG.out▸Below.drewN' HBW.out _⟩
   ·have h2':((x2:Int) == (k:Int))=false:=by have h2:x2≠k:=h2;simp;omega
    have H3:=Lib.hid h3
    clear h1 h2 h3
    go_wp2_with (go_at_call 122;((with_reducible refine(DB3.out _).mono ?_));rintro e w8 ⟨rfl,j8,rfl⟩)
    go_roundw
    case rel=>exact⟨m,k+1,by omega,by omega,H3,i64e (by omega),by first | exact q0 _ | exact q1 _ _ | exact q2 _ _ _⟩
    case measure=>simp [intOf];omega
end Go.Proofs.YtgbkbgiogdhnaaaGreatDoor
