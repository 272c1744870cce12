/- The walks of read and Valid of decimal: is a text the canonical text of a decimal? -/
import Derived.Test.YtnnnagnjikdnnaaGreatDoorMAd
import Derived.Test.YtnnnagnjikdnnaaGreatDoorMAf
import Derived.Test.YtnnnagnjikdnnaaGreatDoorMAc
import Derived.Test.YtnnnagnjikdnnaaGreatDoorShelf
import Derived.Test.YtnnnagnjikdnnaaGreatDoorMAg
import Derived.Lib.Atoi
import Derived.Lib.AtoiErrMem
import Derived.Deep.DeepCutAuto
import Derived.Test.YtnnnagnjikdnnaaGreatDoorMAa
import Derived.Lib.FrozenHead2
set_option linter.unusedVariables false
set_option linter.unusedSimpArgs false
set_option linter.defProp false
set_option linter.constructorNameAsVariable false
namespace Go.Proofs.YtnnnagnjikdnnaaGreatDoor
open Go.RowKit
structure LibE (w:World):Prop where
  lib:LibOK w
  err:∃te pe,w.cell? ⟨7,0,none⟩=some (.iface te pe)
theorem LibE.keep {w w':World} (h:LibE w) (hb:Below w.heap.size w w'):LibE w':=by
  obtain⟨te,pe,hc⟩:=h.err
  exact⟨h.lib.keep hb,te,pe,(hb.cell (block_lt_of_cell hc)).trans hc⟩
theorem indexByte_any (l:List Nat) (hl:By l) (c:Nat) (hc:c<256) (w:World):Calls Tryz.prog 46 #[.string (mks l),.int .u8 (c:Int)] w fun e w'=>e=.returned (.int .i64 (ixBV c l))∧w=w':=
  (Tryz.strings_IndexByte (mks l) (c:Int) w).mono fun e w' ⟨h1,h2⟩=>⟨by
    rw [h1,data_mks,←ixB_eq hl hc]
    rfl,h2.symm⟩
def trimM (l:List Nat):List Nat:=if hasP [45] l then l.drop 1 else l
theorem trimM_eq {l:List Nat} (hl:By l):(⟨(Lib.trimPrefix (mks l).data.toList [45]).toArray⟩:ByteArray)=mks (trimM l):=by
  rw [data_mks]
  unfold trimM Lib.trimPrefix Lib.hasPrefix mks u8s
  cases l with
  | nil=>rfl
  | cons x l=>
    have hx:=hl.head
    have e:List.isPrefixOf [(45:UInt8)] (UInt8.ofNat x :: l.map UInt8.ofNat)=hasP [45] (x :: l):=by
      have h45:(45:UInt8)=UInt8.ofNat 45:=rfl
      show((45:UInt8) == UInt8.ofNat x && List.isPrefixOf [] _)=_
      rw [h45,u8_beq (by omega) hx]
      simp [hasP,eq_comm]
    rw [List.map_cons,e]
    by_cases h:hasP [45] (x :: l)=true
    · rw [if_pos h,if_pos h];rfl
    · rw [if_neg h,if_neg h];rfl
theorem trimP_any (l:List Nat) (hl:By l) (w:World):Calls Tryz.prog 168 #[.string (mks l),.string ⟨#[45]⟩] w fun e w'=>e=.returned (.string (mks (trimM l)))∧w=w':=
  (Tryz.strings_TrimPrefix (mks l) ⟨#[45]⟩ w).mono fun e w' ⟨h1,h2⟩=>⟨by rw [h1];exact congrArg (fun x=>Ending.returned (.string x)) (trimM_eq hl),h2.symm⟩
def atoiV (l:List Nat):Option Int:=Lib.atoi (u8s l)
theorem atoi_ok (l:List Nat) (n:Int) (hl:l.length≤18) (h:atoiV l=some n) (w:World):Calls Tryz.prog 167 #[.string (mks l)] w fun e w'=>e=.returned (.tuple #[.int .i64 n,.nilIface])∧Below w.heap.size w w':=
  (Tryz.strconv_Atoi (mks l) n (by rw [size_mks];exact hl) (by rw [data_mks];exact h) w).mono fun e w' ⟨h1,t,h2⟩=>⟨h1,by rw [h2];exact Lib.bytesWorld_below _ _ _⟩
theorem atoi_no (l:List Nat) (hl:l.length≤18) (h:atoiV l=none) (w:World) (hw:LibE w):Calls Tryz.prog 167 #[.string (mks l)] w fun e w'=>∃N,e=.returned (.tuple #[.int .i64 0,.iface 268 (.pointer (some ⟨N,0,none⟩))])∧Below w.heap.size w w':=by
  obtain⟨te,pe,hc⟩:=hw.err
  exact(Tryz.strconv_Atoi_err (mks l) (by rw [size_mks];exact hl) (by rw [data_mks];exact h) _ w hc (.inr ⟨te,pe,rfl⟩)).mono fun e w' ⟨N,h1,_,_,h2⟩=>⟨N,h1,h2⟩
theorem trimM_dig {l:List Nat} (h:(parseC l).isSome=true):AllD (trimM l)∧(trimM l).length≤l.length:=by
  have hb:(bodyL l).all isDig=true:=by
    unfold parseC at h
    split at h
    · cases h
    · split at h
      · assumption
      · cases h
  have e:trimM l=bodyL l:=by
    unfold parseC at h
    split at h
    · cases h
    rename_i hbad
    unfold trimM bodyL negL
    unfold badL at hbad
    have h0:(bodyL l).length≠0:=fun e=>hbad (.inl e)
    match l,hb,h0 with
    | [],_,h0=>rfl
    | [x],hb,_=>
      have hx:=List.all_eq_true.1 hb x (by simp [bodyL,negL])
      have:x≠45:=by unfold isDig at hx;have:=of_decide_eq_true hx;omega
      simp [hasP,this]
    | x :: y :: l,_,_=>
      by_cases hx:x=45
      · subst hx;simp [hasP]
      · simp [hasP,hx]
  rw [e]
  refine⟨fun c hc=>?_,?_⟩
  · have:=List.all_eq_true.1 hb c hc
    unfold isDig at this
    have:=of_decide_eq_true this
    omega
  · rw [←e];unfold trimM;split
    · rw [List.length_drop];omega
    · exact Nat.le_refl _
theorem atoiV_bd {l:List Nat} {n:Int} (hl:l.length≤5) (h:atoiV l=some n):-1000000<n∧n<1000000:=by
  obtain⟨b0,r,h1,h2⟩:=Lib.atoi_cases h
  have hlen:(u8s l).length=l.length:=by simp [u8s]
  have hr:r.length+1≤5:=by rw [h1] at hlen;simp at hlen;omega
  have key:∀(t:List UInt8) (m:Nat),t.length≤5→Lib.decNat t=some m→m<1000000:=by
    intro t m ht hm
    have:=Lib.decFrom_lt _ _ _ (Lib.decNat_some hm).2
    have h10:10 ^ t.length≤10 ^ 5:=Nat.pow_le_pow_right (by omega) ht
    have:(0+1)*10 ^ t.length≤100000:=by omega
    omega
  unfold atoiV at h
  rw [h1,Lib.atoi] at h
  split at h
  · cases hm:Lib.decNat r with
    | none=>rw [hm] at h;cases h
    | some m=>rw [hm] at h;have h3:=key r m (by omega) hm;have h4:-(m:Int)=n:=Option.some.inj h;omega
  · split at h
    · cases hm:Lib.decNat r with
      | none=>rw [hm] at h;cases h
      | some m=>rw [hm] at h;have h3:=key r m (by omega) hm;have h4:(m:Int)=n:=Option.some.inj h;omega
    · cases hm:Lib.decNat (b0 :: r) with
      | none=>rw [hm] at h;cases h
      | some m=>rw [hm] at h;have h3:=key (b0 :: r) m (by simp;omega) hm;have h4:(m:Int)=n:=Option.some.inj h;omega
def readV (d:List Nat):Option (Bool×List Nat×Int):=
  match idxB 101 d with
  | none=>none
  | some k=>if (parseC (d.take k)).isSome=false∨6<d.length - k then none
    else match atoiV (d.drop (k+1)) with
      | none=>none
      | some e=>some (normV (hasP [45] d) (dec (trimM (d.take k))) e)
def validD (d:List Nat):Bool:=match readV d with | none=>false | some x=>decide (limV x=0) && decide (textV x=d)
theorem textV_by {x:Bool×List Nat×Int} (h:Ten x.2.1):By (textV x):=by
  unfold textV
  refine(By.append (By.append ?_ ?_) ?_)
  · unfold coefL
    split
    · intro c hc;simp at hc;omega
    · refine By.append ?_ ?_
      · unfold signL;split
        · intro c hc;simp at hc;omega
        · exact By.nil
      · intro c hc
        unfold asc at hc
        obtain⟨y,hy,rfl⟩:=List.mem_map.1 hc
        have:=h y hy
        omega
  · intro c hc;simp at hc;omega
  · exact By.u8 _
def gload (t:TypeId) (x:Operand):Op:=.load t x
@[go_sem] theorem gload_is (t:TypeId) (x:Operand):gload t x=.load t x:=rfl
theorem gload_eq (d:Option Tmp) (t:TypeId) (x:Operand) (y:TypeId) (p:String) (f:Array Edge) (g:Nat×Bool):Oper.mk d (Op.load t x) y p f (some g)=Oper.mk d (gload t x) y p f (some g):=rfl
def gmove (x:Operand):Op:=.move x
@[go_sem] theorem gmove_is (x:Operand):gmove x=.move x:=rfl
theorem gmove_eq (d:Option Tmp) (x:Operand) (y:TypeId) (p:String) (f:Array Edge) (g:Nat×Bool):Oper.mk d (Op.move x) y p f (some g)=Oper.mk d (gmove x) y p f (some g):=rfl
def gbin (o:BinOp) (t:TypeId) (x z:Operand) (u:TypeId):Op:=.binOp o t x z u
@[go_sem] theorem gbin_is (o:BinOp) (t:TypeId) (x z:Operand) (u:TypeId):gbin o t x z u=.binOp o t x z u:=rfl
theorem gbin_eq (d:Option Tmp) (o:BinOp) (t:TypeId) (x z:Operand) (u:TypeId) (y:TypeId) (p:String) (f:Array Edge) (g:Nat×Bool):Oper.mk d (Op.binOp o t x z u) y p f (some g)=Oper.mk d (gbin o t x z u) y p f (some g):=rfl
theorem grown_below {a b c:World} {row:Option Nat} (h:a.grownBy b row) (k:Below b.heap.size b c):a.grownBy c row:=
  grown_trans h ⟨k.os,k.tape,k.output,k.size,fun j hj _=>k.block j hj⟩
theorem grown_drew' {a b:World} {row:Option Nat} (h:a.grownBy b row):a.grownBy b.drew row:=⟨h.os,h.tape,h.output,h.size,h.block⟩
theorem grown_three {a b:World} {r:Nat} (h:a.grownBy b (some r)) (u v x:Value):a.grownBy (((b.setCell ⟨r,0,none⟩ u).setCell ⟨r,1,none⟩ v).setCell ⟨r,2,none⟩ x) (some r):=
  grown_trans h (grown_trans (grown_trans (grown_set b ⟨r,0,none⟩ u) (grown_set _ ⟨r,1,none⟩ v)) (grown_set _ ⟨r,2,none⟩ x))
def ReadO (w:World) (d:List Nat) (e:Ending) (w':World):Prop:=
  Below w.heap.size w w'∧∃A n c,e=.returned (.tuple #[.agg #[.bool ((readV d).getD (false,[],0)).1,.slice A n c,.int .i64 ((readV d).getD (false,[],0)).2.2],.bool (validD d)])∧Hid (n=((readV d).getD (false,[],0)).2.1.length)∧n≤c∧Rd w' A (B8 ((readV d).getD (false,[],0)).2.1)∧From w.heap.size A
theorem neq_err (N:Nat) (w:World):(binOp BinOp.neq 56 (.iface 268 (.pointer (some ⟨N,0,none⟩))) .nilIface).run Tryz.prog w=.ok (.bool true) w:=by kernel_rfl
theorem neq_errg (N:Nat) (w:World):(eqGuard BinOp.neq 56 (Operand.tmp 36) (Operand.const Value.nilIface) (.iface 268 (.pointer (some ⟨N,0,none⟩))) .nilIface).run Tryz.prog w=.ok () w:=by kernel_rfl
theorem neq_nil (w:World):(binOp BinOp.neq 56 .nilIface .nilIface).run Tryz.prog w=.ok (.bool false) w:=by kernel_rfl
theorem neq_nilg (w:World):(eqGuard BinOp.neq 56 (Operand.tmp 36) (Operand.const Value.nilIface) .nilIface .nilIface).run Tryz.prog w=.ok () w:=by kernel_rfl
theorem ReadO.yes {w : World} {d : List Nat} {z : Bool × List Nat × Int} {A : Option Addr} {nn cc : Nat} {v : Bool} {e : Ending} {w' : World} (hx : (readV d).getD (false, [], 0) = z) (hb : Below w.heap.size w w') (hn : Hid (nn = z.2.1.length)) (hc : nn ≤ cc) (hr : Rd w' A (B8 z.2.1)) (hf : From w.heap.size A) (hv : validD d = v)
    (he:e=.returned (.tuple #[.agg #[.bool z.1,.slice A nn cc,.int .i64 z.2.2],.bool v])):ReadO w d e w':=by
  unfold ReadO
  rw [hx,hv]
  exact⟨hb,A,nn,cc,he,hn,hc,hr,hf⟩
theorem ReadO.no {w:World} {d:List Nat} {e:Ending} {w':World} (h:readV d=none) (hb:Below w.heap.size w w') (he:e=.returned (.tuple #[.agg #[.bool false,.slice none 0 0,.int .i64 0],.bool false])):ReadO w d e w':=by
  unfold ReadO validD
  rw [h]
  exact⟨hb,none,0,0,he,rfl,Nat.le_refl _,fun j u hj=>by simp [B8] at hj,fun ad e=>by cases e⟩
set_option maxRecDepth 8000 in
set_option maxHeartbeats 8000000 in
theorem dread_any (d:List Nat) (hd:By d) (hl:d.length<4294967295) (w:World) (hw:LibE w):Calls Tryz.prog 142 #[.string (mks d)] w (ReadO w d):=by
  have D1:Hid (∀w,Calls Tryz.prog 46 #[.string (mks d),.int .u8 101] w fun e w'=>e=.returned (.int .i64 (ixBV 101 d))∧w=w'):=fun w=>indexByte_any d hd 101 (by omega) w
  have HX:=Lib.hid (Arr.new w 194 [.bool false,.slice none 0 0,.int .i64 0])
  have HB:Below w.heap.size w (w.alloc (.cells #[.bool false,.slice none 0 0,.int .i64 0] 194)):=(Below.refl _ _).alloc (Nat.le_refl _) _
  have hwW:=hw.keep HB
  have hlow:w.heap.size<(w.alloc (.cells #[.bool false,.slice none 0 0,.int .i64 0] 194)).heap.size:=HX.out.lt
  have HL:=Lib.hid hlow
  clear hlow
  cases hi:idxB 101 d with
  | none=>
    have hrv:Hid (readV d=none):=by unfold readV;rw [hi];exact rfl
    have hx:ixBV 101 d = -1:=by unfold ixBV;rw [hi]
    rw [hx] at D1
    clear hx hi
    go_enter Tryz.func142,Tryz.ntmps142
    go_upto_region 1 with(fail)
    generalize (w.alloc (.cells #[.bool false,.slice none 0 0,.int .i64 0] 194))=W at *
    go_wp2_with (first | (go_at_call 46;((with_reducible refine(D1.out _).mono ?_));rintro e w4 ⟨rfl,rfl⟩) | ((with_reducible show wpList _ _ _ (Oper.mk none (Op.store 194 (Operand.tmp 2) (Operand.tmp 27)) _ _ _ _ :: _) _ _);go_loud (refine wpList_sr rfl rfl 194 (.tmp 2) (.tmp 27) rfl (w.heap.size) [.bool false,.slice none 0 0,.int .i64 0] rfl rfl 194 _ HX.out _ Tryz.sz194 (by first | rfl | simp) (by first | rfl | simp) (by first | rfl | simp [Value.oneCell']) ?_;intro w5 hr5 hg5 hz5)))
    have r0:=hr5.out.cell' (i:=0) rfl
    have r1:=hr5.out.cell' (i:=1) rfl
    have r2:=hr5.out.cell' (i:=2) rfl
    refine bodyPost_ret (v:=.tuple #[.agg #[.bool false,.slice none 0 0,.int .i64 0],.bool false]) (by simp [results,Tryz.results142,go_sem,r0,r1,r2]) rfl ?_
    exact ReadO.no hrv.out (HB.grown hg5 HB.size (fun k e=>by have:=Option.some.inj e;omega)) rfl
  | some k=>
    have hx:ixBV 101 d=(k:Int):=by unfold ixBV;rw [hi]
    rw [hx] at D1
    obtain⟨hk,_⟩:=idxB_at hi
    have hk0:(0:Int)≤k:=by omega
    have hk1:¬(k:Int)<0:=by omega
    have D2:=Lib.hid (fun w=>valid_any (d.take k) w (fun c hc=>hd c (List.mem_of_mem_take hc)))
    clear hx
    cases hp:(parseC (d.take k)).isSome with
    | false=>
      have hrv:Hid (readV d=none):=by unfold readV;rw [hi];exact if_pos (.inl hp)
      rw [hp] at D2
      clear hi hp
      go_enter Tryz.func142,Tryz.ntmps142
      go_upto_region 1 with(fail)
      generalize (w.alloc (.cells #[.bool false,.slice none 0 0,.int .i64 0] 194))=W at *
      go_wp2_with (first | (go_at_call 46;((with_reducible refine(D1.out _).mono ?_));rintro e w4 ⟨rfl,rfl⟩) | (go_at_call 111;((with_reducible refine(D2.out _).mono ?_));rintro e w4 ⟨rfl,hb4⟩;have HX4:=HX.out.keep hb4;have HB4:=HB.trans (hb4.mono HB.size)) | ((with_reducible show wpList _ _ _ (Oper.mk none (Op.store 194 (Operand.tmp 2) (Operand.tmp 27)) _ _ _ _ :: _) _ _);go_loud (refine wpList_sr rfl rfl 194 (.tmp 2) (.tmp 27) rfl (w.heap.size) [.bool false,.slice none 0 0,.int .i64 0] rfl rfl 194 _ HX4 _ Tryz.sz194 (by first | rfl | simp) (by first | rfl | simp) (by first | rfl | simp [Value.oneCell']) ?_;intro w5 hr5 hg5 hz5)))
      have r0:=hr5.out.cell' (i:=0) rfl
      have r1:=hr5.out.cell' (i:=1) rfl
      have r2:=hr5.out.cell' (i:=2) rfl
      refine bodyPost_ret (v:=.tuple #[.agg #[.bool false,.slice none 0 0,.int .i64 0],.bool false]) (by simp [results,Tryz.results142,go_sem,r0,r1,r2]) rfl ?_
      exact ReadO.no hrv.out (HB4.grown hg5 HB4.size (fun k e=>by have:=Option.some.inj e;omega)) rfl
    | true=>
      rw [hp] at D2
      by_cases h6:6<d.length - k
      · have hrv:Hid (readV d=none):=by unfold readV;rw [hi];exact if_pos (.inr h6)
        have h6':(6:Int)<(d.length:Int) - k:=by omega
        clear hi hp
        go_enter Tryz.func142,Tryz.ntmps142
        go_upto_region 1 with(fail)
        generalize (w.alloc (.cells #[.bool false,.slice none 0 0,.int .i64 0] 194))=W at *
        go_wp2_with (first | (go_at_call 46;((with_reducible refine(D1.out _).mono ?_));rintro e w4 ⟨rfl,rfl⟩) | (go_at_call 111;((with_reducible refine(D2.out _).mono ?_));rintro e w4 ⟨rfl,hb4⟩;have HX4:=HX.out.keep hb4;have HB4:=HB.trans (hb4.mono HB.size)) | ((with_reducible show wpList _ _ _ (Oper.mk none (Op.store 194 (Operand.tmp 2) (Operand.tmp 27)) _ _ _ _ :: _) _ _);go_loud (refine wpList_sr rfl rfl 194 (.tmp 2) (.tmp 27) rfl (w.heap.size) [.bool false,.slice none 0 0,.int .i64 0] rfl rfl 194 _ HX4 _ Tryz.sz194 (by first | rfl | simp) (by first | rfl | simp) (by first | rfl | simp [Value.oneCell']) ?_;intro w5 hr5 hg5 hz5)))
        have r0:=hr5.out.cell' (i:=0) rfl
        have r1:=hr5.out.cell' (i:=1) rfl
        have r2:=hr5.out.cell' (i:=2) rfl
        refine bodyPost_ret (v:=.tuple #[.agg #[.bool false,.slice none 0 0,.int .i64 0],.bool false]) (by simp [results,Tryz.results142,go_sem,r0,r1,r2]) rfl ?_
        exact ReadO.no hrv.out (HB4.grown hg5 HB4.size (fun k e=>by have:=Option.some.inj e;omega)) rfl
      · have h6':¬(6:Int)<(d.length:Int) - k:=by omega
        have hl5:(d.drop (k+1)).length≤5:=by rw [List.length_drop];omega
        cases ha:atoiV (d.drop (k+1)) with
        | none=>
          have hrv:Hid (readV d=none):=by
            unfold readV;rw [hi]
            show(if _ then _ else _)=_
            rw [if_neg (by rw [hp];simp;omega),ha]
          have D3:=Lib.hid (fun w hw=>atoi_no (d.drop (k+1)) (by omega) ha w hw)
          clear hi hp ha
          go_enter Tryz.func142,Tryz.ntmps142
          go_upto_region 1 with(fail)
          generalize (w.alloc (.cells #[.bool false,.slice none 0 0,.int .i64 0] 194))=W at *
          go_wp2_with (first | (go_at_call 46;((with_reducible refine(D1.out _).mono ?_));rintro e w4 ⟨rfl,rfl⟩) | (go_at_call 111;((with_reducible refine(D2.out _).mono ?_));rintro e w4 ⟨rfl,hb4⟩;have HX4:=HX.out.keep hb4;have HB4:=HB.trans (hb4.mono HB.size);have hw4:=hwW.keep hb4) | (go_at_call 167;((with_reducible refine(D3.out _ hw4).mono ?_));rintro e w7 ⟨N,rfl,hb7⟩;have HX7:=HX4.keep hb7;have HB7:=HB4.trans (hb7.mono HB4.size);have q1:=neq_err N;have q2:=neq_errg N) | ((with_reducible show wpList _ _ _ (Oper.mk none (Op.store 194 (Operand.tmp 2) (Operand.tmp 38)) _ _ _ _ :: _) _ _);go_loud (refine wpList_sr rfl rfl 194 (.tmp 2) (.tmp 38) rfl (w.heap.size) [.bool false,.slice none 0 0,.int .i64 0] rfl rfl 194 _ HX7 _ Tryz.sz194 (by first | rfl | simp) (by first | rfl | simp) (by first | rfl | simp [Value.oneCell']) ?_;intro w5 hr5 hg5 hz5)))
          have r0:=hr5.out.cell' (i:=0) rfl
          have r1:=hr5.out.cell' (i:=1) rfl
          have r2:=hr5.out.cell' (i:=2) rfl
          refine bodyPost_ret (v:=.tuple #[.agg #[.bool false,.slice none 0 0,.int .i64 0],.bool false]) (by simp [results,Tryz.results142,go_sem,r0,r1,r2]) rfl ?_
          exact ReadO.no hrv.out (HB7.grown hg5 HB7.size (fun k e=>by have:=Option.some.inj e;omega)) rfl
        | some ex=>
          have hrv:Hid (readV d=some (normV (hasP [45] d) (dec (trimM (d.take k))) ex)):=by
            unfold readV;rw [hi]
            show(if _ then _ else _)=_
            rw [if_neg (by rw [hp];simp;omega),ha]
          have D3:=Lib.hid (fun w=>atoi_ok (d.drop (k+1)) ex (by omega) ha w)
          have D4:=Lib.hid (fun w=>trimP_any (d.take k) (fun c hc=>hd c (List.mem_of_mem_take hc)) w)
          obtain⟨he1,he2⟩:=atoiV_bd hl5 ha
          clear hi ha
          have q1:=neq_nil
          have q2:=neq_nilg
          go_enter Tryz.func142,Tryz.ntmps142
          go_upto_region 1 with(fail)
          generalize (w.alloc (.cells #[.bool false,.slice none 0 0,.int .i64 0] 194))=W at *
          go_upto_region 8 with(first | (go_at_call 46;((with_reducible refine(D1.out _).mono ?_));rintro e w4 ⟨rfl,rfl⟩) | (go_at_call 111;((with_reducible refine(D2.out _).mono ?_));rintro e w4 ⟨rfl,hb4⟩;have HX4:=HX.out.keep hb4;have HB4:=HB.trans (hb4.mono HB.size)) | (go_at_call 167;((with_reducible refine(D3.out _).mono ?_));rintro e w7 ⟨rfl,hb7⟩;have HX7:=HX4.keep hb7;have HB7:=HB4.trans (hb7.mono HB4.size)) | (go_at_call 168;((with_reducible refine(D4.out _).mono ?_));rintro e w8 ⟨rfl,rfl⟩))
          obtain⟨c0,hc0⟩:∃c0,d[0]? = some c0:=⟨_,List.getElem?_eq_getElem (by omega)⟩
          have hgc:=get_mks (l:=d) (i:=0) (c:=c0) hc0 (hd c0 (List.mem_of_getElem? hc0)) (by rw [size_mks];omega)
          have hd0:((c0:Int) == 45)=hasP [45] d:=by
            cases d with
            | nil=>simp at hc0
            | cons x t=>
              have:x=c0:=by simpa using hc0
              subst this
              rw [Bool.eq_iff_iff,beq_iff_eq]
              simp [hasP]
              omega
          have hdl:(0:Int)<d.length:=by omega
          have hB7':=Lib.hid HB7
          have hX7':=Lib.hid HX7
          obtain⟨hdg,hdn⟩:=trimM_dig hp
          have DB:=Lib.hid (fun w=>bytes_any (trimM (d.take k)) hdg w (by rw [List.length_take] at hdn;omega))
          have DN:=Lib.hid (fun(g:Nat) (w:World) (h:Arr w g 5 (B8 (dec (trimM (d.take k)))))=>norm_any (hasP [45] d) ⟨g,0,none⟩ (trimM (d.take k)).length (trimM (d.take k)).length (dec (trimM (d.take k))) ex w (by show _=_;simp [dec]) h.rd (Nat.le_refl _) (by rw [List.length_take] at hdn;omega) (by unfold maxLen;rw [List.length_take] at hdn;omega) (by omega) (by omega))
          clear hp D1 D2 D3 D4 hc0 HX4 HB4 HX7 HB7 hwW
          have hNB:=Lib.hid (normV_ok (neg:=hasP [45] d) (ex:=ex) (ten_decD hdg) 4294967295 (by omega) (by rw [show(dec (trimM (d.take k))).length=(trimM (d.take k)).length by simp [dec]];rw [List.length_take] at hdn;omega) (by rw [show(dec (trimM (d.take k))).length=(trimM (d.take k)).length by simp [dec]];rw [List.length_take] at hdn;omega))
          generalize hasP [45] d=ng at *
          generalize trimM (d.take k)=tr at *
          obtain⟨z,hz⟩:∃z,normV ng (dec tr) ex=z:=⟨_,rfl⟩
          rw [hz] at hrv DN hNB
          clear hz
          obtain⟨b7,hb7e⟩:∃b,w.heap.size=b:=⟨_,rfl⟩
          rw [hb7e] at hB7' hX7' HL ⊢
          have HB7E:=Lib.hid hb7e
          clear hb7e
          have hb7l:=Lib.hid (show b7<w7.heap.size from hX7'.out.lt)
          go_cut [8] (fun p wx=>∃(b:Nat) (A:Option Addr) (nn cc:Nat),p=.pointer (some ⟨b,0,none⟩)∧Hid (w7.heap.size≤b)∧Hid (Arr wx b 194 [.bool z.1,.slice A nn cc,.int .i64 z.2.2])∧Hid (nn=z.2.1.length)∧Hid (nn≤cc)∧Hid (Rd wx A (B8 z.2.1))∧Hid (From w7.heap.size A)∧Below w7.heap.size w7 wx)
          case first=>
            go_region_held3 (fun w'=>True) (trivial) (first | (go_at_call 170;((with_reducible refine(DB.out _).mono ?_));rintro e w8 ⟨g8,rfl,hg8,hA8,hb8⟩;(first | (have HQ8:=Lib.hid (Arr.keep (w:=(w7.alloc (.cells #[.bool false,.slice none 0 0,.int .i64 0] 194)).drew) (Arr.new w7 194 [.bool false,.slice none 0 0,.int .i64 0]) hb8)) | skip)) | (go_at_call 169;((with_reducible refine(DN.out _ _ hA8.out).mono ?_));rintro e w9 ⟨A,nn,cc,rfl,hnn,hcc,hrd,hfr,hb9⟩;(first | (have HQ9:=Arr.keep HQ8.out hb9;have q0:=HQ9.cell' (i:=0) rfl;have q1:=HQ9.cell' (i:=1) rfl;have q2:=HQ9.cell' (i:=2) rfl;have qf0:=HQ9.frozen 0;have qf1:=HQ9.frozen 1;have qf2:=HQ9.frozen 2) | skip)) | (go_at_call 169;((with_reducible refine(DN.out _ _ (Arr.alloc hA8.out _)).mono ?_));rintro e w9 ⟨A,nn,cc,rfl,hnn,hcc,hrd,hfr,hb9⟩;have HQ9:=Arr.keep (Arr.new _ 194 [.bool false,.slice none 0 0,.int .i64 0]) hb9;have q0:=HQ9.cell' (i:=0) rfl;have q1:=HQ9.cell' (i:=1) rfl;have q2:=HQ9.cell' (i:=2) rfl;have qf0:=HQ9.frozen 0;have qf1:=HQ9.frozen 1;have qf2:=HQ9.frozen 2))
            all_goals
              go_wp2_with (fail)
              go_meet
              first
                | (have h79 : Below w7.heap.size w7 w9 := ((Below.drew (Below.refl _ w7)).trans hb8).trans (hb9.mono hb8.size)
                   have HF:=Arr.new w9 194 [.bool z.1,.slice A nn cc,.int .i64 z.2.2]
                   have hRd:=hrd.alloc (.cells #[.bool z.1,.slice A nn cc,.int .i64 z.2.2] 194)
                   have hFr:From w7.heap.size A:=fun ad e=>Nat.le_trans hb8.size (hfr ad e)
                   have hBl:=h79.alloc h79.size (.cells #[.bool z.1,.slice A nn cc,.int .i64 z.2.2] 194)
                   exact⟨_,A,nn,cc,rfl,h79.size,HF,hnn,hcc,hRd,hFr,hBl⟩)
                | (have HF : Arr (((w9.setCell ⟨w8.heap.size, 0, none⟩ (.bool z.1)).setCell ⟨w8.heap.size, 1, none⟩ (.slice A nn cc)).setCell ⟨w8.heap.size, 2, none⟩ (.int .i64 z.2.2)) (w8.heap.size) 194 [.bool z.1, .slice A nn cc, .int .i64 z.2.2] := ((HQ9.store 0 (.bool z.1)).store 1 (.slice A nn cc)).store 2 (.int .i64 z.2.2)
                   have hge:w7.heap.size≤w8.heap.size:=hb8.size
                   have hfa:∀ad,A=some ad→w8.heap.size+1≤ad.block:=fun ad e=>by have h1:=hfr ad e;have h3:=hb8.size;simp at h1 h3;omega
                   have hgr:=grown_trans (grown_trans (grown_set w9 ⟨w8.heap.size,0,none⟩ (.bool z.1)) (grown_set _ ⟨w8.heap.size,1,none⟩ (.slice A nn cc))) (grown_set _ ⟨w8.heap.size,2,none⟩ (.int .i64 z.2.2))
                   have hRd:=hrd.grown hgr (fun ad e h=>by have h1:=hfa ad e;have h2:ad.block=_:=Option.some.inj h;simp only at h2;omega)
                   have hFr:From w7.heap.size A:=fun ad e=>by have h1:=hfa ad e;omega
                   have h79:Below w7.heap.size w7 w9:=(((Below.drew (Below.refl _ w7)).trans hb8).alloc hb8.size _).trans (hb9.mono (by have:=hb8.size;simp at this ⊢;omega))
                   have hBl:=below_row h79 hgr h79.size hge
                   exact⟨_,A,nn,cc,rfl,hge,HF,hnn,hcc,hRd,hFr,hBl⟩)
                | (have HF : Arr (((w9.setCell ⟨w7.heap.size, 0, none⟩ (.bool z.1)).setCell ⟨w7.heap.size, 1, none⟩ (.slice A nn cc)).setCell ⟨w7.heap.size, 2, none⟩ (.int .i64 z.2.2)) (w7.heap.size) 194 [.bool z.1, .slice A nn cc, .int .i64 z.2.2] := ((HQ9.store 0 (.bool z.1)).store 1 (.slice A nn cc)).store 2 (.int .i64 z.2.2)
                   have hge:w7.heap.size≤w7.heap.size:=Nat.le_refl _
                   have hfa:∀ad,A=some ad→w7.heap.size+1≤ad.block:=fun ad e=>by have h1:=hfr ad e;have h3:=hb8.size;simp at h1 h3;omega
                   have hgr:=grown_trans (grown_trans (grown_set w9 ⟨w7.heap.size,0,none⟩ (.bool z.1)) (grown_set _ ⟨w7.heap.size,1,none⟩ (.slice A nn cc))) (grown_set _ ⟨w7.heap.size,2,none⟩ (.int .i64 z.2.2))
                   have hRd:=hrd.grown hgr (fun ad e h=>by have h1:=hfa ad e;have h2:ad.block=_:=Option.some.inj h;simp only at h2;omega)
                   have hFr:From w7.heap.size A:=fun ad e=>by have h1:=hfa ad e;omega
                   have h79:Below w7.heap.size w7 w9:=(((Below.refl _ w7).alloc (Nat.le_refl _) _).drew.trans (hb8.mono (by simp))).trans (hb9.mono (by have:=hb8.size;simp at this ⊢;omega))
                   have hBl:=below_row h79 hgr h79.size hge
                   exact⟨_,A,nn,cc,rfl,hge,HF,hnn,hcc,hRd,hFr,hBl⟩)
          case rest=>
            obtain⟨b,A,nn,cc,rfl,hbge,hXb,hnn,hcc,hRd,hFr,hBc⟩:=hcut
            obtain⟨W9,hW9⟩:∃x,x=wc:=⟨_,rfl⟩
            subst hW9
            have HX2:=Lib.hid (hX7'.out.keep hBc)
            have HBc:=Lib.hid (hB7'.out.trans (hBc.mono (by have:=hb7l.out;omega)))
            have hP9:Pow10 W9:=(hw.keep (by rw [HB7E.out];exact HBc.out)).lib.pow
            obtain⟨hTen,hLen,hE1,hE2⟩:=hNB.out
            have hv:Hid (validD d=(decide (limV z=0) && decide (textV z=d))):=by
              unfold validD
              rw [hrv.out]
              exact rfl
            have hx:Hid ((readV d).getD (false,[],0)=z):=by rw [hrv.out];exact rfl
            have DL:Hid (∀w,Calls Tryz.prog 171 #[.agg #[.bool z.1,.slice A nn cc,.int .i64 z.2.2]] w fun e w'=>e=.returned (.int .i64 (limV z))∧Below w.heap.size w w'):=fun w=>limit_any z A nn cc w hnn
            have DT:Hid (∀w,Rd w A (B8 z.2.1)→Pow10 w→Calls Tryz.prog 172 #[.agg #[.bool z.1,.slice A nn cc,.int .i64 z.2.2]] w fun e w'=>e=.returned (.string (mks (textV z)))∧Below w.heap.size w w'):=fun w hr hp=>dtext_any z.1 z.2.1 z.2.2 A nn cc w hnn hr hTen (by have:=hnn.out;omega) (by omega) (by omega) hp
            have hTx:=Lib.hid (eq_mks (textV_by hTen) hd)
            have hbb:b7≠b:=by have:=hb7l.out;have:=hbge.out;omega
            have RX:Hid (∀w',W9.grownBy w' (some b7)→Rd w' A (B8 z.2.1)):=fun w' h=>hRd.out.grown h (fun ad e h2=>by have h1:=hFr.out ad e;have h3:=Option.some.inj h2;have:=hb7l.out;omega)
            have PX:Hid (∀w',W9.grownBy w' (some b7)→Pow10 w'):=fun w' h=>(hw.keep (by rw [HB7E.out];exact below_row HBc.out h (by have:=HX2.out.lt;omega) (Nat.le_refl _))).lib.pow
            have q0:∀w',W9.grownBy w' (some b7)→w'.cell? ⟨b,0,none⟩=some (.bool z.1):=fun w' h=>(hXb.out.grown h (by intro e;have:=Option.some.inj e;omega)).cell' (i:=0) rfl
            have q1:∀w',W9.grownBy w' (some b7)→w'.cell? ⟨b,1,none⟩=some (.slice A nn cc):=fun w' h=>(hXb.out.grown h (by intro e;have:=Option.some.inj e;omega)).cell' (i:=1) rfl
            have q2:∀w',W9.grownBy w' (some b7)→w'.cell? ⟨b,2,none⟩=some (.int .i64 z.2.2):=fun w' h=>(hXb.out.grown h (by intro e;have:=Option.some.inj e;omega)).cell' (i:=2) rfl
            have HP9:Hid (Arr W9.drew b7 194 [.bool false,.slice none 0 0,.int .i64 0]):=HX2
            have p9_0:=(HX2.out).cell' (i:=0) rfl
            have pf9_0:=(HX2.out).frozen 0
            have p9_1:=(HX2.out).cell' (i:=1) rfl
            have pf9_1:=(HX2.out).frozen 1
            have p9_2:=(HX2.out).cell' (i:=2) rfl
            have pf9_2:=(HX2.out).frozen 2
            have HS:W9.grownBy W9 (some b7):=World.grownBy.refl _ _
            have HSd:W9.grownBy W9.drew (some b7):=grown_drew' HS
            generalize limV z=lv at *
            generalize textV z=tv at *
            clear hTen hLen hE1 hE2
            go_upto_region 9 with(fail)
            by_cases hl0:lv=0
            · subst hl0
              go_region_held3 (fun w'=>W9.grownBy w' (some b7)) (first | assumption | exact grown_three (by assumption) _ _ _) (first | (go_at_call 171;((with_reducible refine(DL.out _).mono ?_));rintro e w5 ⟨rfl,hb5⟩;have hS5:W9.grownBy w5 (some b7):=grown_below (by assumption) hb5;(first | (have HP5:=Lib.hid (Arr.keep HP9.out hb5);have p5_0:=(HP5.out).cell' (i:=0) rfl;have pf5_0:=(HP5.out).frozen 0;have p5_1:=(HP5.out).cell' (i:=1) rfl;have pf5_1:=(HP5.out).frozen 1;have p5_2:=(HP5.out).cell' (i:=2) rfl;have pf5_2:=(HP5.out).frozen 2) | (have HP5:=Lib.hid (Arr.keep HP5.out hb5);have p5_0:=(HP5.out).cell' (i:=0) rfl;have pf5_0:=(HP5.out).frozen 0;have p5_1:=(HP5.out).cell' (i:=1) rfl;have pf5_1:=(HP5.out).frozen 1;have p5_2:=(HP5.out).cell' (i:=2) rfl;have pf5_2:=(HP5.out).frozen 2) | skip)) | (go_at_call 172;((with_reducible refine(DT.out _ (RX.out _ (by assumption)) (PX.out _ (by assumption))).mono ?_));rintro e w6 ⟨rfl,hb6⟩;have hS6:W9.grownBy w6 (some b7):=grown_below (by assumption) hb6;(first | (have HP6:=Lib.hid (Arr.keep HP9.out hb6);have p6_0:=(HP6.out).cell' (i:=0) rfl;have pf6_0:=(HP6.out).frozen 0;have p6_1:=(HP6.out).cell' (i:=1) rfl;have pf6_1:=(HP6.out).frozen 1;have p6_2:=(HP6.out).cell' (i:=2) rfl;have pf6_2:=(HP6.out).frozen 2) | (have HP6:=Lib.hid (Arr.keep HP5.out hb6);have p6_0:=(HP6.out).cell' (i:=0) rfl;have pf6_0:=(HP6.out).frozen 0;have p6_1:=(HP6.out).cell' (i:=1) rfl;have pf6_1:=(HP6.out).frozen 1;have p6_2:=(HP6.out).cell' (i:=2) rfl;have pf6_2:=(HP6.out).frozen 2) | skip)))
              all_goals
                go_wp2_with (fail)
                (have HF:Arr _ b7 194 [.bool z.1,.slice A nn cc,.int .i64 z.2.2]:=((HP6.out.store 0 (.bool z.1)).store 1 (.slice A nn cc)).store 2 (.int .i64 z.2.2);have hgF:=grown_three hS6 (.bool z.1) (.slice A nn cc) (.int .i64 z.2.2);have r0:=HF.cell' (i:=0) rfl;have r1:=HF.cell' (i:=1) rfl;have r2:=HF.cell' (i:=2) rfl;refine bodyPost_ret (v:=.tuple #[.agg #[.bool z.1,.slice A nn cc,.int .i64 z.2.2],.bool (decide (tv=d))]) (by simp [results,Tryz.results142,go_sem,r0,r1,r2,hTx.out]) rfl (ReadO.yes hx.out (by rw [HB7E.out];exact below_row HBc.out hgF (by have:=HX2.out.lt;omega) (Nat.le_refl _)) hnn hcc.out (RX.out _ hgF) (fun ad e=>by have h1:=hFr.out ad e;have h2:=hb7l.out;have h3:=HB7E.out;omega) (by rw [hv.out];simp) rfl))
            · have hl1:(lv == 0)=false:=by simpa using hl0
              simp only [gload_eq,gmove_eq,gbin_eq]
              first
                | (go_region_held3 (fun w'=>W9.grownBy w' (some b7)) (first | assumption | exact grown_three (by assumption) _ _ _) (first | (go_at_call 171;((with_reducible refine(DL.out _).mono ?_));rintro e w5 ⟨rfl,hb5⟩;have hS5:W9.grownBy w5 (some b7):=grown_below (by assumption) hb5;(first | (have HP5:=Lib.hid (Arr.keep HP9.out hb5);have p5_0:=(HP5.out).cell' (i:=0) rfl;have pf5_0:=(HP5.out).frozen 0;have p5_1:=(HP5.out).cell' (i:=1) rfl;have pf5_1:=(HP5.out).frozen 1;have p5_2:=(HP5.out).cell' (i:=2) rfl;have pf5_2:=(HP5.out).frozen 2) | (have HPS:=Lib.hid (Arr.keep (((HP9.out.store 0 (.bool z.1)).store 1 (.slice A nn cc)).store 2 (.int .i64 z.2.2)) hb5)) | skip))))
                | fail
              all_goals
                go_wp2_with (fail)
                first
                  | (have HF:Arr _ b7 194 [.bool z.1,.slice A nn cc,.int .i64 z.2.2]:=((HP5.out.store 0 (.bool z.1)).store 1 (.slice A nn cc)).store 2 (.int .i64 z.2.2);have hgF:=grown_three hS5 (.bool z.1) (.slice A nn cc) (.int .i64 z.2.2);have r0:=HF.cell' (i:=0) rfl;have r1:=HF.cell' (i:=1) rfl;have r2:=HF.cell' (i:=2) rfl;refine bodyPost_ret (v:=.tuple #[.agg #[.bool z.1,.slice A nn cc,.int .i64 z.2.2],.bool (false)]) (by simp [results,Tryz.results142,go_sem,r0,r1,r2,hTx.out]) rfl (ReadO.yes hx.out (by rw [HB7E.out];exact below_row HBc.out hgF (by have:=HX2.out.lt;omega) (Nat.le_refl _)) hnn hcc.out (RX.out _ hgF) (fun ad e=>by have h1:=hFr.out ad e;have h2:=hb7l.out;have h3:=HB7E.out;omega) (by rw [hv.out,decide_eq_false hl0];rfl) rfl))
                  | (have HF:Arr _ b7 194 [.bool z.1,.slice A nn cc,.int .i64 z.2.2]:=HPS.out;have hgF:=hS5;have r0:=HF.cell' (i:=0) rfl;have r1:=HF.cell' (i:=1) rfl;have r2:=HF.cell' (i:=2) rfl;refine bodyPost_ret (v:=.tuple #[.agg #[.bool z.1,.slice A nn cc,.int .i64 z.2.2],.bool (false)]) (by simp [results,Tryz.results142,go_sem,r0,r1,r2,hTx.out]) rfl (ReadO.yes hx.out (by rw [HB7E.out];exact below_row HBc.out hgF (by have:=HX2.out.lt;omega) (Nat.le_refl _)) hnn hcc.out (RX.out _ hgF) (fun ad e=>by have h1:=hFr.out ad e;have h2:=hb7l.out;have h3:=HB7E.out;omega) (by rw [hv.out,decide_eq_false hl0];rfl) rfl))
set_option maxRecDepth 8000 in
set_option maxHeartbeats 2000000 in
theorem dvalid_any (d:List Nat) (hd:By d) (hl:d.length<4294967295) (w:World) (hw:LibE w):Calls Tryz.prog 112 #[.string (mks d)] w fun e w'=>e=.returned (.bool (validD d))∧Below w.heap.size w w':=by
  have D:=Lib.hid (dread_any d hd hl w hw)
  unfold ReadO at D
  generalize validD d=v at *
  generalize (readV d).getD (false,[],0)=z at *
  go_enter Tryz.func112,Tryz.ntmps112
  go_wp2_with (first | (go_at_call 142;((with_reducible refine D.out.mono ?_));rintro e w5 ⟨hb5,A,nn,cc,rfl,_,_,_,_⟩;have hX0:=Lib.hid (Arr.new w5 194 [.bool false,.slice none 0 0,.int .i64 0]);have hB0:Below w5.heap.size w5 (w5.alloc (.cells #[.bool false,.slice none 0 0,.int .i64 0] 194)):=(Below.refl _ _).alloc (Nat.le_refl _) _) | ((with_reducible show wpList _ _ _ (Oper.mk none (Op.store 194 (Operand.tmp 3) (Operand.tmp 8)) _ _ _ _ :: _) _ _);go_loud (refine wpList_sr rfl rfl 194 (.tmp 3) (.tmp 8) rfl (w5.heap.size) [.bool z.1,.slice A nn cc,.int .i64 z.2.2] rfl rfl 194 _ hX0.out _ Tryz.sz194 (by first | rfl | simp) (by first | rfl | simp) (by first | rfl | simp [Value.oneCell']) ?_;intro w6 hr6 hg6 hz6)))
  go_ret
  exact⟨rfl,Below.grown (hb5.trans (hB0.mono hb5.size)) hg6 (by have:=hb5.size;simp;omega) (fun k e=>by have:=Option.some.inj e;have:=hb5.size;omega)⟩
end Go.Proofs.YtnnnagnjikdnnaaGreatDoor
namespace Go.Proofs.YtnnnagnjikdnnaaGreatDoor
open Go.RowKit
def LibH (w:World) (B:Nat):Prop:=∀w',HF w.heap.size B w w'→LibE w'
theorem LibH.now {w:World} {B:Nat} (h:LibH w B):LibE w:=h w (HF.refl (Nat.le_refl _))
theorem LibH.at_ {w w1:World} {B i:Nat} (h:LibH w B) (k:AtW w B i w1):LibH w1 B:=fun w' hf=>h w' ⟨hf.os.trans k.os,hf.tape.trans k.tape,hf.output.trans k.output,Nat.le_trans k.size hf.size,fun j hj hB=>by
 rw [hf.keep j (Nat.lt_of_lt_of_le hj k.size) hB];exact k.hf.keep j hj hB⟩
end Go.Proofs.YtnnnagnjikdnnaaGreatDoor
namespace Go.Proofs.YtnnnagnjikdnnaaGreatDoor
open Go.RowKit
theorem bld_hf {z b B:Nat} {bs:List Value} {W W':World} (h:BldF z b bs W) (hk:HF W.heap.size B W W') (hB:B<z):BldF z b bs W':=by
 have go:∀p,Lib.BuilderAtF 49 5 z b p bs W→Lib.BuilderAtF 49 5 z b p bs W':=fun p h=>by
  obtain⟨hB2,v,hb,hown,hne⟩:=h
  refine⟨hB2,v,(hk.keep b (Array.getElem?_eq_some_iff.1 hb).1 (by omega)).trans hb,?_,hne⟩
  refine hown.kept (row:=some B) ⟨hk.os,hk.tape,hk.output,hk.size,fun k hk2 hne2=>hk.keep k hk2 (fun e=>hne2 (by rw [e]))⟩ (.inr (fun e=>?_))
  have:=(hown.lt B e).1
  omega
 exact h.imp (go _) (go _)
theorem HF.over {w w1 w2:World} {z z' B:Nat} (h:HF z B w w1) (hb:Below z' w1 w2) (hz:z≤z'):HF z B w w2:=⟨hb.os.trans h.os,hb.tape.trans h.tape,hb.output.trans h.output,Nat.le_trans h.size hb.size,fun k hk hB=>(hb.block k (by omega)).trans (h.keep k hk hB)⟩
end Go.Proofs.YtnnnagnjikdnnaaGreatDoor
