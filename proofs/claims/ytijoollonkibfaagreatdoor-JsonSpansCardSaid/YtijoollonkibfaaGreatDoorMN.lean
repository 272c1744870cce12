/- value of json's parser at a list. -/
import Derived.Test.YtijoollonkibfaaGreatDoorMLa
import Derived.Test.YtijoollonkibfaaGreatDoorMLc
import Derived.Deep.CutRange
import Derived.Test.YtijoollonkibfaaGreatDoorMMa
import Derived.Test.YtijoollonkibfaaGreatDoorMMt
import Derived.Test.YtijoollonkibfaaGreatDoorMMo
import Derived.Recover
import Derived.Defers
import Derived.StillTailTactics
set_option linter.unusedVariables false
set_option linter.unusedSimpArgs false
set_option linter.defProp false
set_option linter.constructorNameAsVariable false
namespace Go.Proofs.YtijoollonkibfaaGreatDoor
open Go.RowKit
theorem value_cont_l {w:World} {B pb:Nat} {F:Nat→Prop} {k:PK} {A:Option Addr} {n c:Nat} {vn vs:Value} {ncs:List Value} {st:PSt} (h:PMx w B pb F k A n c vn vs ncs st) (hok:∀t∈st.left,TokOK t) (hL:LibAt B w) (s:JSpan) (d:Nat) (hd:d≤1000) {t:JTok} {r:List JTok} (hl:st.left=t :: r)
  (hk:t.kind=1) (hx:t.text = [91]) (hr:roomV st d=0) (hinv:PInv st) (L f0:Nat) (hll:st.left.length≤L) (hLb:L≤65536) (hfu:2*st.left.length<f0+1) (ih:∀f',f'≤f0→ValOK B pb k L f') (oc:Except PErr PLoop) (res:Except PErr (Int×PSt))
  (HO:Hid (itemsV k.en f0 false st.spans.length d ⟨⟨r,st.nodes ++ [⟨9,[],false,[],[]⟩],st.spans ++ [{ s with node:=st.nodes.length,from_:=t.from_,whole:=true }]⟩,[],[],[]⟩=oc))
  (HR:Hid (contRes st.nodes.length 9 st.spans.length oc=res)):Calls Tryz.prog 10 #[.pointer (some ⟨pb,0,none⟩),.agg (spanC s).toArray,.int .i64 (d:Int)] w (ValR w B pb F k res):=
 shell_l w B pb F k st s d t r L f0 oc res ⟨close_l h hok hL s d hd hl hk hx hr hinv L f0 hll hLb hfu ih oc res HO HR⟩ ⟨comma_l h hok hL s d hd hl hk hx hr hinv L f0 hll hLb hfu ih oc res HO HR⟩ ⟨go_l h hok hL s d hd hl hk hx hr hinv L f0 hll hLb hfu ih oc res HO HR⟩ h hok hL hd hl hk hx hr hinv hll hLb hfu ih HO HR
end Go.Proofs.YtijoollonkibfaaGreatDoor
namespace Go.Proofs.YtijoollonkibfaaGreatDoor
open Go.RowKit
theorem value_cont_m {w:World} {B pb:Nat} {F:Nat→Prop} {k:PK} {A:Option Addr} {n c:Nat} {vn vs:Value} {ncs:List Value} {st:PSt} (h:PMx w B pb F k A n c vn vs ncs st) (hok:∀t∈st.left,TokOK t) (hL:LibAt B w) (s:JSpan) (d:Nat) (hd:d≤1000) {t:JTok} {r:List JTok} (hl:st.left=t :: r)
  (hk:t.kind=1) (hx:t.text = [123]) (hr:roomV st d=0) (hinv:PInv st) (L f0:Nat) (hll:st.left.length≤L) (hLb:L≤65536) (hfu:2*st.left.length<f0+1) (ih:∀f',f'≤f0→ValOK B pb k L f') (oc:Except PErr PLoop) (res:Except PErr (Int×PSt))
  (HO:Hid (itemsV k.en f0 true st.spans.length d ⟨⟨r,st.nodes ++ [⟨10,[],false,[],[]⟩],st.spans ++ [{ s with node:=st.nodes.length,from_:=t.from_,whole:=true }]⟩,[],[],[]⟩=oc))
  (HR:Hid (contRes st.nodes.length 10 st.spans.length oc=res)):Calls Tryz.prog 10 #[.pointer (some ⟨pb,0,none⟩),.agg (spanC s).toArray,.int .i64 (d:Int)] w (ValR w B pb F k res):=
 shell_m w B pb F k st s d t r L f0 oc res ⟨close_m h hok hL s d hd hl hk hx hr hinv L f0 hll hLb hfu ih oc res HO HR⟩ ⟨comma_m h hok hL s d hd hl hk hx hr hinv L f0 hll hLb hfu ih oc res HO HR⟩ ⟨goshell_m w B pb F k st s d t r L f0 oc res ⟨keyshell_m w B pb F k st s d t r L f0 oc res ⟨ok_m h hok hL s d hd hl hk hx hr hinv L f0 hll hLb hfu ih oc res HO HR⟩ h hok hL hd hl hk hx hr hinv hll hLb hfu ih HO HR⟩ ⟨tail_m h hok hL s d hd hl hk hx hr hinv L f0 hll hLb hfu ih oc res HO HR⟩ h hok hL hd hl hk hx hr hinv hll hLb hfu ih HO HR⟩ h hok hL hd hl hk hx hr hinv hll hLb hfu ih HO HR
end Go.Proofs.YtijoollonkibfaaGreatDoor
namespace Go.Proofs.YtijoollonkibfaaGreatDoor
open Go.RowKit
section
variable {en f0 d:Nat} {st:PSt} {s:JSpan} {t:JTok} {r:List JTok}
theorem valueV_nil (hl:st.left = []):valueV en (f0+1) st s d=.error (en,4):=by rw [valueV,hl]
theorem valueV_punct (hl:st.left=t :: r) (hk:t.kind=1) (h1:¬t.text = [91]) (h2:¬t.text = [123]):valueV en (f0+1) st s d=.error (t.from_,4):=by
 rw [valueV,hl]
 simp only
 rw [if_pos ⟨hk,h1,h2⟩]
theorem room_err (hr:roomV st d≠0) (y:Except PErr (Int×PSt)):(if 32<d then .error (t.from_,5) else if 4096≤st.nodes.length then .error (t.from_,7) else y)=(.error (t.from_,roomV st d):Except PErr (Int×PSt)):=by
 unfold roomV at hr ⊢
 by_cases h1:32<d
 ·rw [if_pos h1,if_pos h1]
 ·rw [if_neg h1] at hr ⊢
  rw [if_neg h1]
  by_cases h2:4096≤st.nodes.length
  ·rw [if_pos h2,if_pos h2]
  ·rw [if_neg h2] at hr;exact absurd rfl hr
theorem room_go (hr:roomV st d=0) (y:Except PErr (Int×PSt)):(if 32<d then .error (t.from_,5) else if 4096≤st.nodes.length then .error (t.from_,7) else y)=y:=by
 obtain⟨h1,h2⟩:=room0 hr
 rw [if_neg (by omega),if_neg (by omega)]
theorem valueV_room (hl:st.left=t :: r) (h:¬(t.kind=1∧¬t.text = [91]∧¬t.text = [123])) (hr:roomV st d≠0):valueV en (f0+1) st s d=.error (t.from_,roomV st d):=by
 rw [valueV,hl]
 simp only
 rw [if_neg h,room_err hr]
theorem valueV_scal (hl:st.left=t :: r) (hk:¬t.kind=1) (hr:roomV st d=0):valueV en (f0+1) st s d=match scalarV t with
  | none=>.error (t.from_,12)
  | some nd=>.ok (st.nodes.length,⟨r,st.nodes ++ [nd],st.spans ++ [{ s with node:=st.nodes.length,from_:=t.from_,to_:=t.to_,whole:=true }]⟩):=by
 rw [valueV,hl]
 simp only
 rw [if_neg (fun h=>hk h.1),room_go hr,if_neg hk]
 cases scalarV t <;> rfl
theorem valueV_list (hl:st.left=t :: r) (hk:t.kind=1) (hx:t.text = [91]) (hr:roomV st d=0):valueV en (f0+1) st s d =
  contRes st.nodes.length 9 st.spans.length (itemsV en f0 false st.spans.length d ⟨⟨r,st.nodes ++ [⟨9,[],false,[],[]⟩],st.spans ++ [{ s with node:=st.nodes.length,from_:=t.from_,whole:=true }]⟩,[],[],[]⟩):=by
 rw [valueV,hl]
 simp only
 rw [if_neg (fun h=>h.2.1 hx),room_go hr,if_pos hk]
 have e1:(t.text = [123])=False:=by rw [hx];simp
 simp only [e1,if_false,decide_false]
 generalize itemsV en f0 false _ _ _=o
 cases o <;> rfl
theorem valueV_map (hl:st.left=t :: r) (hk:t.kind=1) (hx:t.text = [123]) (hr:roomV st d=0):valueV en (f0+1) st s d =
  contRes st.nodes.length 10 st.spans.length (itemsV en f0 true st.spans.length d ⟨⟨r,st.nodes ++ [⟨10,[],false,[],[]⟩],st.spans ++ [{ s with node:=st.nodes.length,from_:=t.from_,whole:=true }]⟩,[],[],[]⟩):=by
 rw [valueV,hl]
 simp only
 rw [if_neg (fun h=>h.2.2 hx),room_go hr,if_pos hk]
 have e1:(t.text = [123])=True:=by rw [hx];simp
 simp only [e1,if_true,decide_true]
 generalize itemsV en f0 true _ _ _=o
 cases o <;> rfl
end
theorem value_any (B pb:Nat) (k:PK) (L:Nat) (hLb:L≤65536) (f:Nat):ValOK B pb k L f:=by
 induction f using Nat.strongRecOn with
 | ind f ihf=>
  rintro w F st s d ⟨A,n,c,vn,vs,ncs,h⟩ hok hinv hL hd hfu hll
  obtain⟨f0,rfl⟩:∃f0,f=f0+1:=⟨f - 1,by omega⟩
  have ih:∀f',f'≤f0→ValOK B pb k L f':=fun f' hf=>ihf f' (by omega)
  have hd':d≤1000:=by omega
  cases hl:st.left with
  | nil=>rw [valueV_nil hl];exact value_nil h hok hL s d hl
  | cons t r=>
   by_cases hk:t.kind=1
   ·by_cases h1:t.text = [91]
    ·by_cases hr:roomV st d=0
     ·rw [valueV_list hl hk h1 hr]
      exact value_cont_l h hok hL s d hd' hl hk h1 hr hinv L f0 hll hLb hfu ih _ _ (Lib.hid rfl) (Lib.hid rfl)
     ·rw [valueV_room hl (fun h=>h.2.1 h1) hr]
      exact value_room_l h hok hL s d hd' hl hk h1 hr
    ·by_cases h2:t.text = [123]
     ·by_cases hr:roomV st d=0
      ·rw [valueV_map hl hk h2 hr]
       exact value_cont_m h hok hL s d hd' hl hk h2 hr hinv L f0 hll hLb hfu ih _ _ (Lib.hid rfl) (Lib.hid rfl)
      ·rw [valueV_room hl (fun h=>h.2.2 h2) hr]
       exact value_room_m h hok hL s d hd' hl hk h2 hr
     ·rw [valueV_punct hl hk h1 h2]
      exact value_punct h hok hL s d hl hk h1 h2
   ·by_cases hr:roomV st d=0
    ·rw [valueV_scal hl hk hr]
     cases hsv:scalarV t with
     | none=>exact value_scal_bad h hok hL s d hd' hl hk hr hsv
     | some nd=>exact value_scal_ok h hok hL s d hd' hl hk hr hsv hinv
    ·rw [valueV_room hl (fun h=>hk h.1) hr]
     exact value_room_s h hok hL s d hd' hl hk hr
end Go.Proofs.YtijoollonkibfaaGreatDoor
namespace Go.Proofs.YtijoollonkibfaaGreatDoor
open Go.RowKit
theorem catch_idle (p q r:Addr) (w:World) :
  CallsD Tryz.prog 9 #[.pointer (some p),.pointer (some q),.pointer (some r)] .returning w fun e u' w'=>e=.returned (.tuple #[])∧u'=.returning∧w'=w:=by
 refine callsD_of_wpS Tryz.func9 rfl fun c₀ cs hu=>?_
 apply wpS_seq
 apply wpS_region
 simp [wpOpsS,go_sem,recoverD,hu,Tryz.ntmps9,Exit.thenS]
 apply wpS_seq
 apply wpS_seq
 apply wpS_region
 simp [wpOpsS,go_sem,Exit.thenS]
 refine wpS_cond (t:=true) (by simp [Act.eval,Array.replicate]) ?_
 simp only [if_true]
 refine wpS_of_wp (wp_ret ?_)
 cases c₀
 simp_all [bodyPostS,results,Tryz.results9,Exit.thenS]
theorem Tryz.sz45:(Tryz.prog.info? 45).map (·.size)=some 2:=by kernel_rfl
-- 20: the number of interface {}
theorem assert_fail (v:Value) (w:World):(Instr.typeAssert (.iface 45 v) 20 45 true).run Tryz.prog w=.ok (.tuple #[v,.bool true]) w:=by kernel_rfl
theorem isnil_fail (v:Value) (w:World):(binOp BinOp.eql 20 (.iface 45 v) .nilIface).run Tryz.prog w=.ok (.bool false) w:=by kernel_rfl
theorem isnil_guard (v:Value) (w:World):(eqGuard BinOp.eql 20 (Operand.tmp 7) (Operand.const Value.nilIface) (.iface 45 v) .nilIface).run Tryz.prog w=.ok () w:=by kernel_rfl
theorem arr_drew {w:World} {g:Nat} {t:TypeId} {xs:List Value} (h:Arr w g t xs):Arr w.drew g t xs:=h
abbrev zDoc:List Value:=[.int .i64 0,.string ⟨#[]⟩,.slice none 0 0,.int .i64 0,.slice none 0 0,.slice none 0 0]
def CatchR (w:World) (pg qg rg:Nat) (x:PErr) (w':World):Prop:=Arr w' pg 29 zDoc∧Arr w' qg 3 [.int .i64 (x.1:Int)]∧Arr w' rg 30 [.int .i64 (x.2:Int)]∧∀B,B≤pg→B≤qg→B≤rg→Below B w w'
theorem catch_drew {w:World} {pg qg rg:Nat} {x:PErr} {w':World} (h:CatchR w pg qg rg x w'):CatchR w pg qg rg x w'.drew:=⟨arr_drew h.1,arr_drew h.2.1,arr_drew h.2.2.1,fun B a b c=>(h.2.2.2 B a b c).drew⟩
set_option maxRecDepth 20000 in
set_option maxHeartbeats 400000 in
theorem catch_panic (pg qg rg:Nat) (x:PErr) (older:List PanicEntry) (w:World) (d0 d1 d2 d3 d4 d5:Value) (a0 b0:Value) (HP:Arr w pg 29 [d0,d1,d2,d3,d4,d5]) (HQ:Arr w qg 3 [a0]) (HR:Arr w rg 30 [b0]) :
  CallsD Tryz.prog 9 #[.pointer (some ⟨pg,0,none⟩),.pointer (some ⟨qg,0,none⟩),.pointer (some ⟨rg,0,none⟩)] (.panicking ({ v:=.iface 45 (.agg #[.int .i64 (x.1:Int),.int .i64 (x.2:Int)]),recovered:=false } :: older)) w fun e u' w'=>
   e=.returned (.tuple #[])∧u'=.panicking ({ v:=.iface 45 (.agg #[.int .i64 (x.1:Int),.int .i64 (x.2:Int)]),recovered:=true } :: older)∧CatchR w pg qg rg x w':=by
 have hX:=Lib.hid (Arr.new w 45 [.int .i64 0,.int .i64 0])
 have h1:=isnil_fail (Value.agg #[Value.int IntKind.i64 (x.1:Int),Value.int IntKind.i64 (x.2:Int)])
 have h2:=assert_fail (Value.agg #[Value.int IntKind.i64 (x.1:Int),Value.int IntKind.i64 (x.2:Int)])
 have h3:=isnil_guard (Value.agg #[Value.int IntKind.i64 (x.1:Int),Value.int IntKind.i64 (x.2:Int)])
 generalize hV:Value.iface 45 (Value.agg #[Value.int IntKind.i64 (x.1:Int),Value.int IntKind.i64 (x.2:Int)])=V at *
 refine callsD_of_wpS Tryz.func9 rfl fun c₀ cs hu=>?_
 apply wpS_seq
 apply wpS_region
 simp [wpOpsS,go_sem,recoverD,hu,Tryz.ntmps9,Exit.thenS]
 refine wpS_of_wp ?_
 have hfr:(#[Value.pointer (some ⟨pg,0,none⟩),Value.pointer (some ⟨qg,0,none⟩),Value.pointer (some ⟨rg,0,none⟩)] ++ ((Array.replicate 19 undef).setIfInBounds 3 V).setIfInBounds 0 V:Array Value)=#[Value.pointer (some ⟨pg,0,none⟩),Value.pointer (some ⟨qg,0,none⟩),Value.pointer (some ⟨rg,0,none⟩),V,undef,undef,V,undef,undef,undef,undef,undef,undef,undef,undef,undef,undef,undef,undef,undef,undef,undef]:=by kernel_rfl
 rw [hfr]
 go_upto_region 5 with(first | ((with_reducible show wpList _ _ _ (Oper.mk none (Op.store 45 (Operand.tmp 4) (Operand.tmp 12)) _ _ _ _ :: _) _ _);go_loud (refine wpList_sr rfl rfl 45 (.tmp 4) (.tmp 12) rfl (w.heap.size) [.int .i64 (x.1:Int),.int .i64 (x.2:Int)] rfl rfl 45 _ hX.out _ Tryz.sz45 (by first | rfl | simp) (by first | rfl | simp) (by first | rfl | simp [Value.oneCell']) ?_;intro w5 hr5 hg5 hz5)))
 have hb5:Below w.heap.size w w5:=((Below.refl _ _).alloc (Nat.le_refl _) _).grown hg5 (by simp) (fun k e=>by have:=Option.some.inj e;omega)
 have HP5:=HP.keep hb5
 have HQ5:=HQ.keep hb5
 have HR5:=HR.keep hb5
 have f0:=hr5.out.cell' (i:=0) rfl
 have f1:=hr5.out.cell' (i:=1) rfl
 have q0:=HQ5.cell' (i:=0) rfl
 have qz:=HQ5.frozen 0
 have r0:=HR5.cell' (i:=0) rfl
 have rz:=HR5.frozen 0
 have p0:=HP5.cell' (i:=0) rfl
 have pz0:=HP5.frozen 0
 have p1:=HP5.cell' (i:=1) rfl
 have pz1:=HP5.frozen 1
 have p2:=HP5.cell' (i:=2) rfl
 have pz2:=HP5.frozen 2
 have p3:=HP5.cell' (i:=3) rfl
 have pz3:=HP5.frozen 3
 have p4:=HP5.cell' (i:=4) rfl
 have pz4:=HP5.frozen 4
 have p5:=HP5.cell' (i:=5) rfl
 have pz5:=HP5.frozen 5
 have hpf:pg≠w.heap.size:=by have:=HP.lt;omega
 have hqf:qg≠w.heap.size:=by have:=HQ.lt;omega
 have hrf:rg≠w.heap.size:=by have:=HR.lt;omega
 have hpq:pg≠qg:=fun e=>by rw [e] at HP;exact absurd (cells_kind HP HQ) (by decide)
 have hpr:pg≠rg:=fun e=>by rw [e] at HP;exact absurd (cells_kind HP HR) (by decide)
 have hqr:qg≠rg:=fun e=>by rw [e] at HQ;exact absurd (cells_kind HQ HR) (by decide)
 have hpl:=HP.lt
 generalize w.heap.size=fb at *
 clear hX hg5 hz5 hfr h1 h2 h3
 go_region
 have HPf:Arr ((((((((w5.setCell ⟨pg,0,none⟩ (.int .i64 0)).setCell ⟨pg,1,none⟩ (.string ⟨#[]⟩)).setCell ⟨pg,2,none⟩ (.slice none 0 0)).setCell ⟨pg,3,none⟩ (.int .i64 0)).setCell ⟨pg,4,none⟩ (.slice none 0 0)).setCell ⟨pg,5,none⟩ (.slice none 0 0)).setCell ⟨qg,0,none⟩ (.int .i64 (x.1:Int))).setCell ⟨rg,0,none⟩ (.int .i64 (x.2:Int))) pg 29 zDoc:=(((((((HP5.store 0 (.int .i64 0)).store 1 (.string ⟨#[]⟩)).store 2 (.slice none 0 0)).store 3 (.int .i64 0)).store 4 (.slice none 0 0)).store 5 (.slice none 0 0)).far (p:=⟨qg,0,none⟩) hpq (.int .i64 (x.1:Int))).far (p:=⟨rg,0,none⟩) hpr (.int .i64 (x.2:Int))
 have HQf:Arr ((((((((w5.setCell ⟨pg,0,none⟩ (.int .i64 0)).setCell ⟨pg,1,none⟩ (.string ⟨#[]⟩)).setCell ⟨pg,2,none⟩ (.slice none 0 0)).setCell ⟨pg,3,none⟩ (.int .i64 0)).setCell ⟨pg,4,none⟩ (.slice none 0 0)).setCell ⟨pg,5,none⟩ (.slice none 0 0)).setCell ⟨qg,0,none⟩ (.int .i64 (x.1:Int))).setCell ⟨rg,0,none⟩ (.int .i64 (x.2:Int))) qg 3 [.int .i64 (x.1:Int)]:=(((((((HQ5.far (p:=⟨pg,0,none⟩) (Ne.symm hpq) (.int .i64 0)).far (p:=⟨pg,1,none⟩) (Ne.symm hpq) (.string ⟨#[]⟩)).far (p:=⟨pg,2,none⟩) (Ne.symm hpq) (.slice none 0 0)).far (p:=⟨pg,3,none⟩) (Ne.symm hpq) (.int .i64 0)).far (p:=⟨pg,4,none⟩) (Ne.symm hpq) (.slice none 0 0)).far (p:=⟨pg,5,none⟩) (Ne.symm hpq) (.slice none 0 0)).store 0 (.int .i64 (x.1:Int))).far (p:=⟨rg,0,none⟩) hqr (.int .i64 (x.2:Int))
 have HRf:Arr ((((((((w5.setCell ⟨pg,0,none⟩ (.int .i64 0)).setCell ⟨pg,1,none⟩ (.string ⟨#[]⟩)).setCell ⟨pg,2,none⟩ (.slice none 0 0)).setCell ⟨pg,3,none⟩ (.int .i64 0)).setCell ⟨pg,4,none⟩ (.slice none 0 0)).setCell ⟨pg,5,none⟩ (.slice none 0 0)).setCell ⟨qg,0,none⟩ (.int .i64 (x.1:Int))).setCell ⟨rg,0,none⟩ (.int .i64 (x.2:Int))) rg 30 [.int .i64 (x.2:Int)]:=(((((((HR5.far (p:=⟨pg,0,none⟩) (Ne.symm hpr) (.int .i64 0)).far (p:=⟨pg,1,none⟩) (Ne.symm hpr) (.string ⟨#[]⟩)).far (p:=⟨pg,2,none⟩) (Ne.symm hpr) (.slice none 0 0)).far (p:=⟨pg,3,none⟩) (Ne.symm hpr) (.int .i64 0)).far (p:=⟨pg,4,none⟩) (Ne.symm hpr) (.slice none 0 0)).far (p:=⟨pg,5,none⟩) (Ne.symm hpr) (.slice none 0 0)).far (p:=⟨qg,0,none⟩) (Ne.symm hqr) (.int .i64 (x.1:Int))).store 0 (.int .i64 (x.2:Int))
 have HBf:∀B,B≤pg→B≤qg→B≤rg→Below B w ((((((((w5.setCell ⟨pg,0,none⟩ (.int .i64 0)).setCell ⟨pg,1,none⟩ (.string ⟨#[]⟩)).setCell ⟨pg,2,none⟩ (.slice none 0 0)).setCell ⟨pg,3,none⟩ (.int .i64 0)).setCell ⟨pg,4,none⟩ (.slice none 0 0)).setCell ⟨pg,5,none⟩ (.slice none 0 0)).setCell ⟨qg,0,none⟩ (.int .i64 (x.1:Int))).setCell ⟨rg,0,none⟩ (.int .i64 (x.2:Int))):=fun B b1 b2 b3=>(((((((((hb5.mono (by omega)).setCell b1 _).setCell b1 _).setCell b1 _).setCell b1 _).setCell b1 _).setCell b1 _).setCell b2 _).setCell b3 _)
 clear q0 qz r0 rz p0 p1 p2 p3 p4 p5 pz0 pz1 pz2 pz3 pz4 pz5 HP5 HQ5 HR5 f0 f1 hr5
 have hCR0:CatchR w pg qg rg x ((((((((w5.setCell ⟨pg,0,none⟩ (.int .i64 0)).setCell ⟨pg,1,none⟩ (.string ⟨#[]⟩)).setCell ⟨pg,2,none⟩ (.slice none 0 0)).setCell ⟨pg,3,none⟩ (.int .i64 0)).setCell ⟨pg,4,none⟩ (.slice none 0 0)).setCell ⟨pg,5,none⟩ (.slice none 0 0)).setCell ⟨qg,0,none⟩ (.int .i64 (x.1:Int))).setCell ⟨rg,0,none⟩ (.int .i64 (x.2:Int))):=⟨HPf,HQf,HRf,HBf⟩
 have hCR:=catch_drew hCR0
 clear HPf HQf HRf HBf hCR0
 generalize ((((((((w5.setCell ⟨pg,0,none⟩ (.int .i64 0)).setCell ⟨pg,1,none⟩ (.string ⟨#[]⟩)).setCell ⟨pg,2,none⟩ (.slice none 0 0)).setCell ⟨pg,3,none⟩ (.int .i64 0)).setCell ⟨pg,4,none⟩ (.slice none 0 0)).setCell ⟨pg,5,none⟩ (.slice none 0 0)).setCell ⟨qg,0,none⟩ (.int .i64 (x.1:Int))).setCell ⟨rg,0,none⟩ (.int .i64 (x.2:Int))).drew=W9 at *
 show bodyPostS _ _ _ _ _ _ _ _ _
 simp [bodyPostS,results,Tryz.results9,hCR]
end Go.Proofs.YtijoollonkibfaaGreatDoor
