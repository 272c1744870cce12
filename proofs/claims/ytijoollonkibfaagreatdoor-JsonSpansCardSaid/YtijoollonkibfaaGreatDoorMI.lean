/- The walk of value of json's parser: its head. -/
import Derived.Test.YtijoollonkibfaaGreatDoorMH
namespace Go.Proofs.YtijoollonkibfaaGreatDoor
open Go.RowKit
def LibAt (B:Nat) (w:World):Prop:=∃W0,LibOK W0∧W0.heap.size=B∧Below B W0 w
theorem LibAt.ok {B:Nat} {w:World} (h:LibAt B w):LibOK w:=by obtain⟨W0,h1,rfl,h2⟩:=h;exact h1.keep h2
theorem LibAt.size {B:Nat} {w:World} (h:LibAt B w):B≤w.heap.size:=by obtain⟨W0,h1,rfl,h2⟩:=h;exact h2.size
theorem LibAt.step {B:Nat} {w w':World} (h:LibAt B w) (hb:Below B w w'):LibAt B w':=by obtain⟨W0,h1,h3,h2⟩:=h;exact⟨W0,h1,h3,h2.trans hb⟩
theorem is_lit {w:World} {B pb:Nat} {F:Nat→Prop} {k:PK} {A:Option Addr} {n c:Nat} {vn vs:Value} {ncs:List Value} {st:PSt} (h:PMx w B pb F k A n c vn vs ncs st) (hok:∀t∈st.left,TokOK t) (ch:UInt8) (b:Bool) (hb:isV st.left [ch.toNat]=b) :
  Hid (Calls Tryz.prog 26 #[.pointer (some ⟨pb,0,none⟩),.string ⟨#[ch]⟩] w fun e w'=>e=.returned (.bool b)∧w=w'):=by
 rw [mks_lit1,←hb]
 exact is_any h hok [ch.toNat] (By.cons ch.toNat_lt By.nil)
def ValR (w:World) (B pb:Nat) (F:Nat→Prop) (k:PK) (o:Except PErr (Int×PSt)) (e:Ending) (w':World):Prop:=
 match o with
 | .ok (v,st')=>∃F',e=.returned (.int .i64 v)∧PM w' B pb F' k st'∧PStep w w' F F'
 | .error x=>e=failE x∧Below B w w'
theorem ValR.bad {w:World} {B pb:Nat} {F:Nat→Prop} {k:PK} {x:PErr} {w':World} (hb:Below B w w'):ValR w B pb F k (.error x) (failE x) w':=⟨rfl,hb⟩
set_option maxRecDepth 100000 in
set_option maxHeartbeats 4000000 in
theorem value_nil {w:World} {B pb:Nat} {F:Nat→Prop} {k:PK} {A:Option Addr} {n c:Nat} {vn vs:Value} {ncs:List Value} {st:PSt} (h:PMx w B pb F k A n c vn vs ncs st) (hok:∀t∈st.left,TokOK t) (hL:LibAt B w) (s:JSpan) (d:Nat) (hl:st.left = []) :
  Calls Tryz.prog 10 #[.pointer (some ⟨pb,0,none⟩),.agg (spanC s).toArray,.int .i64 (d:Int)] w (ValR w B pb F k (.error (k.en,4))):=by
 have hB:=hL.size
 have HBd:Below w.heap.size w (w.alloc (.cells (spanC s).toArray 34)):=(Below.refl _ _).alloc (Nat.le_refl _) _
 have hW:=h.below HBd
 go_enter Tryz.func10,Tryz.ntmps10
 go_upto_region 1 with(fail)
 generalize (w.alloc (.cells (spanC s).toArray 34))=W at *
 have DA:=fun m=>is_lit (hW.drewN m) hok 91 false (by rw [hl];rfl)
 have DB:=fun m=>is_lit (hW.drewN m) hok 123 false (by rw [hl];rfl)
 have hn0:=hW.len
 rw [hl] at hn0
 have c0:=hW.par.cell' (i:=0) rfl
 replace hn0:n=0:=hn0
 subst hn0
 go_quiet ((go_at_call 26;first | (with_reducible exact quiet_left (DA _).out) | (with_reducible exact quiet_left (DB _).out)))
 rename_i nq
 have hWq:=hW.drewN nq
 have DF:Hid (Calls Tryz.prog 11 #[.pointer (some ⟨pb,0,none⟩),.int .i64 4] (W.drewN nq) fun e w'=>e=failE (offV k.en st.left,4)∧(W.drewN nq)=w'):=fail_h hWq 4
 rw [hl] at DF
 go_wp2_with (go_at_call 11;((with_reducible refine DF.out.mono ?_));rintro e wn ⟨he,rfl⟩;unfold failE at he;subst he)
 exact⟨rfl,ValR.bad (Below.drewN' (HBd.mono hB) _)⟩
end Go.Proofs.YtijoollonkibfaaGreatDoor
namespace Go.Proofs.YtijoollonkibfaaGreatDoor
open Go.RowKit
section
variable {w:World} {B pb:Nat} {F:Nat→Prop} {k:PK} {A:Option Addr} {n c:Nat} {vn vs:Value} {ncs:List Value} {st:PSt}
theorem room_h0 (h:PMx w B pb F k A n c vn vs ncs st) (d:Nat) (hd:d≤1000) (hr:roomV st d=0):Hid (Calls Tryz.prog 27 #[.pointer (some ⟨pb,0,none⟩),.int .i64 (d:Int)] w fun e w'=>e=.returned (.tuple #[])∧w=w'):=
 (room_any h d hd).mono fun e w' hh=>by rw [hr] at hh;exact hh
theorem room_h1 (h:PMx w B pb F k A n c vn vs ncs st) (d:Nat) (hd:d≤1000) (hr:roomV st d≠0):Hid (Calls Tryz.prog 27 #[.pointer (some ⟨pb,0,none⟩),.int .i64 (d:Int)] w fun e w'=>e=failE (offV k.en st.left,roomV st d)∧w=w'):=
 (room_any h d hd).mono fun e w' hh=>by unfold VoidR at hh;rwa [if_neg hr] at hh
theorem offset_h (h:PMx w B pb F k A n c vn vs ncs st):Hid (Calls Tryz.prog 28 #[.pointer (some ⟨pb,0,none⟩)] w fun e w'=>e=.returned (.int .i64 ((offV k.en st.left:Nat):Int))∧w=w'):=offset_any h
end
theorem scalarV_leaf {t:JTok} {nd:GNode} (h:scalarV t=some nd):nd=⟨nd.kind,nd.text,false,[],[]⟩:=by
 unfold scalarV at h
 (repeat' split at h) <;> first | (obtain rfl:=Option.some.inj h;rfl) | cases h
set_option maxRecDepth 100000 in
set_option maxHeartbeats 8000000 in
theorem value_punct {w:World} {B pb:Nat} {F:Nat→Prop} {k:PK} {A:Option Addr} {n c:Nat} {vn vs:Value} {ncs:List Value} {st:PSt} (h:PMx w B pb F k A n c vn vs ncs st) (hok:∀t∈st.left,TokOK t) (hL:LibAt B w) (s:JSpan) (d:Nat) {t:JTok} {r:List JTok} (hl:st.left=t :: r)
  (hk:t.kind=1) (h1:¬t.text = [91]) (h2:¬t.text = [123]) :
  Calls Tryz.prog 10 #[.pointer (some ⟨pb,0,none⟩),.agg (spanC s).toArray,.int .i64 (d:Int)] w (ValR w B pb F k (.error (t.from_,4))):=by
 have hB:=hL.size
 have HBd:Below w.heap.size w (w.alloc (.cells (spanC s).toArray 34)):=(Below.refl _ _).alloc (Nat.le_refl _) _
 have hW:=h.below HBd
 go_enter Tryz.func10,Tryz.ntmps10
 go_upto_region 1 with(fail)
 generalize (w.alloc (.cells (spanC s).toArray 34))=W at *
 have DA:=fun m=>is_lit (hW.drewN m) hok 91 false (by rw [hl];simp [isV,hk];exact h1)
 have DB:=fun m=>is_lit (hW.drewN m) hok 123 false (by rw [hl];simp [isV,hk];exact h2)
 go_quiet ((go_at_call 26;first | (with_reducible exact quiet_left (DA _).out) | (with_reducible exact quiet_left (DB _).out)))
 rename_i nq
 have hWq:=hW.drewN nq
 have hn:=hWq.len
 obtain⟨g,o,rfl,q0,q1,q2,q3⟩:=hWq.head hl
 have c0:=hWq.par.cell' (i:=0) rfl
 rw [hl] at hn
 have hn0:0<n:=by rw [hn];simp
 have hn0':(0:Int)<n:=by omega
 have hn1:((n:Int) == 0)=false:=by simp;omega
 have hk':((t.kind:Int) == 1)=true:=by simp;omega
 have DF:Hid (Calls Tryz.prog 11 #[.pointer (some ⟨pb,0,none⟩),.int .i64 4] (W.drewN nq) fun e w'=>e=failE (offV k.en st.left,4)∧(W.drewN nq)=w'):=fail_h hWq 4
 rw [hl] at DF
 clear hn hk q1 q2
 go_wp2_with (go_at_call 11;((with_reducible refine DF.out.mono ?_));rintro e wn ⟨he,rfl⟩;unfold failE at he;subst he)
 exact⟨rfl,ValR.bad (Below.drewN' (HBd.mono hB) _)⟩
set_option maxRecDepth 100000 in
set_option maxHeartbeats 8000000 in
theorem value_room_l {w:World} {B pb:Nat} {F:Nat→Prop} {k:PK} {A:Option Addr} {n c:Nat} {vn vs:Value} {ncs:List Value} {st:PSt} (h:PMx w B pb F k A n c vn vs ncs st) (hok:∀t∈st.left,TokOK t) (hL:LibAt B w) (s:JSpan) (d:Nat) (hd:d≤1000) {t:JTok} {r:List JTok} (hl:st.left=t :: r)
  (hk:t.kind=1) (hx:t.text = [91]) (hr:roomV st d≠0):Calls Tryz.prog 10 #[.pointer (some ⟨pb,0,none⟩),.agg (spanC s).toArray,.int .i64 (d:Int)] w (ValR w B pb F k (.error (t.from_,roomV st d))):=by
 have hB:=hL.size
 have HX:=Lib.hid (Arr.new w 34 (spanC s))
 have HBd:Below w.heap.size w (w.alloc (.cells (spanC s).toArray 34)):=(Below.refl _ _).alloc (Nat.le_refl _) _
 have hW:=h.below HBd
 go_enter Tryz.func10,Tryz.ntmps10
 go_upto_region 1 with(fail)
 have hlow:w.heap.size<(w.alloc (.cells (spanC s).toArray 34)).heap.size:=HX.out.lt
 generalize (w.alloc (.cells (spanC s).toArray 34))=W at *
 have DA:=fun m=>is_lit (hW.drewN m) hok 91 true (by rw [hl];simp [isV,hk,hx])
 have DB:=fun m=>is_lit (hW.drewN m) hok 123 false (by rw [hl];simp [isV,hk,hx])
 go_quiet ((go_at_call 26;first | (with_reducible exact quiet_left (DA _).out) | (with_reducible exact quiet_left (DB _).out)))
 rename_i nq
 have hWq:=hW.drewN nq
 have hn:=hWq.len
 obtain⟨g,o,hA,q0,q1,q2,q3⟩:=hWq.head hl
 subst hA
 have c0:=hWq.par.cell' (i:=0) rfl
 rw [hl] at hn
 have hn0:0<n:=by rw [hn];simp
 have hn0':(0:Int)<n:=by omega
 have hn1:((n:Int) == 0)=false:=by simp;omega
 have hHX:Hid (Arr (W.drewN nq) w.heap.size 34 (spanC s)):=HX.out
 have HBq:Below w.heap.size w (W.drewN nq):=Below.drewN' HBd nq
 have hlowq:w.heap.size<(W.drewN nq).heap.size:=hlow
 have hk':((t.kind:Int) == 1)=true:=by simp;omega
 have DR:=room_h1 hWq d hd hr
 rw [hl] at DR
 generalize roomV st d=rv at *
 clear hn hk q1 q2
 go_wp2_with (go_at_call 27;((with_reducible refine DR.out.mono ?_));rintro e wn ⟨he,rfl⟩;unfold failE at he;subst he)
 exact⟨rfl,ValR.bad (HBq.mono hB)⟩
set_option maxRecDepth 100000 in
set_option maxHeartbeats 8000000 in
theorem value_room_m {w:World} {B pb:Nat} {F:Nat→Prop} {k:PK} {A:Option Addr} {n c:Nat} {vn vs:Value} {ncs:List Value} {st:PSt} (h:PMx w B pb F k A n c vn vs ncs st) (hok:∀t∈st.left,TokOK t) (hL:LibAt B w) (s:JSpan) (d:Nat) (hd:d≤1000) {t:JTok} {r:List JTok} (hl:st.left=t :: r)
  (hk:t.kind=1) (hx:t.text = [123]) (hr:roomV st d≠0):Calls Tryz.prog 10 #[.pointer (some ⟨pb,0,none⟩),.agg (spanC s).toArray,.int .i64 (d:Int)] w (ValR w B pb F k (.error (t.from_,roomV st d))):=by
 have hB:=hL.size
 have HX:=Lib.hid (Arr.new w 34 (spanC s))
 have HBd:Below w.heap.size w (w.alloc (.cells (spanC s).toArray 34)):=(Below.refl _ _).alloc (Nat.le_refl _) _
 have hW:=h.below HBd
 go_enter Tryz.func10,Tryz.ntmps10
 go_upto_region 1 with(fail)
 have hlow:w.heap.size<(w.alloc (.cells (spanC s).toArray 34)).heap.size:=HX.out.lt
 generalize (w.alloc (.cells (spanC s).toArray 34))=W at *
 have DA:=fun m=>is_lit (hW.drewN m) hok 91 false (by rw [hl];simp [isV,hk,hx])
 have DB:=fun m=>is_lit (hW.drewN m) hok 123 true (by rw [hl];simp [isV,hk,hx])
 go_quiet ((go_at_call 26;first | (with_reducible exact quiet_left (DA _).out) | (with_reducible exact quiet_left (DB _).out)))
 rename_i nq
 have hWq:=hW.drewN nq
 have hn:=hWq.len
 obtain⟨g,o,hA,q0,q1,q2,q3⟩:=hWq.head hl
 subst hA
 have c0:=hWq.par.cell' (i:=0) rfl
 rw [hl] at hn
 have hn0:0<n:=by rw [hn];simp
 have hn0':(0:Int)<n:=by omega
 have hn1:((n:Int) == 0)=false:=by simp;omega
 have hHX:Hid (Arr (W.drewN nq) w.heap.size 34 (spanC s)):=HX.out
 have HBq:Below w.heap.size w (W.drewN nq):=Below.drewN' HBd nq
 have hlowq:w.heap.size<(W.drewN nq).heap.size:=hlow
 have hk':((t.kind:Int) == 1)=true:=by simp;omega
 have DR:=room_h1 hWq d hd hr
 rw [hl] at DR
 generalize roomV st d=rv at *
 clear hn hk q1 q2
 go_wp2_with (go_at_call 27;((with_reducible refine DR.out.mono ?_));rintro e wn ⟨he,rfl⟩;unfold failE at he;subst he)
 exact⟨rfl,ValR.bad (HBq.mono hB)⟩
set_option maxRecDepth 100000 in
set_option maxHeartbeats 8000000 in
theorem value_room_s {w:World} {B pb:Nat} {F:Nat→Prop} {k:PK} {A:Option Addr} {n c:Nat} {vn vs:Value} {ncs:List Value} {st:PSt} (h:PMx w B pb F k A n c vn vs ncs st) (hok:∀t∈st.left,TokOK t) (hL:LibAt B w) (s:JSpan) (d:Nat) (hd:d≤1000) {t:JTok} {r:List JTok} (hl:st.left=t :: r)
  (hk:¬t.kind=1) (hr:roomV st d≠0):Calls Tryz.prog 10 #[.pointer (some ⟨pb,0,none⟩),.agg (spanC s).toArray,.int .i64 (d:Int)] w (ValR w B pb F k (.error (t.from_,roomV st d))):=by
 have hB:=hL.size
 have HX:=Lib.hid (Arr.new w 34 (spanC s))
 have HBd:Below w.heap.size w (w.alloc (.cells (spanC s).toArray 34)):=(Below.refl _ _).alloc (Nat.le_refl _) _
 have hW:=h.below HBd
 go_enter Tryz.func10,Tryz.ntmps10
 go_upto_region 1 with(fail)
 have hlow:w.heap.size<(w.alloc (.cells (spanC s).toArray 34)).heap.size:=HX.out.lt
 generalize (w.alloc (.cells (spanC s).toArray 34))=W at *
 have DA:=fun m=>is_lit (hW.drewN m) hok 91 false (by rw [hl];simp [isV,hk])
 have DB:=fun m=>is_lit (hW.drewN m) hok 123 false (by rw [hl];simp [isV,hk])
 go_quiet ((go_at_call 26;first | (with_reducible exact quiet_left (DA _).out) | (with_reducible exact quiet_left (DB _).out)))
 rename_i nq
 have hWq:=hW.drewN nq
 have hn:=hWq.len
 obtain⟨g,o,hA,q0,q1,q2,q3⟩:=hWq.head hl
 subst hA
 have c0:=hWq.par.cell' (i:=0) rfl
 rw [hl] at hn
 have hn0:0<n:=by rw [hn];simp
 have hn0':(0:Int)<n:=by omega
 have hn1:((n:Int) == 0)=false:=by simp;omega
 have hHX:Hid (Arr (W.drewN nq) w.heap.size 34 (spanC s)):=HX.out
 have HBq:Below w.heap.size w (W.drewN nq):=Below.drewN' HBd nq
 have hlowq:w.heap.size<(W.drewN nq).heap.size:=hlow
 have hk':((t.kind:Int) == 1)=false:=by simp;omega
 have DR:=room_h1 hWq d hd hr
 rw [hl] at DR
 generalize roomV st d=rv at *
 clear hn hk q1 q2
 go_wp2_with (go_at_call 27;((with_reducible refine DR.out.mono ?_));rintro e wn ⟨he,rfl⟩;unfold failE at he;subst he)
 exact⟨rfl,ValR.bad (HBq.mono hB)⟩
end Go.Proofs.YtijoollonkibfaaGreatDoor
