/- The memory of graph's components: three arrays and their variables, made in whatever order. -/
import Derived.Test.YtnnnagnjikdnnaaGreatDoorMAp
set_option linter.unusedVariables false
set_option linter.unusedSimpArgs false
set_option linter.defProp false
set_option linter.constructorNameAsVariable false
namespace Go.Proofs.YtnnnagnjikdnnaaGreatDoor
open Go.RowKit
structure V30 where
  m0:Bool
  m2:Bool
  m4:Bool
  a1:Option Nat
  a3:Option Nat
  a5:Option Nat
  c6:Option Nat
  c7:Option Nat
  c8:Option Nat
  s9:Bool
  s10:Bool
  s11:Bool
def lst30 (v:V30):Array Bool:=#[v.m0,v.a1.isSome,v.m2,v.a3.isSome,v.m4,v.a5.isSome,v.c6.isSome,v.c7.isSome,v.c8.isSome,v.s9,v.s10,v.s11]
def bxV (o:Option Nat):Value:=match o with | none=>undef | some b=>.pointer (some ⟨b,0,none⟩)
def slV (n:Nat) (o:Option Nat):Value:=match o with | none=>undef | some b=>.slice (some ⟨b,0,none⟩) n n
def mvV (n:Nat) (b:Bool):Value:=if b then .int .i64 (n:Int) else undef
def inB30 (n:Nat) (s:Bool) (a:Option Nat):Value:=if s then slV n a else .slice none 0 0
def act30 (x0:Value) (gb g o n c:Nat) (v:V30):Act:=⟨#[x0,.pointer (some ⟨gb,0,none⟩),.slice none 0 0,.slice none 0 0,.int .i64 (n:Int),bxV v.c6,bxV v.c7,bxV v.c8,undef,undef,undef,undef,undef,undef,.pointer (some ⟨gb,0,none⟩),.slice (some ⟨g,o,none⟩) n c,.int .i64 (n:Int),mvV n v.m0,slV n v.a1,mvV n v.m2,slV n v.a3,mvV n v.m4,slV n v.a5,undef,undef,undef,undef,undef,undef,undef,undef,undef,undef,undef,undef,undef,undef,undef,undef,undef,undef],[]⟩
def one30 (b:Bool):Nat:=if b then 0 else 1
def cnt30 (v:V30):Nat:=one30 v.m0+one30 v.m2+one30 v.m4+one30 v.a1.isSome+one30 v.a3.isSome+one30 v.a5.isSome+one30 v.c6.isSome+one30 v.c7.isSome+one30 v.c8.isSome+one30 v.s9+one30 v.s10+one30 v.s11
structure Inv30 (n zz:Nat) (W:World) (v:V30) (w:World):Prop where
  bl:Below zz W w
  hz:zz≤w.heap.size
  a1:∀b,v.a1=some b→zz≤b∧Arr w b 3 (I64 (List.replicate n 0))
  a3:∀b,v.a3=some b→zz≤b∧Arr w b 3 (I64 (List.replicate n 0))
  a5:∀b,v.a5=some b→zz≤b∧Arr w b 3 (I64 (List.replicate n 0))
  c6:∀b,v.c6=some b→zz≤b∧Arr w b 28 [inB30 n v.s9 v.a1]
  c7:∀b,v.c7=some b→zz≤b∧Arr w b 28 [inB30 n v.s10 v.a3]
  c8:∀b,v.c8=some b→zz≤b∧Arr w b 28 [inB30 n v.s11 v.a5]
  o9:v.s9=true→v.a1.isSome=true∧v.c6.isSome=true
  o10:v.s10=true→v.a3.isSome=true∧v.c7.isSome=true
  o11:v.s11=true→v.a5.isSome=true∧v.c8.isSome=true
  d13:∀b,v.a1=some b→v.a3≠some b
  d15:∀b,v.a1=some b→v.a5≠some b
  d35:∀b,v.a3=some b→v.a5≠some b
  d67:∀b,v.c6=some b→v.c7≠some b
  d68:∀b,v.c6=some b→v.c8≠some b
  d78:∀b,v.c7=some b→v.c8≠some b
theorem ready_listed {ops:Array Oper} {listed:Array Bool} (hr:Region.ready .any ops listed = []) (i:Nat) (o:Oper) (ho:ops[i]? = some o) (ha:∀e∈o.after,Region.binds .any e=true→listed.getD e.on false=true):listed.getD i true=true:=by
  cases h:listed.getD i true with
  | true=>rfl
  | false=>
    have:i∈Region.ready .any ops listed:=mem_ready.2 ⟨h,o,ho,ha⟩
    rw [hr] at this
    cases this
theorem inB30_new {n:Nat} {s:Bool} {a a':Option Nat} (h:s=true→a.isSome=true) (hn:a=none):inB30 n s a=inB30 n s a':=by
  cases s with
  | false=>rfl
  | true=>rw [hn] at h;exact absurd (h rfl) (by simp)
section
variable {n zz:Nat} {W w:World} {v:V30}
theorem Inv30.old (h:Inv30 n zz W v w) {b:Nat} (hb:b=w.heap.size):v.a1≠some b∧v.a3≠some b∧v.a5≠some b∧v.c6≠some b∧v.c7≠some b∧v.c8≠some b:=
  ⟨fun e=>by have:=(h.a1 b e).2.lt;omega,fun e=>by have:=(h.a3 b e).2.lt;omega,fun e=>by have:=(h.a5 b e).2.lt;omega,fun e=>by have:=(h.c6 b e).2.lt;omega,fun e=>by have:=(h.c7 b e).2.lt;omega,fun e=>by have:=(h.c8 b e).2.lt;omega⟩
theorem Inv30.make_a1 (h:Inv30 n zz W v w) (hn:v.a1=none):Inv30 n zz W { v with a1:=some w.heap.size } (w.alloc (.cells (I64 (List.replicate n 0)).toArray 3)):=by
  have hnew:∀b,some w.heap.size=some b→zz≤b∧Arr (w.alloc (.cells (I64 (List.replicate n 0)).toArray 3)) b 3 (I64 (List.replicate n 0)):=fun b e=>by
    obtain rfl:=Option.some.inj e
    exact⟨h.hz,Arr.new w _ _⟩
  exact { bl := h.bl.alloc h.hz _
          hz:=by have:=h.hz;simp;omega
          a1:=fun b e=>hnew b e
          a3:=fun b e=>⟨(h.a3 b e).1,(h.a3 b e).2.alloc _⟩
          a5:=fun b e=>⟨(h.a5 b e).1,(h.a5 b e).2.alloc _⟩
          c6:=fun b e=>⟨(h.c6 b e).1,by rw [←inB30_new (fun q=>(h.o9 q).1) hn];exact((h.c6 b e).2).alloc _⟩
          c7:=fun b e=>⟨(h.c7 b e).1,((h.c7 b e).2).alloc _⟩
          c8:=fun b e=>⟨(h.c8 b e).1,((h.c8 b e).2).alloc _⟩
          o9:=fun q=>⟨rfl,(h.o9 q).2⟩
          o10:=h.o10
          o11:=h.o11
          d13:=fun b e=>(h.old (Option.some.inj e).symm).2.1
          d15:=fun b e=>(h.old (Option.some.inj e).symm).2.2.1
          d35:=h.d35
          d67:=h.d67
          d68:=h.d68
          d78:=h.d78 }
theorem Inv30.make_a3 (h:Inv30 n zz W v w) (hn:v.a3=none):Inv30 n zz W { v with a3:=some w.heap.size } (w.alloc (.cells (I64 (List.replicate n 0)).toArray 3)):=by
  have hnew:∀b,some w.heap.size=some b→zz≤b∧Arr (w.alloc (.cells (I64 (List.replicate n 0)).toArray 3)) b 3 (I64 (List.replicate n 0)):=fun b e=>by
    obtain rfl:=Option.some.inj e
    exact⟨h.hz,Arr.new w _ _⟩
  exact { bl := h.bl.alloc h.hz _
          hz:=by have:=h.hz;simp;omega
          a1:=fun b e=>⟨(h.a1 b e).1,(h.a1 b e).2.alloc _⟩
          a3:=fun b e=>hnew b e
          a5:=fun b e=>⟨(h.a5 b e).1,(h.a5 b e).2.alloc _⟩
          c6:=fun b e=>⟨(h.c6 b e).1,((h.c6 b e).2).alloc _⟩
          c7:=fun b e=>⟨(h.c7 b e).1,by rw [←inB30_new (fun q=>(h.o10 q).1) hn];exact((h.c7 b e).2).alloc _⟩
          c8:=fun b e=>⟨(h.c8 b e).1,((h.c8 b e).2).alloc _⟩
          o9:=h.o9
          o10:=fun q=>⟨rfl,(h.o10 q).2⟩
          o11:=h.o11
          d13:=fun b e e'=>(h.old (Option.some.inj e').symm).1 e
          d15:=h.d15
          d35:=fun b e=>(h.old (Option.some.inj e).symm).2.2.1
          d67:=h.d67
          d68:=h.d68
          d78:=h.d78 }
theorem Inv30.make_a5 (h:Inv30 n zz W v w) (hn:v.a5=none):Inv30 n zz W { v with a5:=some w.heap.size } (w.alloc (.cells (I64 (List.replicate n 0)).toArray 3)):=by
  have hnew:∀b,some w.heap.size=some b→zz≤b∧Arr (w.alloc (.cells (I64 (List.replicate n 0)).toArray 3)) b 3 (I64 (List.replicate n 0)):=fun b e=>by
    obtain rfl:=Option.some.inj e
    exact⟨h.hz,Arr.new w _ _⟩
  exact { bl := h.bl.alloc h.hz _
          hz:=by have:=h.hz;simp;omega
          a1:=fun b e=>⟨(h.a1 b e).1,(h.a1 b e).2.alloc _⟩
          a3:=fun b e=>⟨(h.a3 b e).1,(h.a3 b e).2.alloc _⟩
          a5:=fun b e=>hnew b e
          c6:=fun b e=>⟨(h.c6 b e).1,((h.c6 b e).2).alloc _⟩
          c7:=fun b e=>⟨(h.c7 b e).1,((h.c7 b e).2).alloc _⟩
          c8:=fun b e=>⟨(h.c8 b e).1,by rw [←inB30_new (fun q=>(h.o11 q).1) hn];exact((h.c8 b e).2).alloc _⟩
          o9:=h.o9
          o10:=h.o10
          o11:=fun q=>⟨rfl,(h.o11 q).2⟩
          d13:=h.d13
          d15:=fun b e e'=>(h.old (Option.some.inj e').symm).1 e
          d35:=fun b e e'=>(h.old (Option.some.inj e').symm).2.1 e
          d67:=h.d67
          d68:=h.d68
          d78:=h.d78 }
theorem Inv30.var_c6 (h:Inv30 n zz W v w) (hn:v.c6=none):Inv30 n zz W { v with c6:=some w.heap.size } (w.alloc (.cells #[.slice none 0 0] 28)):=by
  have hs:v.s9=false:=by
    cases q:v.s9 with
    | false=>rfl
    | true=>have:=(h.o9 q).2;rw [hn] at this;cases this
  have hnew:∀b,some w.heap.size=some b→zz≤b∧Arr (w.alloc (.cells #[.slice none 0 0] 28)) b 28 [inB30 n v.s9 v.a1]:=fun b e=>by
    obtain rfl:=Option.some.inj e
    rw [hs]
    exact⟨h.hz,Arr.new w 28 [.slice none 0 0]⟩
  exact { bl := h.bl.alloc h.hz _
          hz:=by have:=h.hz;simp;omega
          a1:=fun b e=>⟨(h.a1 b e).1,(h.a1 b e).2.alloc _⟩
          a3:=fun b e=>⟨(h.a3 b e).1,(h.a3 b e).2.alloc _⟩
          a5:=fun b e=>⟨(h.a5 b e).1,(h.a5 b e).2.alloc _⟩
          c6:=fun b e=>hnew b e
          c7:=fun b e=>⟨(h.c7 b e).1,(h.c7 b e).2.alloc _⟩
          c8:=fun b e=>⟨(h.c8 b e).1,(h.c8 b e).2.alloc _⟩
          o9:=fun q=>⟨(h.o9 q).1,rfl⟩
          o10:=h.o10
          o11:=h.o11
          d13:=h.d13
          d15:=h.d15
          d35:=h.d35
          d67:=fun b e=>(h.old (Option.some.inj e).symm).2.2.2.2.1
          d68:=fun b e=>(h.old (Option.some.inj e).symm).2.2.2.2.2
          d78:=h.d78 }
theorem Inv30.var_c7 (h:Inv30 n zz W v w) (hn:v.c7=none):Inv30 n zz W { v with c7:=some w.heap.size } (w.alloc (.cells #[.slice none 0 0] 28)):=by
  have hs:v.s10=false:=by
    cases q:v.s10 with
    | false=>rfl
    | true=>have:=(h.o10 q).2;rw [hn] at this;cases this
  have hnew:∀b,some w.heap.size=some b→zz≤b∧Arr (w.alloc (.cells #[.slice none 0 0] 28)) b 28 [inB30 n v.s10 v.a3]:=fun b e=>by
    obtain rfl:=Option.some.inj e
    rw [hs]
    exact⟨h.hz,Arr.new w 28 [.slice none 0 0]⟩
  exact { bl := h.bl.alloc h.hz _
          hz:=by have:=h.hz;simp;omega
          a1:=fun b e=>⟨(h.a1 b e).1,(h.a1 b e).2.alloc _⟩
          a3:=fun b e=>⟨(h.a3 b e).1,(h.a3 b e).2.alloc _⟩
          a5:=fun b e=>⟨(h.a5 b e).1,(h.a5 b e).2.alloc _⟩
          c6:=fun b e=>⟨(h.c6 b e).1,(h.c6 b e).2.alloc _⟩
          c7:=fun b e=>hnew b e
          c8:=fun b e=>⟨(h.c8 b e).1,(h.c8 b e).2.alloc _⟩
          o9:=h.o9
          o10:=fun q=>⟨(h.o10 q).1,rfl⟩
          o11:=h.o11
          d13:=h.d13
          d15:=h.d15
          d35:=h.d35
          d67:=fun b e e'=>(h.old (Option.some.inj e').symm).2.2.2.1 e
          d68:=h.d68
          d78:=fun b e=>(h.old (Option.some.inj e).symm).2.2.2.2.2 }
theorem Inv30.var_c8 (h:Inv30 n zz W v w) (hn:v.c8=none):Inv30 n zz W { v with c8:=some w.heap.size } (w.alloc (.cells #[.slice none 0 0] 28)):=by
  have hs:v.s11=false:=by
    cases q:v.s11 with
    | false=>rfl
    | true=>have:=(h.o11 q).2;rw [hn] at this;cases this
  have hnew:∀b,some w.heap.size=some b→zz≤b∧Arr (w.alloc (.cells #[.slice none 0 0] 28)) b 28 [inB30 n v.s11 v.a5]:=fun b e=>by
    obtain rfl:=Option.some.inj e
    rw [hs]
    exact⟨h.hz,Arr.new w 28 [.slice none 0 0]⟩
  exact { bl := h.bl.alloc h.hz _
          hz:=by have:=h.hz;simp;omega
          a1:=fun b e=>⟨(h.a1 b e).1,(h.a1 b e).2.alloc _⟩
          a3:=fun b e=>⟨(h.a3 b e).1,(h.a3 b e).2.alloc _⟩
          a5:=fun b e=>⟨(h.a5 b e).1,(h.a5 b e).2.alloc _⟩
          c6:=fun b e=>⟨(h.c6 b e).1,(h.c6 b e).2.alloc _⟩
          c7:=fun b e=>⟨(h.c7 b e).1,(h.c7 b e).2.alloc _⟩
          c8:=fun b e=>hnew b e
          o9:=h.o9
          o10:=h.o10
          o11:=fun q=>⟨(h.o11 q).1,rfl⟩
          d13:=h.d13
          d15:=h.d15
          d35:=h.d35
          d67:=h.d67
          d68:=fun b e e'=>(h.old (Option.some.inj e').symm).2.2.2.1 e
          d78:=fun b e e'=>(h.old (Option.some.inj e').symm).2.2.2.2.1 e }
theorem Inv30.put_c6 (h:Inv30 n zz W v w) {p q:Nat} (hc:v.c6=some p) (ha:v.a1=some q):Inv30 n zz W { v with s9:=true } (w.setCell ⟨p,0,none⟩ (.slice (some ⟨q,0,none⟩) n n)):=by
  have hk:=(h.c6 p hc).2
  have hst:∀b,v.c6=some b→Arr (w.setCell ⟨p,0,none⟩ (.slice (some ⟨q,0,none⟩) n n)) b 28 [inB30 n true v.a1]:=fun b e=>by
    have:b=p:=Option.some.inj (e.symm.trans hc)
    subst this
    rw [ha]
    exact hk.store 0 _
  exact { bl := h.bl.setCell (h.c6 p hc).1 _
          hz:=by have:=h.hz;simpa [World.setCell] using this
          a1:=fun b e=>⟨(h.a1 b e).1,(h.a1 b e).2.far (Arr.ne (h.a1 b e).2 hk (by decide)) _⟩
          a3:=fun b e=>⟨(h.a3 b e).1,(h.a3 b e).2.far (Arr.ne (h.a3 b e).2 hk (by decide)) _⟩
          a5:=fun b e=>⟨(h.a5 b e).1,(h.a5 b e).2.far (Arr.ne (h.a5 b e).2 hk (by decide)) _⟩
          c6:=fun b e=>⟨(h.c6 b e).1,hst b e⟩
          c7:=fun b e=>⟨(h.c7 b e).1,(h.c7 b e).2.far (fun q=>h.d67 p hc (by rw [e];exact congrArg some q)) _⟩
          c8:=fun b e=>⟨(h.c8 b e).1,(h.c8 b e).2.far (fun q=>h.d68 p hc (by rw [e];exact congrArg some q)) _⟩
          o9:=fun _=>⟨by show v.a1.isSome=true;rw [ha];rfl,by show v.c6.isSome=true;rw [hc];rfl⟩
          o10:=h.o10
          o11:=h.o11
          d13:=h.d13
          d15:=h.d15
          d35:=h.d35
          d67:=h.d67
          d68:=h.d68
          d78:=h.d78 }
theorem Inv30.put_c7 (h:Inv30 n zz W v w) {p q:Nat} (hc:v.c7=some p) (ha:v.a3=some q):Inv30 n zz W { v with s10:=true } (w.setCell ⟨p,0,none⟩ (.slice (some ⟨q,0,none⟩) n n)):=by
  have hk:=(h.c7 p hc).2
  have hst:∀b,v.c7=some b→Arr (w.setCell ⟨p,0,none⟩ (.slice (some ⟨q,0,none⟩) n n)) b 28 [inB30 n true v.a3]:=fun b e=>by
    have:b=p:=Option.some.inj (e.symm.trans hc)
    subst this
    rw [ha]
    exact hk.store 0 _
  exact { bl := h.bl.setCell (h.c7 p hc).1 _
          hz:=by have:=h.hz;simpa [World.setCell] using this
          a1:=fun b e=>⟨(h.a1 b e).1,(h.a1 b e).2.far (Arr.ne (h.a1 b e).2 hk (by decide)) _⟩
          a3:=fun b e=>⟨(h.a3 b e).1,(h.a3 b e).2.far (Arr.ne (h.a3 b e).2 hk (by decide)) _⟩
          a5:=fun b e=>⟨(h.a5 b e).1,(h.a5 b e).2.far (Arr.ne (h.a5 b e).2 hk (by decide)) _⟩
          c6:=fun b e=>⟨(h.c6 b e).1,(h.c6 b e).2.far (fun q=>h.d67 b e (hc.trans (congrArg some q.symm))) _⟩
          c7:=fun b e=>⟨(h.c7 b e).1,hst b e⟩
          c8:=fun b e=>⟨(h.c8 b e).1,(h.c8 b e).2.far (fun q=>h.d78 p hc (by rw [e];exact congrArg some q)) _⟩
          o9:=h.o9
          o10:=fun _=>⟨by show v.a3.isSome=true;rw [ha];rfl,by show v.c7.isSome=true;rw [hc];rfl⟩
          o11:=h.o11
          d13:=h.d13
          d15:=h.d15
          d35:=h.d35
          d67:=h.d67
          d68:=h.d68
          d78:=h.d78 }
theorem Inv30.put_c8 (h:Inv30 n zz W v w) {p q:Nat} (hc:v.c8=some p) (ha:v.a5=some q):Inv30 n zz W { v with s11:=true } (w.setCell ⟨p,0,none⟩ (.slice (some ⟨q,0,none⟩) n n)):=by
  have hk:=(h.c8 p hc).2
  have hst:∀b,v.c8=some b→Arr (w.setCell ⟨p,0,none⟩ (.slice (some ⟨q,0,none⟩) n n)) b 28 [inB30 n true v.a5]:=fun b e=>by
    have:b=p:=Option.some.inj (e.symm.trans hc)
    subst this
    rw [ha]
    exact hk.store 0 _
  exact { bl := h.bl.setCell (h.c8 p hc).1 _
          hz:=by have:=h.hz;simpa [World.setCell] using this
          a1:=fun b e=>⟨(h.a1 b e).1,(h.a1 b e).2.far (Arr.ne (h.a1 b e).2 hk (by decide)) _⟩
          a3:=fun b e=>⟨(h.a3 b e).1,(h.a3 b e).2.far (Arr.ne (h.a3 b e).2 hk (by decide)) _⟩
          a5:=fun b e=>⟨(h.a5 b e).1,(h.a5 b e).2.far (Arr.ne (h.a5 b e).2 hk (by decide)) _⟩
          c6:=fun b e=>⟨(h.c6 b e).1,(h.c6 b e).2.far (fun q=>h.d68 b e (hc.trans (congrArg some q.symm))) _⟩
          c7:=fun b e=>⟨(h.c7 b e).1,(h.c7 b e).2.far (fun q=>h.d78 b e (hc.trans (congrArg some q.symm))) _⟩
          c8:=fun b e=>⟨(h.c8 b e).1,hst b e⟩
          o9:=h.o9
          o10:=h.o10
          o11:=fun _=>⟨by show v.a5.isSome=true;rw [ha];rfl,by show v.c8.isSome=true;rw [hc];rfl⟩
          d13:=h.d13
          d15:=h.d15
          d35:=h.d35
          d67:=h.d67
          d68:=h.d68
          d78:=h.d78 }
end
end Go.Proofs.YtnnnagnjikdnnaaGreatDoor
