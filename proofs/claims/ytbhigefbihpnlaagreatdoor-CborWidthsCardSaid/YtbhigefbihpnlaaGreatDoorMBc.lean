/- graph's components in memory: the variables that the closures have captured, and what a step does to them. -/
import Derived.Test.YtbhigefbihpnlaaGreatDoorMBb
import Derived.Test.YtbhigefbihpnlaaGreatDoorMAg
set_option linter.unusedVariables false
set_option linter.unusedSimpArgs false
set_option linter.defProp false
set_option linter.constructorNameAsVariable false
namespace Go.Proofs.YtbhigefbihpnlaaGreatDoor
open Go.RowKit
structure TB where
  nx : Nat
  ix : Nat
  lw : Nat
  st : Nat
  on_ : Nat
  vi : Nat
  gr : Nat
  sz : Nat
  in_ : Nat
  im : Nat
  lm : Nat
  nm : Nat
  om : Nat
def visitFn (e : TB) : Value := .func (.func 62) #[] #[.pointer (some ⟨e.nx, 0, none⟩), .pointer (some ⟨e.ix, 0, none⟩), .pointer (some ⟨e.lw, 0, none⟩), .pointer (some ⟨e.st, 0, none⟩), .pointer (some ⟨e.on_, 0, none⟩), .pointer (some ⟨e.vi, 0, none⟩), .pointer (some ⟨e.gr, 0, none⟩), .pointer (some ⟨e.sz, 0, none⟩), .pointer (some ⟨e.in_, 0, none⟩)]
structure TE (w : World) (B g o c : Nat) (nodes : List GNode) (root : Int) (F : Nat → Prop) (e : TB) (vs vz : Value) (s : TS) : Prop where
  gd : GRd w B g o nodes
  ix : Arr w e.ix 44 [.slice (some ⟨e.im, 0, none⟩) nodes.length nodes.length]
  lw : Arr w e.lw 44 [.slice (some ⟨e.lm, 0, none⟩) nodes.length nodes.length]
  in_ : Arr w e.in_ 44 [.slice (some ⟨e.nm, 0, none⟩) nodes.length nodes.length]
  on_ : Arr w e.on_ 85 [.slice (some ⟨e.om, 0, none⟩) nodes.length nodes.length]
  vi : Arr w e.vi 113 [visitFn e]
  gr : Arr w e.gr 26 [.slice (some ⟨g, o, none⟩) nodes.length c, .int .i64 root]
  nx : Arr w e.nx 3 [.int .i64 (s.nx : Int)]
  im : Arr w e.im 3 (I64 s.index)
  lm : Arr w e.lm 3 (I64 s.low)
  nm : Arr w e.nm 3 (I64 s.inn)
  om : Arr w e.om 4 (Bs s.on)
  st : Arr w e.st 44 [vs]
  sz : Arr w e.sz 44 [vz]
  rs : w.ownsRow B 3 1 vs s.stack.length (I64 s.stack)
  rz : w.ownsRow B 3 1 vz s.sizes.length (I64 s.sizes)
  lo : ∀ b, F b → B ≤ b
  hi : ∀ b, F b → b < w.heap.size
  fr : ¬ F e.ix ∧ ¬ F e.lw ∧ ¬ F e.in_ ∧ ¬ F e.on_ ∧ ¬ F e.vi ∧ ¬ F e.gr
  fw : F e.nx ∧ F e.im ∧ F e.lm ∧ F e.nm ∧ F e.om ∧ F e.st ∧ F e.sz
  fs : ∀ b, vs.ownBlock = some b → F b ∧ b ≠ e.nx ∧ b ≠ e.im ∧ b ≠ e.lm ∧ b ≠ e.nm
  fz : ∀ b, vz.ownBlock = some b → F b ∧ b ≠ e.nx ∧ b ≠ e.im ∧ b ≠ e.lm ∧ b ≠ e.nm ∧ vs.ownBlock ≠ some b
  d1 : e.nx ≠ e.im ∧ e.nx ≠ e.lm ∧ e.nx ≠ e.nm ∧ e.im ≠ e.lm ∧ e.im ≠ e.nm ∧ e.lm ≠ e.nm
  d2 : e.st ≠ e.sz
def TC (w : World) (B g o c : Nat) (nodes : List GNode) (root : Int) (F : Nat → Prop) (e : TB) (s' : TS) (en : Ending) (w' : World) : Prop :=
  en = .returned (.tuple #[]) ∧ ∃ F' vs' vz', Hid (TE w' B g o c nodes root F' e vs' vz' s') ∧ PStep w w' F F'
section
variable {w w' : World} {B g o c : Nat} {nodes : List GNode} {root : Int} {F : Nat → Prop} {e : TB} {vs vz : Value} {s : TS}
theorem kind_ne {b b' : Nat} {t t' : TypeId} {xs ys : List Value} (h : Arr w b t xs) (h' : Arr w b' t' ys) (ht : t ≠ t') : b ≠ b' := Arr.ne h h' ht
theorem row_ne {v : Value} {n : Nat} {xs ys : List Value} {b : Nat} {t : TypeId} (h : w.ownsRow B 3 1 v n xs) (h' : Arr w b t ys) (ht : 3 ≠ t) : v.ownBlock ≠ some b := own_arr h h' ht
theorem row_grown {v : Value} {n : Nat} {xs : List Value} {r : Nat} (h : w.ownsRow B 3 1 v n xs) (hg : w.grownBy w' (some r)) (hr : v.ownBlock ≠ some r) : w'.ownsRow B 3 1 v n xs :=
  own_same h (fun b hb => hg.block b (h.lt b hb).2 (by intro e; rw [← e] at hr; exact hr hb))
theorem pstep_grown {r : Nat} (hg : w.grownBy w' (some r)) (hF : F r) : PStep w w' F F :=
  ⟨hg.os, hg.tape, hg.output, hg.size, fun k hk hn => hg.block k hk (by intro e; have := Option.some.inj e; subst this; exact hn hF), fun _ hk => .inl hk⟩
theorem TE.kept (h : TE w B g o c nodes root F e vs vz s) (hb : Below w.heap.size w w') : TE w' B g o c nodes root F e vs vz s :=
  { gd := h.gd.below hb h.gd.2.1
    ix := h.ix.keep hb
    lw := h.lw.keep hb
    in_ := h.in_.keep hb
    on_ := h.on_.keep hb
    vi := h.vi.keep hb
    gr := h.gr.keep hb
    nx := h.nx.keep hb
    im := h.im.keep hb
    lm := h.lm.keep hb
    nm := h.nm.keep hb
    om := h.om.keep hb
    st := h.st.keep hb
    sz := h.sz.keep hb
    rs := own_below h.rs hb
    rz := own_below h.rz hb
    lo := h.lo
    hi := fun b hF => Nat.lt_of_lt_of_le (h.hi b hF) hb.size
    fr := h.fr
    fw := h.fw
    fs := h.fs
    fz := h.fz
    d1 := h.d1
    d2 := h.d2 }
theorem TE.neF (h : TE w B g o c nodes root F e vs vz s) {r : Nat} (hF : F r) : e.ix ≠ r ∧ e.lw ≠ r ∧ e.in_ ≠ r ∧ e.on_ ≠ r ∧ e.vi ≠ r ∧ e.gr ≠ r := by
  obtain ⟨h1, h2, h3, h4, h5, h6⟩ := h.fr
  exact ⟨fun e => h1 (e ▸ hF), fun e => h2 (e ▸ hF), fun e => h3 (e ▸ hF), fun e => h4 (e ▸ hF), fun e => h5 (e ▸ hF), fun e => h6 (e ▸ hF)⟩
theorem some_ne {a b : Nat} (h : a ≠ b) : some a ≠ some b := fun e => h (Option.some.inj e)
theorem TE.set_nx (h : TE w B g o c nodes root F e vs vz s) (v : Nat) (hg : w.grownBy w' (some e.nx)) (hA : Arr w' e.nx 3 [.int .i64 (v : Int)]) : TE w' B g o c nodes root F e vs vz { s with nx := v } := by
  obtain ⟨n1, n2, n3, n4, n5, n6⟩ := h.neF h.fw.1
  exact { gd := h.gd.grown hg (h.lo _ h.fw.1)
          ix := h.ix.grown hg (some_ne n1)
          lw := h.lw.grown hg (some_ne n2)
          in_ := h.in_.grown hg (some_ne n3)
          on_ := h.on_.grown hg (some_ne n4)
          vi := h.vi.grown hg (some_ne n5)
          gr := h.gr.grown hg (some_ne n6)
          nx := hA
          im := h.im.grown hg (some_ne (Ne.symm h.d1.1))
          lm := h.lm.grown hg (some_ne (Ne.symm h.d1.2.1))
          nm := h.nm.grown hg (some_ne (Ne.symm h.d1.2.2.1))
          om := h.om.grown hg (some_ne (kind_ne h.om h.nx (by decide)))
          st := h.st.grown hg (some_ne (kind_ne h.st h.nx (by decide)))
          sz := h.sz.grown hg (some_ne (kind_ne h.sz h.nx (by decide)))
          rs := row_grown h.rs hg (fun e' => (h.fs _ e').2.1 rfl)
          rz := row_grown h.rz hg (fun e' => (h.fz _ e').2.1 rfl)
          lo := h.lo
          hi := fun b hF => Nat.lt_of_lt_of_le (h.hi b hF) hg.size
          fr := h.fr
          fw := h.fw
          fs := h.fs
          fz := h.fz
          d1 := h.d1
          d2 := h.d2 }
theorem TE.set_im (h : TE w B g o c nodes root F e vs vz s) (v : List Int) (hg : w.grownBy w' (some e.im)) (hA : Arr w' e.im 3 (I64 v)) : TE w' B g o c nodes root F e vs vz { s with index := v } := by
  obtain ⟨n1, n2, n3, n4, n5, n6⟩ := h.neF h.fw.2.1
  exact { gd := h.gd.grown hg (h.lo _ h.fw.2.1)
          ix := h.ix.grown hg (some_ne n1)
          lw := h.lw.grown hg (some_ne n2)
          in_ := h.in_.grown hg (some_ne n3)
          on_ := h.on_.grown hg (some_ne n4)
          vi := h.vi.grown hg (some_ne n5)
          gr := h.gr.grown hg (some_ne n6)
          nx := h.nx.grown hg (some_ne h.d1.1)
          im := hA
          lm := h.lm.grown hg (some_ne (Ne.symm h.d1.2.2.2.1))
          nm := h.nm.grown hg (some_ne (Ne.symm h.d1.2.2.2.2.1))
          om := h.om.grown hg (some_ne (kind_ne h.om h.im (by decide)))
          st := h.st.grown hg (some_ne (kind_ne h.st h.im (by decide)))
          sz := h.sz.grown hg (some_ne (kind_ne h.sz h.im (by decide)))
          rs := row_grown h.rs hg (fun e' => (h.fs _ e').2.2.1 rfl)
          rz := row_grown h.rz hg (fun e' => (h.fz _ e').2.2.1 rfl)
          lo := h.lo
          hi := fun b hF => Nat.lt_of_lt_of_le (h.hi b hF) hg.size
          fr := h.fr
          fw := h.fw
          fs := h.fs
          fz := h.fz
          d1 := h.d1
          d2 := h.d2 }
theorem TE.set_lm (h : TE w B g o c nodes root F e vs vz s) (v : List Int) (hg : w.grownBy w' (some e.lm)) (hA : Arr w' e.lm 3 (I64 v)) : TE w' B g o c nodes root F e vs vz { s with low := v } := by
  obtain ⟨n1, n2, n3, n4, n5, n6⟩ := h.neF h.fw.2.2.1
  exact { gd := h.gd.grown hg (h.lo _ h.fw.2.2.1)
          ix := h.ix.grown hg (some_ne n1)
          lw := h.lw.grown hg (some_ne n2)
          in_ := h.in_.grown hg (some_ne n3)
          on_ := h.on_.grown hg (some_ne n4)
          vi := h.vi.grown hg (some_ne n5)
          gr := h.gr.grown hg (some_ne n6)
          nx := h.nx.grown hg (some_ne h.d1.2.1)
          im := h.im.grown hg (some_ne h.d1.2.2.2.1)
          lm := hA
          nm := h.nm.grown hg (some_ne (Ne.symm h.d1.2.2.2.2.2))
          om := h.om.grown hg (some_ne (kind_ne h.om h.lm (by decide)))
          st := h.st.grown hg (some_ne (kind_ne h.st h.lm (by decide)))
          sz := h.sz.grown hg (some_ne (kind_ne h.sz h.lm (by decide)))
          rs := row_grown h.rs hg (fun e' => (h.fs _ e').2.2.2.1 rfl)
          rz := row_grown h.rz hg (fun e' => (h.fz _ e').2.2.2.1 rfl)
          lo := h.lo
          hi := fun b hF => Nat.lt_of_lt_of_le (h.hi b hF) hg.size
          fr := h.fr
          fw := h.fw
          fs := h.fs
          fz := h.fz
          d1 := h.d1
          d2 := h.d2 }
theorem TE.set_nm (h : TE w B g o c nodes root F e vs vz s) (v : List Int) (hg : w.grownBy w' (some e.nm)) (hA : Arr w' e.nm 3 (I64 v)) : TE w' B g o c nodes root F e vs vz { s with inn := v } := by
  obtain ⟨n1, n2, n3, n4, n5, n6⟩ := h.neF h.fw.2.2.2.1
  exact { gd := h.gd.grown hg (h.lo _ h.fw.2.2.2.1)
          ix := h.ix.grown hg (some_ne n1)
          lw := h.lw.grown hg (some_ne n2)
          in_ := h.in_.grown hg (some_ne n3)
          on_ := h.on_.grown hg (some_ne n4)
          vi := h.vi.grown hg (some_ne n5)
          gr := h.gr.grown hg (some_ne n6)
          nx := h.nx.grown hg (some_ne h.d1.2.2.1)
          im := h.im.grown hg (some_ne h.d1.2.2.2.2.1)
          lm := h.lm.grown hg (some_ne h.d1.2.2.2.2.2)
          nm := hA
          om := h.om.grown hg (some_ne (kind_ne h.om h.nm (by decide)))
          st := h.st.grown hg (some_ne (kind_ne h.st h.nm (by decide)))
          sz := h.sz.grown hg (some_ne (kind_ne h.sz h.nm (by decide)))
          rs := row_grown h.rs hg (fun e' => (h.fs _ e').2.2.2.2 rfl)
          rz := row_grown h.rz hg (fun e' => (h.fz _ e').2.2.2.2.1 rfl)
          lo := h.lo
          hi := fun b hF => Nat.lt_of_lt_of_le (h.hi b hF) hg.size
          fr := h.fr
          fw := h.fw
          fs := h.fs
          fz := h.fz
          d1 := h.d1
          d2 := h.d2 }
theorem TE.set_om (h : TE w B g o c nodes root F e vs vz s) (v : List Bool) (hg : w.grownBy w' (some e.om)) (hA : Arr w' e.om 4 (Bs v)) : TE w' B g o c nodes root F e vs vz { s with on := v } := by
  obtain ⟨n1, n2, n3, n4, n5, n6⟩ := h.neF h.fw.2.2.2.2.1
  exact { gd := h.gd.grown hg (h.lo _ h.fw.2.2.2.2.1)
          ix := h.ix.grown hg (some_ne n1)
          lw := h.lw.grown hg (some_ne n2)
          in_ := h.in_.grown hg (some_ne n3)
          on_ := h.on_.grown hg (some_ne n4)
          vi := h.vi.grown hg (some_ne n5)
          gr := h.gr.grown hg (some_ne n6)
          nx := h.nx.grown hg (some_ne (kind_ne h.nx h.om (by decide)))
          im := h.im.grown hg (some_ne (kind_ne h.im h.om (by decide)))
          lm := h.lm.grown hg (some_ne (kind_ne h.lm h.om (by decide)))
          nm := h.nm.grown hg (some_ne (kind_ne h.nm h.om (by decide)))
          om := hA
          st := h.st.grown hg (some_ne (kind_ne h.st h.om (by decide)))
          sz := h.sz.grown hg (some_ne (kind_ne h.sz h.om (by decide)))
          rs := row_grown h.rs hg (row_ne h.rs h.om (by decide))
          rz := row_grown h.rz hg (row_ne h.rz h.om (by decide))
          lo := h.lo
          hi := fun b hF => Nat.lt_of_lt_of_le (h.hi b hF) hg.size
          fr := h.fr
          fw := h.fw
          fs := h.fs
          fz := h.fz
          d1 := h.d1
          d2 := h.d2 }
end
end Go.Proofs.YtbhigefbihpnlaaGreatDoor
namespace Go.Proofs.YtbhigefbihpnlaaGreatDoor
open Go.RowKit
section
variable {w w1 w3 : World} {B g o c : Nat} {nodes : List GNode} {root : Int} {F : Nat → Prop} {e : TB} {vs vz v' : Value} {s : TS}
theorem own_pop {w : World} {b : Nat} {t : TypeId} {A : Option Addr} {n cap : Nat} {xs : List Value} (h : w.ownsRow b t 1 (.slice A (n + 1) cap) (n + 1) xs) : w.ownsRow b t 1 (.slice A n cap) n xs.dropLast := by
  have hl := h.1
  refine ⟨by rw [List.length_dropLast]; omega, .inr ?_⟩
  rcases h.2 with ⟨_, h0⟩ | ⟨g, cp, cur, h1, h2, h3, h4, h5, h6, h7⟩
  · omega
  · injection h1 with e1 _ e3
    subst e1 e3
    refine ⟨g, cap, cur, rfl, h2, h3, by omega, h5, h6, ?_⟩
    rw [← h7, List.dropLast_eq_take, List.take_take]
    congr 1
    rw [List.length_take, Array.length_toList, h6]
    omega
theorem I64_append (a b : List Int) : I64 (a ++ b) = I64 a ++ I64 b := by simp [I64]
theorem I64_dropLast (a : List Int) : I64 a.dropLast = (I64 a).dropLast := by simp [I64]
theorem arr_row {b : Nat} {t : TypeId} {xs : List Value} {v : Value} (h : Arr w b t xs) (hb : Below w.heap.size w w1) (hg : w1.grownBy w3 v.ownBlock) (hn : v.ownBlock ≠ some b) : Arr w3 b t xs := (h.keep hb).grown hg (fun e => hn e.symm)
theorem TE.push_st (h : TE w B g o c nodes root F e vs vz s) (x : Int) (hb : Below w.heap.size w w1) (hg : w1.grownBy w3 vs.ownBlock) (hown : w3.ownsRow B 3 1 v' (s.stack.length + 1) (I64 s.stack ++ [.int .i64 x])) (hat : v'.ownBlock = vs.ownBlock ∨ v'.ownBlock = some w1.heap.size) :
    ∃ F', TE (w3.setCell ⟨e.st, 0, none⟩ v') B g o c nodes root F' e v' vz { s with stack := s.stack ++ [x] } ∧ PStep w (w3.setCell ⟨e.st, 0, none⟩ v') F F' ∧ (∀ b, F b → F' b) := by
  have hq : ∀ b, vs.ownBlock = some b → F b := fun b hb' => (h.fs b hb').1
  have hBw : B ≤ w1.heap.size := Nat.le_trans h.gd.2.1 hb.size
  have hst := arr_row h.st hb hg (row_ne h.rs h.st (by decide))
  have far : ∀ {b : Nat} {t : TypeId} {xs : List Value}, Arr w b t xs → vs.ownBlock ≠ some b → b ≠ e.st → Arr (w3.setCell ⟨e.st, 0, none⟩ v') b t xs := fun ha hn hne => (arr_row ha hb hg hn).far hne v'
  have hown4 : (w3.setCell ⟨e.st, 0, none⟩ v').ownsRow B 3 1 v' (s.stack ++ [x]).length (I64 (s.stack ++ [x])) := by
    rw [I64_append, List.length_append, List.length_singleton]
    exact own_far (p := ⟨e.st, 0, none⟩) hown (own_arr hown hst (by decide)) v'
  have hss : (w3.setCell ⟨e.st, 0, none⟩ v').heap.size = w3.heap.size := by simp [World.setCell]
  have hsz : w.heap.size ≤ w3.heap.size := Nat.le_trans hb.size hg.size
  have hvF : ∀ b, v'.ownBlock = some b → F b ∨ w.heap.size ≤ b := fun b hb' => by
    rcases hat with h1 | h1
    · exact .inl (hq b (h1 ▸ hb'))
    · rw [h1] at hb'
      have := Option.some.inj hb'
      have := hb.size
      exact .inr (by omega)
  have hvold : ∀ b, b < w.heap.size → vs.ownBlock ≠ some b → v'.ownBlock ≠ some b := fun b hl hn hb' => by
    rcases hat with h1 | h1
    · exact hn (h1 ▸ hb')
    · rw [h1] at hb'
      have := Option.some.inj hb'
      have := hb.size
      omega
  have hvne : ∀ b, vz.ownBlock = some b → v'.ownBlock ≠ some b := fun b hb' => hvold b (h.rz.lt b hb').2 ((fun k e' => (h.fz k e').2.2.2.2.2) b hb')
  have hother : (w3.setCell ⟨e.st, 0, none⟩ v').ownsRow B 3 1 vz s.sizes.length (I64 s.sizes) := own_same h.rz (fun b hb' => by
    have hl := (h.rz.lt b hb').2
    obtain ⟨C, fz, hk⟩ := own_kind h.rz hb'
    refine (setCell_heap_ne _ _ _ ?_).trans ((hg.block b (Nat.lt_of_lt_of_le hl hb.size) (fun e' => (fun k e' => (h.fz k e').2.2.2.2.2) b hb' e'.symm)).trans (hb.block b hl))
    rintro rfl
    exact absurd (cells_kind hk h.st) (by decide))
  have hnew : ∀ b, v'.ownBlock = some b → (F b ∨ v'.ownBlock = some b) ∧ b ≠ e.nx ∧ b ≠ e.im ∧ b ≠ e.lm ∧ b ≠ e.nm := fun b hb' => by
    refine ⟨.inr hb', ?_, ?_, ?_, ?_⟩
    · rintro rfl; exact hvold _ h.nx.lt (fun k => ((h.fs _ k).2.1 rfl)) hb'
    · rintro rfl; exact hvold _ h.im.lt (fun k => ((h.fs _ k).2.2.1 rfl)) hb'
    · rintro rfl; exact hvold _ h.lm.lt (fun k => ((h.fs _ k).2.2.2.1 rfl)) hb'
    · rintro rfl; exact hvold _ h.nm.lt (fun k => ((h.fs _ k).2.2.2.2 rfl)) hb'
  obtain ⟨f1, f2, f3, f4, f5, f6⟩ := h.fr
  obtain ⟨n1, n2, n3, n4, n5, n6, n7⟩ := h.fw
  refine ⟨fun b => F b ∨ v'.ownBlock = some b, ?_, ?_, fun b hF => .inl hF⟩
  · exact { gd := by
              have h1 := h.gd.below hb h.gd.2.1
              have h2 : GRd w3 B g o nodes := ⟨h1.1, Nat.le_trans h1.2.1 hg.size, fun i nd hi => (h1.2.2 i nd hi).same h1.1 fun a ha u hu => hg.cell hu (fun e' => by have := h.lo a.block (hq a.block e'.symm); omega)⟩
              exact h2.grown (grown_set w3 ⟨e.st, 0, none⟩ v') (h.lo _ n6)
            ix := far h.ix (fun k => f1 (hq _ k)) (fun k => f1 (k ▸ n6))
            lw := far h.lw (fun k => f2 (hq _ k)) (fun k => f2 (k ▸ n6))
            in_ := far h.in_ (fun k => f3 (hq _ k)) (fun k => f3 (k ▸ n6))
            on_ := far h.on_ (fun k => f4 (hq _ k)) (fun k => f4 (k ▸ n6))
            vi := far h.vi (fun k => f5 (hq _ k)) (fun k => f5 (k ▸ n6))
            gr := far h.gr (fun k => f6 (hq _ k)) (fun k => f6 (k ▸ n6))
            nx := far h.nx (fun k => ((h.fs _ k).2.1 rfl)) (kind_ne h.nx h.st (by decide))
            im := far h.im (fun k => ((h.fs _ k).2.2.1 rfl)) (kind_ne h.im h.st (by decide))
            lm := far h.lm (fun k => ((h.fs _ k).2.2.2.1 rfl)) (kind_ne h.lm h.st (by decide))
            nm := far h.nm (fun k => ((h.fs _ k).2.2.2.2 rfl)) (kind_ne h.nm h.st (by decide))
            om := far h.om (row_ne h.rs h.om (by decide)) (kind_ne h.om h.st (by decide))
            st := hst.store 0 v'
            sz := (arr_row h.sz hb hg (row_ne h.rs h.sz (by decide))).far (Ne.symm h.d2) v'
            rs := hown4
            rz := hother
            lo := fun b hF => hF.elim (h.lo b) (fun k => (hown.lt b k).1)
            hi := fun b hF => by rw [hss]; exact hF.elim (fun k => Nat.lt_of_lt_of_le (h.hi b k) hsz) (fun k => (hown.lt b k).2)
            fr := ⟨fun k => k.elim f1 (hvold _ h.ix.lt (fun k => f1 (hq _ k))), fun k => k.elim f2 (hvold _ h.lw.lt (fun k => f2 (hq _ k))), fun k => k.elim f3 (hvold _ h.in_.lt (fun k => f3 (hq _ k))), fun k => k.elim f4 (hvold _ h.on_.lt (fun k => f4 (hq _ k))), fun k => k.elim f5 (hvold _ h.vi.lt (fun k => f5 (hq _ k))), fun k => k.elim f6 (hvold _ h.gr.lt (fun k => f6 (hq _ k)))⟩
            fw := ⟨.inl n1, .inl n2, .inl n3, .inl n4, .inl n5, .inl n6, .inl n7⟩
            fs := hnew
            fz := fun b hb' => by obtain ⟨f1, f2, f3, f4, f5, f6⟩ := h.fz b hb'; exact ⟨.inl f1, f2, f3, f4, f5, fun hv => hvne b hb' hv⟩
            d1 := h.d1
            d2 := h.d2 }
  · refine ⟨hg.os.trans hb.os, hg.tape.trans hb.tape, hg.output.trans hb.output, by rw [hss]; exact hsz, fun b hlt hF => ?_, fun b hF => ?_⟩
    · exact (setCell_heap_ne _ _ _ (by rintro rfl; exact hF n6)).trans ((hg.block b (Nat.lt_of_lt_of_le hlt hb.size) (fun e' => hF (hq b e'.symm))).trans (hb.block b hlt))
    · exact hF.elim .inl (fun k => hvF b k)
theorem TE.push_sz (h : TE w B g o c nodes root F e vs vz s) (x : Int) (hb : Below w.heap.size w w1) (hg : w1.grownBy w3 vz.ownBlock) (hown : w3.ownsRow B 3 1 v' (s.sizes.length + 1) (I64 s.sizes ++ [.int .i64 x])) (hat : v'.ownBlock = vz.ownBlock ∨ v'.ownBlock = some w1.heap.size) :
    ∃ F', TE (w3.setCell ⟨e.sz, 0, none⟩ v') B g o c nodes root F' e vs v' { s with sizes := s.sizes ++ [x] } ∧ PStep w (w3.setCell ⟨e.sz, 0, none⟩ v') F F' ∧ (∀ b, F b → F' b) := by
  have hq : ∀ b, vz.ownBlock = some b → F b := fun b hb' => (h.fz b hb').1
  have hBw : B ≤ w1.heap.size := Nat.le_trans h.gd.2.1 hb.size
  have hst := arr_row h.sz hb hg (row_ne h.rz h.sz (by decide))
  have far : ∀ {b : Nat} {t : TypeId} {xs : List Value}, Arr w b t xs → vz.ownBlock ≠ some b → b ≠ e.sz → Arr (w3.setCell ⟨e.sz, 0, none⟩ v') b t xs := fun ha hn hne => (arr_row ha hb hg hn).far hne v'
  have hown4 : (w3.setCell ⟨e.sz, 0, none⟩ v').ownsRow B 3 1 v' (s.sizes ++ [x]).length (I64 (s.sizes ++ [x])) := by
    rw [I64_append, List.length_append, List.length_singleton]
    exact own_far (p := ⟨e.sz, 0, none⟩) hown (own_arr hown hst (by decide)) v'
  have hss : (w3.setCell ⟨e.sz, 0, none⟩ v').heap.size = w3.heap.size := by simp [World.setCell]
  have hsz : w.heap.size ≤ w3.heap.size := Nat.le_trans hb.size hg.size
  have hvF : ∀ b, v'.ownBlock = some b → F b ∨ w.heap.size ≤ b := fun b hb' => by
    rcases hat with h1 | h1
    · exact .inl (hq b (h1 ▸ hb'))
    · rw [h1] at hb'
      have := Option.some.inj hb'
      have := hb.size
      exact .inr (by omega)
  have hvold : ∀ b, b < w.heap.size → vz.ownBlock ≠ some b → v'.ownBlock ≠ some b := fun b hl hn hb' => by
    rcases hat with h1 | h1
    · exact hn (h1 ▸ hb')
    · rw [h1] at hb'
      have := Option.some.inj hb'
      have := hb.size
      omega
  have hvne : ∀ b, vs.ownBlock = some b → v'.ownBlock ≠ some b := fun b hb' => hvold b (h.rs.lt b hb').2 ((fun k e' h' => (h.fz k h').2.2.2.2.2 e') b hb')
  have hother : (w3.setCell ⟨e.sz, 0, none⟩ v').ownsRow B 3 1 vs s.stack.length (I64 s.stack) := own_same h.rs (fun b hb' => by
    have hl := (h.rs.lt b hb').2
    obtain ⟨C, fz, hk⟩ := own_kind h.rs hb'
    refine (setCell_heap_ne _ _ _ ?_).trans ((hg.block b (Nat.lt_of_lt_of_le hl hb.size) (fun e' => (fun k e' h' => (h.fz k h').2.2.2.2.2 e') b hb' e'.symm)).trans (hb.block b hl))
    rintro rfl
    exact absurd (cells_kind hk h.sz) (by decide))
  have hnew : ∀ b, v'.ownBlock = some b → (F b ∨ v'.ownBlock = some b) ∧ b ≠ e.nx ∧ b ≠ e.im ∧ b ≠ e.lm ∧ b ≠ e.nm := fun b hb' => by
    refine ⟨.inr hb', ?_, ?_, ?_, ?_⟩
    · rintro rfl; exact hvold _ h.nx.lt (fun k => ((h.fz _ k).2.1 rfl)) hb'
    · rintro rfl; exact hvold _ h.im.lt (fun k => ((h.fz _ k).2.2.1 rfl)) hb'
    · rintro rfl; exact hvold _ h.lm.lt (fun k => ((h.fz _ k).2.2.2.1 rfl)) hb'
    · rintro rfl; exact hvold _ h.nm.lt (fun k => ((h.fz _ k).2.2.2.2.1 rfl)) hb'
  obtain ⟨f1, f2, f3, f4, f5, f6⟩ := h.fr
  obtain ⟨n1, n2, n3, n4, n5, n6, n7⟩ := h.fw
  refine ⟨fun b => F b ∨ v'.ownBlock = some b, ?_, ?_, fun b hF => .inl hF⟩
  · exact { gd := by
              have h1 := h.gd.below hb h.gd.2.1
              have h2 : GRd w3 B g o nodes := ⟨h1.1, Nat.le_trans h1.2.1 hg.size, fun i nd hi => (h1.2.2 i nd hi).same h1.1 fun a ha u hu => hg.cell hu (fun e' => by have := h.lo a.block (hq a.block e'.symm); omega)⟩
              exact h2.grown (grown_set w3 ⟨e.sz, 0, none⟩ v') (h.lo _ n7)
            ix := far h.ix (fun k => f1 (hq _ k)) (fun k => f1 (k ▸ n7))
            lw := far h.lw (fun k => f2 (hq _ k)) (fun k => f2 (k ▸ n7))
            in_ := far h.in_ (fun k => f3 (hq _ k)) (fun k => f3 (k ▸ n7))
            on_ := far h.on_ (fun k => f4 (hq _ k)) (fun k => f4 (k ▸ n7))
            vi := far h.vi (fun k => f5 (hq _ k)) (fun k => f5 (k ▸ n7))
            gr := far h.gr (fun k => f6 (hq _ k)) (fun k => f6 (k ▸ n7))
            nx := far h.nx (fun k => ((h.fz _ k).2.1 rfl)) (kind_ne h.nx h.sz (by decide))
            im := far h.im (fun k => ((h.fz _ k).2.2.1 rfl)) (kind_ne h.im h.sz (by decide))
            lm := far h.lm (fun k => ((h.fz _ k).2.2.2.1 rfl)) (kind_ne h.lm h.sz (by decide))
            nm := far h.nm (fun k => ((h.fz _ k).2.2.2.2.1 rfl)) (kind_ne h.nm h.sz (by decide))
            om := far h.om (row_ne h.rz h.om (by decide)) (kind_ne h.om h.sz (by decide))
            st := (arr_row h.st hb hg (row_ne h.rz h.st (by decide))).far h.d2 v'
            sz := hst.store 0 v'
            rs := hother
            rz := hown4
            lo := fun b hF => hF.elim (h.lo b) (fun k => (hown.lt b k).1)
            hi := fun b hF => by rw [hss]; exact hF.elim (fun k => Nat.lt_of_lt_of_le (h.hi b k) hsz) (fun k => (hown.lt b k).2)
            fr := ⟨fun k => k.elim f1 (hvold _ h.ix.lt (fun k => f1 (hq _ k))), fun k => k.elim f2 (hvold _ h.lw.lt (fun k => f2 (hq _ k))), fun k => k.elim f3 (hvold _ h.in_.lt (fun k => f3 (hq _ k))), fun k => k.elim f4 (hvold _ h.on_.lt (fun k => f4 (hq _ k))), fun k => k.elim f5 (hvold _ h.vi.lt (fun k => f5 (hq _ k))), fun k => k.elim f6 (hvold _ h.gr.lt (fun k => f6 (hq _ k)))⟩
            fw := ⟨.inl n1, .inl n2, .inl n3, .inl n4, .inl n5, .inl n6, .inl n7⟩
            fs := fun b hb' => by obtain ⟨f1, f2⟩ := h.fs b hb'; exact ⟨.inl f1, f2⟩
            fz := fun b hb' => by obtain ⟨f1, f2, f3, f4, f5⟩ := hnew b hb'; exact ⟨f1, f2, f3, f4, f5, fun hv => hvne b hv hb'⟩
            d1 := h.d1
            d2 := h.d2 }
  · refine ⟨hg.os.trans hb.os, hg.tape.trans hb.tape, hg.output.trans hb.output, by rw [hss]; exact hsz, fun b hlt hF => ?_, fun b hF => ?_⟩
    · exact (setCell_heap_ne _ _ _ (by rintro rfl; exact hF n7)).trans ((hg.block b (Nat.lt_of_lt_of_le hlt hb.size) (fun e' => hF (hq b e'.symm))).trans (hb.block b hlt))
    · exact hF.elim .inl (fun k => hvF b k)
theorem TE.pop_st {A : Option Addr} {n cap : Nat} (h : TE w B g o c nodes root F e (.slice A (n + 1) cap) vz s) (hn : s.stack.length = n + 1) :
    TE (w.setCell ⟨e.st, 0, none⟩ (.slice A n cap)) B g o c nodes root F e (.slice A n cap) vz { s with stack := s.stack.dropLast } := by
  have hg := grown_set w ⟨e.st, 0, none⟩ (.slice A n cap)
  obtain ⟨n1, n2, n3, n4, n5, n6⟩ := h.neF h.fw.2.2.2.2.2.1
  have hob : (Value.slice A n cap).ownBlock = (Value.slice A (n + 1) cap).ownBlock := by cases A <;> rfl
  have hown : (w.setCell ⟨e.st, 0, none⟩ (.slice A n cap)).ownsRow B 3 1 (.slice A n cap) s.stack.dropLast.length (I64 s.stack.dropLast) := by
    have h1 := h.rs
    rw [hn] at h1
    rw [I64_dropLast, List.length_dropLast, hn]
    exact own_far (p := ⟨e.st, 0, none⟩) (own_pop h1) (by rw [hob]; exact row_ne h.rs h.st (by decide)) _
  exact { gd := h.gd.grown hg (h.lo _ h.fw.2.2.2.2.2.1)
          ix := h.ix.grown hg (some_ne n1)
          lw := h.lw.grown hg (some_ne n2)
          in_ := h.in_.grown hg (some_ne n3)
          on_ := h.on_.grown hg (some_ne n4)
          vi := h.vi.grown hg (some_ne n5)
          gr := h.gr.grown hg (some_ne n6)
          nx := h.nx.grown hg (some_ne (kind_ne h.nx h.st (by decide)))
          im := h.im.grown hg (some_ne (kind_ne h.im h.st (by decide)))
          lm := h.lm.grown hg (some_ne (kind_ne h.lm h.st (by decide)))
          nm := h.nm.grown hg (some_ne (kind_ne h.nm h.st (by decide)))
          om := h.om.grown hg (some_ne (kind_ne h.om h.st (by decide)))
          st := h.st.store 0 _
          sz := h.sz.grown hg (some_ne (Ne.symm h.d2))
          rs := hown
          rz := row_grown h.rz hg (row_ne h.rz h.st (by decide))
          lo := h.lo
          hi := fun b hF => Nat.lt_of_lt_of_le (h.hi b hF) hg.size
          fr := h.fr
          fw := h.fw
          fs := by rw [hob]; exact h.fs
          fz := by rw [hob]; exact h.fz
          d1 := h.d1
          d2 := h.d2 }
end
end Go.Proofs.YtbhigefbihpnlaaGreatDoor
