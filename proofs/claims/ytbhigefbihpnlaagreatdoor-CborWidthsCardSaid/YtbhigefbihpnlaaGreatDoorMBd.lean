/- The walk of the closure 'step' in graph's components: an edge. -/
import Derived.Test.YtbhigefbihpnlaaGreatDoorMBc
import Derived.StillTailTactics
set_option linter.unusedVariables false
set_option linter.unusedSimpArgs false
set_option linter.defProp false
set_option linter.constructorNameAsVariable false
namespace Go.Proofs.YtbhigefbihpnlaaGreatDoor
open Go.RowKit
def VisT (B g o c : Nat) (nodes : List GNode) (root : Int) (e : TB) (f : Nat) : Prop := ∀ (k : Nat) (w : World) (F : Nat → Prop) (vs vz : Value) (s s' : TS), visitT nodes f (k : Int) s = some s' → k < nodes.length → gI s.index (k : Int) = 0 → TOK nodes.length s → TE w B g o c nodes root F e vs vz s →
 Calls Tryz.prog 62 #[.int .i64 (k : Int), .pointer (some ⟨e.nx, 0, none⟩), .pointer (some ⟨e.ix, 0, none⟩), .pointer (some ⟨e.lw, 0, none⟩), .pointer (some ⟨e.st, 0, none⟩), .pointer (some ⟨e.on_, 0, none⟩), .pointer (some ⟨e.vi, 0, none⟩), .pointer (some ⟨e.gr, 0, none⟩), .pointer (some ⟨e.sz, 0, none⟩), .pointer (some ⟨e.in_, 0, none⟩)] w (TC w B g o c nodes root F e s')
theorem gI_nat (l : List Int) (k : Nat) : gI l (k : Int) = l.getD k 0 := by unfold gI; rw [Int.toNat_natCast]
theorem sI_nat (l : List Int) (k : Nat) (v : Int) : sI l (k : Int) v = l.set k v := by unfold sI; rw [Int.toNat_natCast]
section
variable {w : World} {B g o c : Nat} {nodes : List GNode} {root : Int} {F : Nat → Prop} {e : TB} {vs vz : Value} {s : TS}
theorem TE.cell_im (h : TE w B g o c nodes root F e vs vz s) {k : Nat} (hk : k < s.index.length) : w.cell? ⟨e.im, k, none⟩ = some (.int .i64 (s.index.getD k 0)) := h.im.cell' (I64_getD hk)
theorem TE.cell_lm (h : TE w B g o c nodes root F e vs vz s) {k : Nat} (hk : k < s.low.length) : w.cell? ⟨e.lm, k, none⟩ = some (.int .i64 (s.low.getD k 0)) := h.lm.cell' (I64_getD hk)
theorem TE.cell_nm (h : TE w B g o c nodes root F e vs vz s) {k : Nat} (hk : k < s.inn.length) : w.cell? ⟨e.nm, k, none⟩ = some (.int .i64 (s.inn.getD k 0)) := h.nm.cell' (I64_getD hk)
theorem TE.cell_om (h : TE w B g o c nodes root F e vs vz s) {k : Nat} (hk : k < s.on.length) : w.cell? ⟨e.om, k, none⟩ = some (.bool (s.on.getD k false)) := h.om.cell' (Bs_get hk)
theorem TE.low_at (h : TE w B g o c nodes root F e vs vz s) (a : Nat) (v : Int) : TE (w.setCell ⟨e.lm, a, none⟩ (.int .i64 v)).drew B g o c nodes root F e vs vz { s with low := sI s.low (a : Int) v } ∧ PStep w (w.setCell ⟨e.lm, a, none⟩ (.int .i64 v)).drew F F := by
 have hg := grown_set w ⟨e.lm, a, none⟩ (.int .i64 v)
 have hb : Below (w.setCell ⟨e.lm, a, none⟩ (.int .i64 v)).heap.size (w.setCell ⟨e.lm, a, none⟩ (.int .i64 v)) (w.setCell ⟨e.lm, a, none⟩ (.int .i64 v)).drew := (Below.refl _ _).drew
 refine ⟨(h.set_lm (sI s.low (a : Int) v) hg ?_).kept hb, (pstep_grown hg h.fw.2.2.1).trans (PStep.of_below hb)⟩
 have h2 := h.lm.store a (.int .i64 v)
 rw [I64_set] at h2
 rw [sI_nat]
 exact h2
end
set_option maxRecDepth 20000 in
set_option maxHeartbeats 4000000 in
theorem step_any {B g o c : Nat} {nodes : List GNode} {root : Int} {e : TB} {f : Nat} (hv : VisT B g o c nodes root e f) (hI : Idx nodes) (a k ab : Nat) (ha : a < nodes.length) (hk : k < nodes.length) (w : World) (F : Nat → Prop) (vs vz : Value) (s s' : TS) (h : stepT (visitT nodes f) (a : Int) (k : Int) s = some s') (hT : TOK nodes.length s)
  (hE : TE w B g o c nodes root F e vs vz s) (hA : Arr w ab 3 [.int .i64 (a : Int)]) (hab : ¬ F ab) :
  Calls Tryz.prog 63 #[.int .i64 (k : Int), .pointer (some ⟨e.ix, 0, none⟩), .pointer (some ⟨e.vi, 0, none⟩), .pointer (some ⟨e.lw, 0, none⟩), .pointer (some ⟨ab, 0, none⟩), .pointer (some ⟨e.on_, 0, none⟩)] w (TC w B g o c nodes root F e s') := by
 have hk0 : (0 : Int) ≤ k := by omega
 have hk1 : (k : Int) < nodes.length := by omega
 have ha0 : (0 : Int) ≤ a := by omega
 have ha1 : (a : Int) < nodes.length := by omega
 have x0 := hE.ix.cell' (i := 0) rfl
 have x1 := hE.cell_im (k := k) (by rw [hT.li]; exact hk)
 unfold stepT at h
 rw [gI_nat] at h
 by_cases h0 : s.index.getD k 0 = 0
 ·rw [if_pos h0] at h
  rw [h0] at x1
  cases hs1 : visitT nodes f (k : Int) s with
  | none => rw [hs1] at h; cases h
  | some s1 =>
   rw [hs1] at h
   have h' : { s1 with low := sI s1.low (a : Int) (min (gI s1.low (a : Int)) (gI s1.low (k : Int))) } = s' := Option.some.inj h
   have hT1 := TOK.visit hI f (k : Int) s s1 ⟨by omega, by omega⟩ (by rw [gI_nat]; exact h0) hT hs1
   have D := Lib.hid (hv k w F vs vz s s1 hs1 hk (by rw [gI_nat]; exact h0) hT hE)
   have v0 := hE.vi.cell' (i := 0) rfl
   unfold visitFn at v0
   have HS := Lib.hid h'
   have hAl := hA.lt
   clear h h' hs1 h0
   go_enter Tryz.func63, Tryz.ntmps63
   go_upto_region 2 with (go_at_call 62; ((with_reducible refine D.out.mono ?_)); rintro en w1 ⟨rfl, F1, vs1, vz1, hE1, hP1⟩)
   have hA1 := hP1.arr hA hab
   have hab1 := hP1.out hAl hab
   have y0 := hE1.out.lw.cell' (i := 0) rfl
   have y1 := hA1.cell' (i := 0) rfl
   have y2 := hE1.out.cell_lm (k := a) (by rw [hT1.ll]; exact ha)
   have y3 := hE1.out.cell_lm (k := k) (by rw [hT1.ll]; exact hk)
   have yf := hE1.out.lm.frozen a
   have hfin := Lib.hid (hE1.out.low_at a (min (gI s1.low (a : Int)) (gI s1.low (k : Int))))
   rw [gI_nat, gI_nat] at hfin HS
   clear x0 x1 v0 hA1
   generalize s1.low.getD a 0 = la at *
   generalize s1.low.getD k 0 = lk at *
   go_still_tail 12, (by kernel_rfl)
   go_wp2_with (fail)
   go_end0
   exact ⟨rfl, F1, vs1, vz1, by rw [← HS.out]; exact hfin.out.1, hP1.trans hfin.out.2⟩
 ·rw [if_neg h0] at h
  have z1 : (s.index.getD k 0 == 0) = false := by simpa using h0
  have x2 := hE.on_.cell' (i := 0) rfl
  have x3 := hE.cell_om (k := k) (by rw [hT.lo]; exact hk)
  rw [Int.toNat_natCast] at h
  by_cases ho : s.on.getD k false = true
  ·rw [if_pos ho] at h
   rw [ho] at x3
   have h' : { s with low := sI s.low (a : Int) (min (gI s.low (a : Int)) (s.index.getD k 0)) } = s' := by
    exact Option.some.inj h
   have HS := Lib.hid h'
   have y0 := hE.lw.cell' (i := 0) rfl
   have y1 := hA.cell' (i := 0) rfl
   have y2 := hE.cell_lm (k := a) (by rw [hT.ll]; exact ha)
   have yf := hE.lm.frozen a
   have hfin := Lib.hid (hE.low_at a (min (gI s.low (a : Int)) (s.index.getD k 0)))
   rw [gI_nat] at hfin HS
   clear h h' ho h0
   generalize s.low.getD a 0 = la at *
   generalize s.index.getD k 0 = lk at *
   go_enter Tryz.func63, Tryz.ntmps63
   go_upto_region 4 with (fail)
   go_still_tail 12, (by kernel_rfl)
   go_wp2_with (fail)
   go_end0
   exact ⟨rfl, F, vs, vz, by rw [← HS.out]; exact hfin.out.1, hfin.out.2⟩
  ·rw [if_neg ho] at h
   have ho' : s.on.getD k false = false := by simpa using ho
   rw [ho'] at x3
   obtain rfl := Option.some.inj h
   have HE := Lib.hid hE
   clear h ho ho' h0 hE
   generalize s.index.getD k 0 = lk at *
   go_enter Tryz.func63, Tryz.ntmps63
   go_wp2_with (fail)
   go_end0
   exact ⟨rfl, F, vs, vz, HE, PStep.of_below (Below.refl _ _)⟩
end Go.Proofs.YtbhigefbihpnlaaGreatDoor
