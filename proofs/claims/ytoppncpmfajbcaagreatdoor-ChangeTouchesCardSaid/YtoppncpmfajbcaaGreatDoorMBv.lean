/- The walks of the references' Ints, Identical and Same, at what awake hands them. -/
import Derived.Test.YtoppncpmfajbcaaGreatDoorMBu
import Derived.BigQuiet
import Derived.Test.YtoppncpmfajbcaaGreatDoorMBo
import Derived.Test.YtoppncpmfajbcaaGreatDoorMBt
import Derived.Test.YtoppncpmfajbcaaGreatDoorMAd
set_option linter.unusedVariables false
set_option linter.unusedSimpArgs false
set_option linter.defProp false
set_option linter.constructorNameAsVariable false
namespace Go.Proofs.YtoppncpmfajbcaaGreatDoor
open Go.RowKit
set_option maxRecDepth 20000 in
set_option maxHeartbeats 4000000 in
theorem rints_nil (A1 A2 : Option Addr) (c1 c2 : Nat) (w : World) :
    Calls Tryz.prog 41 #[.slice A1 0 c1, .slice A2 0 c2] w fun e w' => e = .returned (.bool true) ∧ w' = w := by
  go_enter Tryz.func41, Tryz.ntmps41
  go_upto_region 4 with (fail)
  go_loopw [5] (fun v wr => v = .int .i64 0 ∧ wr = w) (fun _ _ => 0)
  case atStart => exact ⟨rfl, rfl⟩
  case round =>
    obtain ⟨rfl, rfl⟩ := hrel
    go_wp2
    go_ret
    exact ⟨rfl, rfl⟩
set_option maxRecDepth 20000 in
set_option maxHeartbeats 8000000 in
theorem ridentical_leaf {B g1 o1 c1 g2 o2 c2 : Nat} {nd : GNode} (hk : nd.keys = []) (hi : nd.items = []) (w : World) (h1 : GRd w B g1 o1 [nd]) (h2 : GRd w B g2 o2 [nd]) :
    Calls Tryz.prog 29 #[.agg #[.slice (some ⟨g1, o1, none⟩) 1 c1, .int .i64 0], .agg #[.slice (some ⟨g2, o2, none⟩) 1 c2, .int .i64 0]] w fun e w' => e = .returned (.bool true) ∧ Below w.heap.size w w' := by
  obtain ⟨q2, q3, hb1, hz1⟩ := box2 w 26 26 [.slice (some ⟨g1, o1, none⟩) 1 c1, .int .i64 0] [.slice (some ⟨g2, o2, none⟩) 1 c2, .int .i64 0]
  have H1 := Lib.hid (h1.below hb1 h1.2.1)
  have H2 := Lib.hid (h2.below hb1 h2.2.1)
  have hBw := h1.2.1
  clear h1 h2
  go_enter Tryz.func29, Tryz.ntmps29
  go_upto_region 1 with (fail)
  obtain ⟨gb, hgb⟩ : ∃ x, w.heap.size = x := ⟨_, rfl⟩
  have HGB := Lib.hid hgb
  have HB1 := Lib.hid hb1
  generalize ((w.alloc (.cells #[.slice (some ⟨g1, o1, none⟩) 1 c1, .int .i64 0] 26)).alloc (.cells #[.slice (some ⟨g2, o2, none⟩) 1 c2, .int .i64 0] 26)) = W at *
  rw [hgb] at q2 q3 hz1 HB1 hBw ⊢
  clear hgb hb1
  have hgl := q3.out.lt
  have a0 := q2.out.cell' (i := 0) rfl
  have a1 := q2.out.cell' (i := 1) rfl
  have b0 := q3.out.cell' (i := 0) rfl
  have b1 := q3.out.cell' (i := 1) rfl
  go_upto_region 4 with (fail)
  go_loopw [5] (fun v wr => ∃ i : Nat, i ≤ 1 ∧ v = .int .i64 (i : Int) ∧ Hid (Below W.heap.size W wr)) (fun v _ => 1 - (intOf v).toNat)
  case atStart => exact ⟨0, by omega, rfl, Below.refl _ _⟩
  case round =>
    obtain ⟨i, hi1, rfl, hBr⟩ := hrel
    clear a0 a1 b0 b1
    have hs := hBr.out.size
    have q2' := Lib.hid (q2.out.keep hBr.out)
    have q3' := Lib.hid (q3.out.keep hBr.out)
    have a0 := q2'.out.cell' (i := 0) rfl
    have b0 := q3'.out.cell' (i := 0) rfl
    by_cases hi2 : i < 1
    · obtain rfl : i = 0 := by omega
      obtain ⟨K1, ck1, I1, ci1, d0, d1, d2, d3, d4, _, _⟩ := (H1.out.below hBr.out H1.out.2.1).2.2 0 nd rfl
      obtain ⟨K2, ck2, I2, ci2, e0, e1, e2, e3, e4, _, _⟩ := (H2.out.below hBr.out H2.out.2.1).2.2 0 nd rfl
      rw [Nat.zero_mul, Nat.add_zero] at d0 d1 d2 d3 d4 e0 e1 e2 e3 e4
      rw [hk] at d3 e3
      rw [hi] at d4 e4
      rw [show ([] : List Int).length = 0 from rfl] at d3 d4 e3 e4
      have n1 := World.new_ne wr _ a0
      have n2 := World.new_ne wr _ b0
      have n3 := World.new_ne wr _ d0
      have n4 := World.new_ne wr _ d1
      have n5 := World.new_ne wr _ d2
      have n6 := World.new_ne wr _ d3
      have n7 := World.new_ne wr _ d4
      have n8 := World.new_ne wr _ e0
      have n9 := World.new_ne wr _ e1
      have m1 := World.new_ne wr _ e2
      have m2 := World.new_ne wr _ e3
      have m3 := World.new_ne wr _ e4
      go_upto_region 6 with (fail)
      go_region_held3 (fun w' => w'.cell? ⟨gb, 0, none⟩ = some (.slice (some ⟨g1, o1, none⟩) 1 c1) ∧ w'.cell? ⟨gb + 1, 0, none⟩ = some (.slice (some ⟨g2, o2, none⟩) 1 c2) ∧ w'.cell? ⟨g1, o1, none⟩ = some (.int .i64 nd.kind) ∧ w'.cell? ⟨g1, o1 + 1, none⟩ = some (.string (mks nd.text)) ∧ w'.cell? ⟨g1, o1 + 2, none⟩ = some (.bool nd.ord) ∧ w'.cell? ⟨g1, o1 + 3, none⟩ = some (.slice K1 0 ck1) ∧ w'.cell? ⟨g1, o1 + 4, none⟩ = some (.slice I1 0 ci1) ∧ w'.cell? ⟨g2, o2, none⟩ = some (.int .i64 nd.kind) ∧ w'.cell? ⟨g2, o2 + 1, none⟩ = some (.string (mks nd.text)) ∧ w'.cell? ⟨g2, o2 + 2, none⟩ = some (.bool nd.ord) ∧ w'.cell? ⟨g2, o2 + 3, none⟩ = some (.slice K2 0 ck2) ∧ w'.cell? ⟨g2, o2 + 4, none⟩ = some (.slice I2 0 ci2))
        (first | exact ⟨a0, b0, d0, d1, d2, d3, d4, e0, e1, e2, e3, e4⟩ | go_keep) (fail)
      all_goals
        clear a0 b0 d0 d1 d2 d3 d4 e0 e1 e2 e3 e4 n1 n2 n3 n4 n5 n6 n7 n8 n9 m1 m2 m3
        first
          | (obtain ⟨wl, hwl⟩ : ∃ wl, wl = (wr.alloc (.cells #[.int .i64 nd.kind, .string (mks nd.text), .bool nd.ord, .slice K1 0 ck1, .slice I1 0 ci1] 34)).alloc (.cells #[.int .i64 nd.kind, .string (mks nd.text), .bool nd.ord, .slice K2 0 ck2, .slice I2 0 ci2] 34) := ⟨_, rfl⟩
             rw [← hwl]
             obtain ⟨k1, k2, kb, kz⟩ := box2 wr 34 34 [.int .i64 nd.kind, .string (mks nd.text), .bool nd.ord, .slice K1 0 ck1, .slice I1 0 ci1] [.int .i64 nd.kind, .string (mks nd.text), .bool nd.ord, .slice K2 0 ck2, .slice I2 0 ci2])
          | (obtain ⟨wl, hwl⟩ : ∃ wl, wl = (wr.alloc (.cells #[.int .i64 nd.kind, .string (mks nd.text), .bool nd.ord, .slice K2 0 ck2, .slice I2 0 ci2] 34)).alloc (.cells #[.int .i64 nd.kind, .string (mks nd.text), .bool nd.ord, .slice K1 0 ck1, .slice I1 0 ci1] 34) := ⟨_, rfl⟩
             rw [← hwl]
             obtain ⟨k2, k1, kb, kz⟩ := box2 wr 34 34 [.int .i64 nd.kind, .string (mks nd.text), .bool nd.ord, .slice K2 0 ck2, .slice I2 0 ci2] [.int .i64 nd.kind, .string (mks nd.text), .bool nd.ord, .slice K1 0 ck1, .slice I1 0 ci1])
        rw [← hwl] at k1 k2 kb
        clear kz hwl
        have hBl := Lib.hid (hBr.out.trans (kb.mono hs))
        have x0 := k1.out.cell' (i := 0) rfl
        have x1 := k1.out.cell' (i := 1) rfl
        have x2 := k1.out.cell' (i := 2) rfl
        have x3 := k1.out.cell' (i := 3) rfl
        have x4 := k1.out.cell' (i := 4) rfl
        have y0 := k2.out.cell' (i := 0) rfl
        have y1 := k2.out.cell' (i := 1) rfl
        have y2 := k2.out.cell' (i := 2) rfl
        have y3 := k2.out.cell' (i := 3) rfl
        have y4 := k2.out.cell' (i := 4) rfl
        go_wp2_with (go_at_call 41; ((with_reducible refine (rints_nil _ _ _ _ _).mono ?_)); rintro e w7 ⟨rfl, hw7⟩; subst hw7)
        go_roundw
        case rel => exact ⟨1, by omega, rfl, hBl.out.drew⟩
        case measure => simp [intOf]
    · obtain rfl : i = 1 := by omega
      go_wp2
      go_ret
      exact ⟨rfl, by rw [HGB.out]; exact HB1.out.trans (hBr.out.mono (by omega))⟩
end Go.Proofs.YtoppncpmfajbcaaGreatDoor
namespace Go.Proofs.YtoppncpmfajbcaaGreatDoor
open Go.RowKit
set_option maxRecDepth 20000 in
set_option maxHeartbeats 8000000 in
theorem rsame_any {B g1 o1 c1 g2 o2 c2 cp1 cp2 i0 i1 : Nat} {A1 A2 : Option Addr} {nd : GNode} (hk : nd.keys = []) (hi : nd.items = []) (w : World) (h1 : GRd w B g1 o1 [nd]) (h2 : GRd w B g2 o2 [nd]) (hA1 : PRd w A1 (ixP [i0, i1])) (hA2 : PRd w A2 (ixP [i0, i1])) :
  Calls Tryz.prog 12 #[.agg #[.int .i64 1, .slice A1 2 cp1, .slice (some ⟨g1, o1, none⟩) 1 c1, .int .i64 0], .agg #[.int .i64 1, .slice A2 2 cp2, .slice (some ⟨g2, o2, none⟩) 1 c2, .int .i64 0]] w fun e w' => e = .returned (.bool true) ∧ Below w.heap.size w w' := by
 obtain ⟨q2, q3, hb1, hz1⟩ := box2 w 28 28 [.int .i64 1, .slice A1 2 cp1, .slice (some ⟨g1, o1, none⟩) 1 c1, .int .i64 0] [.int .i64 1, .slice A2 2 cp2, .slice (some ⟨g2, o2, none⟩) 1 c2, .int .i64 0]
 have H1 := Lib.hid (h1.below hb1 h1.2.1)
 have H2 := Lib.hid (h2.below hb1 h2.2.1)
 have HA1 := Lib.hid (hA1.keep hb1)
 have HA2 := Lib.hid (hA2.keep hb1)
 have hBw := h1.2.1
 have HK := Lib.hid hk
 have HI := Lib.hid hi
 clear h1 h2 hA1 hA2 hk hi
 go_enter Tryz.func12, Tryz.ntmps12
 go_upto_region 1 with (fail)
 obtain ⟨gb, hgb⟩ : ∃ x, w.heap.size = x := ⟨_, rfl⟩
 have HGB := Lib.hid hgb
 have HB1 := Lib.hid hb1
 generalize ((w.alloc (.cells #[.int .i64 1, .slice A1 2 cp1, .slice (some ⟨g1, o1, none⟩) 1 c1, .int .i64 0] 28)).alloc (.cells #[.int .i64 1, .slice A2 2 cp2, .slice (some ⟨g2, o2, none⟩) 1 c2, .int .i64 0] 28)) = W at *
 rw [hgb] at q2 q3 hz1 HB1 hBw ⊢
 clear hgb hb1
 have hgl := q3.out.lt
 have a0 := q2.out.cell' (i := 0) rfl
 have a1 := q2.out.cell' (i := 1) rfl
 have a2 := q2.out.cell' (i := 2) rfl
 have a3 := q2.out.cell' (i := 3) rfl
 have b0 := q3.out.cell' (i := 0) rfl
 have b1 := q3.out.cell' (i := 1) rfl
 have b2 := q3.out.cell' (i := 2) rfl
 have b3 := q3.out.cell' (i := 3) rfl
 have D := Lib.hid (ridentical_leaf (c1 := c1) (c2 := c2) HK.out HI.out W H1.out H2.out)
 go_upto_region 3 with (go_at_call 29; ((with_reducible refine D.out.mono ?_)); rintro e w2 ⟨rfl, hb2⟩)
 have q2b := Lib.hid (q2.out.keep hb2)
 have q3b := Lib.hid (q3.out.keep hb2)
 have HA1b := Lib.hid (HA1.out.keep hb2)
 have HA2b := Lib.hid (HA2.out.keep hb2)
 have HB2 := Lib.hid (HB1.out.trans (hb2.mono (by omega)))
 clear a0 a1 a2 a3 b0 b1 b2 b3 D q2 q3 HB1 HA1 HA2 hb2 H1 H2 hz1
 have a1 := q2b.out.cell' (i := 1) rfl
 have b1 := q3b.out.cell' (i := 1) rfl
 obtain ⟨_, ad1, e1, s0, s1⟩ := HA1b.out 0 _ (ixP_get (idxs := [i0, i1]) (i := 0) (by simp))
 obtain ⟨_, ad1', e1', s2, s3⟩ := HA1b.out 1 _ (ixP_get (idxs := [i0, i1]) (i := 1) (by simp))
 subst e1
 obtain rfl := Option.some.inj e1'
 obtain ⟨_, ad2, e2, t0, t1⟩ := HA2b.out 0 _ (ixP_get (idxs := [i0, i1]) (i := 0) (by simp))
 obtain ⟨_, ad2', e2', t2, t3⟩ := HA2b.out 1 _ (ixP_get (idxs := [i0, i1]) (i := 1) (by simp))
 subst e2
 obtain rfl := Option.some.inj e2'
 rw [Nat.zero_mul, show ad1.add 0 = ad1 from by unfold Addr.add; split <;> simp_all] at s0 s1
 rw [Nat.zero_mul, show ad2.add 0 = ad2 from by unfold Addr.add; split <;> simp_all] at t0 t1
 have s0' : w2.cell? ad1 = some (.int .i64 (i0 : Int)) := s0
 have s1' : w2.cell? ⟨ad1.block, ad1.off + 1, none⟩ = some (.string (mks [])) := s1
 have s2' : w2.cell? ⟨ad1.block, ad1.off + 2, none⟩ = some (.int .i64 (i1 : Int)) := s2
 have s3' : w2.cell? ⟨ad1.block, ad1.off + 2 + 1, none⟩ = some (.string (mks [])) := s3
 have t0' : w2.cell? ad2 = some (.int .i64 (i0 : Int)) := t0
 have t1' : w2.cell? ⟨ad2.block, ad2.off + 1, none⟩ = some (.string (mks [])) := t1
 have t2' : w2.cell? ⟨ad2.block, ad2.off + 2, none⟩ = some (.int .i64 (i1 : Int)) := t2
 have t3' : w2.cell? ⟨ad2.block, ad2.off + 2 + 1, none⟩ = some (.string (mks [])) := t3
 clear s0 s1 s2 s3 t0 t1 t2 t3 HA1b HA2b
 go_upto_region 4 with (fail)
 go_loopw [5] (fun v wr => ∃ i : Nat, i ≤ 2 ∧ v = .int .i64 (i : Int) ∧ Hid (Below w2.heap.size w2 wr)) (fun v _ => 2 - (intOf v).toNat)
 case atStart => exact ⟨0, by omega, rfl, Below.refl _ _⟩
 case round =>
  obtain ⟨i, hi2, rfl, hBr⟩ := hrel
  have kc : ∀ {a : Addr} {u : Value}, w2.cell? a = some u → wr.cell? a = some u := fun h => (hBr.out.cell (block_lt_of_cell h)).trans h
  have a1r := kc a1
  have b1r := kc b1
  have s0r := kc s0'
  have s1r := kc s1'
  have s2r := kc s2'
  have s3r := kc s3'
  have t0r := kc t0'
  have t1r := kc t1'
  have t2r := kc t2'
  have t3r := kc t3'
  clear kc a1 b1 s0' s1' s2' s3' t0' t1' t2' t3'
  by_cases h2 : i < 2
  ·have hi01 : i = 0 ∨ i = 1 := by omega
   rcases hi01 with rfl | rfl
   ·go_upto_region 6 with (fail)
    go_quiet (fail)
    have hB' := Lib.hid (Below.drewN' hBr.out nq)
    go_wp2_with (fail)
    go_roundw
    case rel => exact ⟨1, by omega, rfl, hB'⟩
    case measure => simp [intOf]
   ·go_upto_region 6 with (fail)
    go_quiet (fail)
    have hB' := Lib.hid (Below.drewN' hBr.out nq)
    go_wp2_with (fail)
    go_roundw
    case rel => exact ⟨2, by omega, rfl, hB'⟩
    case measure => simp [intOf]
  ·obtain rfl : i = 2 := by omega
   go_wp2
   go_ret
   exact ⟨rfl, by rw [HGB.out]; exact HB2.out.trans (hBr.out.mono (by have := q3b.out.lt; omega))⟩
end Go.Proofs.YtoppncpmfajbcaaGreatDoor
namespace Go.Proofs.YtoppncpmfajbcaaGreatDoor
open Go.RowKit
theorem by_dec {s : List Nat} (h : s.all (fun c => decide (c < 256)) = true) : By s := fun c hc => of_decide_eq_true (List.all_eq_true.1 h c hc)
theorem all_of {n : Nat} {p : Nat → Bool} (h : (List.range n).all p = true) {k : Nat} (hk : k < n) : p k = true := List.all_eq_true.1 h k (List.mem_range.2 hk)
def ndB (N : List GNode) (nd : GNode) : Bool :=
 nd.text.all (fun c => decide (c < 256)) && (decide (nd.keys.length ≤ 65536 ∧ nd.items.length ≤ 65536 ∧ nd.text.length ≤ 100000 ∧ (nd.kind = 0 ∨ nd.kind = 1 ∨ nd.kind = 2 ∨ nd.kind = 3 ∨ nd.kind = 5 ∨ nd.kind = 9 ∨ nd.kind = 10)) && nd.keys.all fun x => decide ((ndAt N x.toNat).keys = [] ∧ (ndAt N x.toNat).items = []))
def endB (N : List GNode) : Bool := match compV N 0 with
 | some s => decide (s.inn.length = N.length ∧ s.sizes.length ≤ 65536) && ((List.range N.length).all (fun i => decide (0 ≤ s.inn.getD i 0 ∧ s.inn.getD i 0 < (s.sizes.length : Int))) && s.sizes.all fun x => decide (0 ≤ x ∧ x ≤ 65536))
 | none => false
theorem endB_ok {N : List GNode} (h : endB N = true) : ∃ s, compV N 0 = some s ∧ EndT N s := by
 unfold endB at h
 split at h
 ·rename_i s e
  rw [Bool.and_eq_true, Bool.and_eq_true] at h
  obtain ⟨h1, h2, h3⟩ := h
  have h1 := of_decide_eq_true h1
  refine ⟨s, e, h1.1, fun i hi => of_decide_eq_true (all_of h2 hi), fun c => ?_, h1.2⟩
  rw [List.getD_eq_getElem?_getD]
  cases hc : s.sizes[c]? with
  | none => simp
  | some x => exact of_decide_eq_true (List.all_eq_true.1 h3 x (List.mem_of_getElem? hc))
 ·cases h
theorem ck_ok {N : List GNode} (h0 : decide (0 < N.length ∧ N.length ≤ 4096) = true) (h1 : (List.range N.length).all (fun i => ndB N (ndAt N i)) = true) (h2 : endB N = true) : ChkOK N 0 := by
 have h0 := of_decide_eq_true h0
 have hn : ∀ i, i < N.length → By (ndAt N i).text ∧ ((ndAt N i).keys.length ≤ 65536 ∧ (ndAt N i).items.length ≤ 65536 ∧ (ndAt N i).text.length ≤ 100000 ∧ ((ndAt N i).kind = 0 ∨ (ndAt N i).kind = 1 ∨ (ndAt N i).kind = 2 ∨ (ndAt N i).kind = 3 ∨ (ndAt N i).kind = 5 ∨ (ndAt N i).kind = 9 ∨ (ndAt N i).kind = 10)) ∧ ∀ x ∈ (ndAt N i).keys, Leaf (ndAt N x.toNat) := fun i hi => by
  have h := all_of h1 hi
  unfold ndB at h
  rw [Bool.and_eq_true, Bool.and_eq_true] at h
  exact ⟨by_dec h.1, of_decide_eq_true h.2.1, fun x hx => (show (ndAt N x.toNat).keys = [] ∧ (ndAt N x.toNat).items = [] from of_decide_eq_true (List.all_eq_true.1 h.2.2 x hx))⟩
 exact {
  n0 := h0.1
  n1 := h0.2
  nl := fun i hi => ⟨(hn i hi).2.1.1, (hn i hi).2.1.2.1⟩
  tw := {
   leaf := fun i hi => (hn i hi).2.2
   by_ := fun i hi => (hn i hi).1
   wf := fun i hi => by rcases (hn i hi).2.1.2.2.2 with e | e | e | e | e | e | e <;> rw [e] <;> decide
   len := fun i hi => by have := (hn i hi).2.1.2.2.1; rw [size_mks]; unfold maxLen; omega }
  sc := fun i hi => by
   have hk := (hn i hi).2.1.2.2.2
   have ht := (hn i hi).1
   have hl := (hn i hi).2.1.2.2.1
   generalize ndAt N i = nd at *
   refine ⟨by omega, fun h9 h10 => ?_⟩
   unfold scV
   rcases hk with e | e | e | e | e | e | e
   ·rw [e]; exact scal_null _
   ·rw [e]; exact scal_bool _ ht
   ·rw [e]; exact scal_int _ ht
   ·rw [e]; exact scal_dec _ ht (by omega)
   ·rw [e]; exact scal_text _ (by omega)
   ·exact absurd e h9
   ·exact absurd e h10
  dp := fun _ _ => endB_ok h2 }
def cInt (d : Nat) : GNode := ⟨2, [d], false, [], []⟩
def cList (l : List Int) : GNode := ⟨9, [], false, [], l⟩
def cG0 : List GNode := [cList [1, 1], cList [2], cInt 55]
theorem cG0_ck : ChkOK cG0 0 := ck_ok (by kernel_rfl) (by kernel_rfl) (by kernel_rfl)
theorem cG0_z : chkV cG0 0 = 0 := by kernel_rfl
def cH : List GNode := [cList [1, 3], cList [2], cInt 56, cList [4], cInt 55]
theorem cH_ck : ChkOK cH 0 := ck_ok (by kernel_rfl) (by kernel_rfl) (by kernel_rfl)
theorem cH_z : chkV cH 0 = 0 := by kernel_rfl
theorem cH_d : (depthR cH 0).2 = true := by kernel_rfl
theorem cH_len : lenV cH 6 0 (List.replicate 5 (-1)) = some [9, 3, 1, 3, 1] := by kernel_rfl
theorem cH_wr : writeV cH 6 0 (List.replicate 5 false, []) = some ([true, true, false, true, false], [91, 91, 56, 93, 44, 91, 55, 93, 93]) := by kernel_rfl
theorem cG0_sub : keptN cG0 (reachedV cG0 2 (noMarks 3)) (keptA (reachedV cG0 2 (noMarks 3))) 3 = [cInt 55] := by kernel_rfl
theorem cTab : tabC cG0 [cInt 56] 0 0 1 0 0 = cG0 ++ [cList [4, 1], cList [5], cInt 56] := by kernel_rfl
def cT : List GNode := [cList [1, 1], cList [2], cInt 55, cList [4, 1], cList [5], cInt 56]
theorem cT_vis : visC cT 7 3 (noMarks 6, []) = some ([false, true, true, true, true, true], [3, 4, 5, 1, 2]) := by kernel_rfl
theorem cT_out : outC cT [3, 4, 5, 1, 2] = cH := by kernel_rfl
theorem cG0_lead : leadL cG0 0 [0] 1 = [0, 1] := by kernel_rfl
theorem cG0_lead2 : leadL cG0 0 [0, 0] 2 = [0, 1, 2] := by kernel_rfl
end Go.Proofs.YtoppncpmfajbcaaGreatDoor
namespace Go.Proofs.YtoppncpmfajbcaaGreatDoor
open Go.RowKit
theorem idx_dec {N : List GNode} (h : (List.range N.length).all (fun k => (refs (ndAt N k)).all (fun x => decide (0 ≤ x ∧ x < (N.length : Int)))) = true) : Idx N := fun _ hk x hx =>
 of_decide_eq_true (List.all_eq_true.1 (all_of h hk) x hx)
theorem nl_dec {N : List GNode} (h : (List.range N.length).all (fun k => decide ((ndAt N k).keys.length ≤ 65536 ∧ (ndAt N k).items.length ≤ 65536)) = true) : NL 65536 N := fun _ hk => of_decide_eq_true (all_of h hk)
theorem norm_dec {N : List GNode} (h1 : (List.range N.length).all (fun k => (refs (ndAt N k)).all (fun x => decide (0 ≤ x ∧ x < (N.length : Int)))) = true) (h2 : (List.range N.length).all (fun k => decide ((ndAt N k).keys.length ≤ 65536 ∧ (ndAt N k).items.length ≤ 65536)) = true) (h3 : N.length ≤ 4096) (h4 : (List.range N.length).all (fun k => decide (¬ (ndAt N k).kind = 10)) = true) : NormOK N where
 idx := idx_dec h1
 nl := nl_dec h2
 len := h3
 ent := fun _ hk h10 _ => absurd h10 (of_decide_eq_true (all_of h4 hk))
 key := fun k hk h10 => absurd h10 (of_decide_eq_true (all_of h4 hk))
theorem cG0_idx : Idx cG0 := idx_dec (by kernel_rfl)
theorem cG0_nl : NL 65536 cG0 := nl_dec (by kernel_rfl)
theorem cG0_nok : NormOK cG0 := norm_dec (by kernel_rfl) (by kernel_rfl) (by decide) (by kernel_rfl)
theorem cG0_nv : NormV cG0 0 cG0 := ⟨0, ⟨[0, 1, 2], 3, cG0⟩, by kernel_rfl, rfl⟩
theorem cN_idx (d : Nat) : Idx [cInt d] := fun k hk x hx => by
 have hk1 : k < 1 := hk
 obtain rfl : k = 0 := by omega
 simp [ndAt, cInt, refs] at hx
theorem cN_nl (d : Nat) : NL 65536 [cInt d] := fun k hk => by
 have hk1 : k < 1 := hk
 obtain rfl : k = 0 := by omega
 simp [ndAt, cInt]
theorem c7_ck : ChkOK [cInt 55] 0 := ck_ok (by kernel_rfl) (by kernel_rfl) (by kernel_rfl)
theorem c8_ck : ChkOK [cInt 56] 0 := ck_ok (by kernel_rfl) (by kernel_rfl) (by kernel_rfl)
theorem c1_ck : ChkOK [cInt 49] 0 := ck_ok (by kernel_rfl) (by kernel_rfl) (by kernel_rfl)
theorem c7_z : chkV [cInt 55] 0 = 0 := by kernel_rfl
theorem c8_z : chkV [cInt 56] 0 = 0 := by kernel_rfl
theorem c1_z : chkV [cInt 49] 0 = 0 := by kernel_rfl
theorem cH_nok : NormOK cH := norm_dec (by kernel_rfl) (by kernel_rfl) (by decide) (by kernel_rfl)
theorem cH_nv : NormV cH 0 cH := ⟨0, ⟨[0, 1, 2, 3, 4], 5, cH⟩, by kernel_rfl, rfl⟩
theorem cT_nc : NormalC (tabC cG0 [cInt 56] 0 0 1 0 0) 3 [3, 4, 5, 1, 2] cH := by
 rw [cTab]
 show NormalC cT 3 [3, 4, 5, 1, 2] cH
 exact {
  idx := idx_dec (by kernel_rfl)
  nl := nl_dec (by kernel_rfl)
  len := by decide
  root := by decide
  vis := ⟨_, cT_vis⟩
  lin := by decide
  ll := by decide
  l0 := by decide
  nok := by rw [cT_out]; exact cH_nok
  cok := by rw [cT_out]; exact cH_ck
  zero := by rw [cT_out]; exact cH_z
  nv := by rw [cT_out]; exact cH_nv }
theorem lead_dec {N : List GNode} {r : Nat} {idxs : List Nat} (h : (List.range idxs.length).all (fun i => decide (atN N r idxs i < N.length ∧ (ndAt N (atN N r idxs i)).kind = 9 ∧ idxs.getD i 0 < (ndAt N (atN N r idxs i)).items.length ∧ idxs.getD i 0 ≤ 65536)) = true) : LeadOK N r idxs := fun _ hi => of_decide_eq_true (all_of h hi)
theorem c_built : BuiltC cG0 [cInt 56] 0 0 0 1 0 0 [3, 4, 5, 1, 2] cH where
 idx := cG0_idx
 nl := cG0_nl
 len := by decide
 rt := by decide
 midx := cN_idx 56
 mnl := cN_nl 56
 mlen := by decide
 mrt := by decide
 hx0 := by decide
 hx1 := by decide
 k9 := by kernel_rfl
 e0 := by kernel_rfl
 e1 := by kernel_rfl
 hi0 := by decide
 hi1 := by decide
 nc := cT_nc
theorem c_perf : PerfC cG0 [cInt 56] 0 0 0 1 0 0 [3, 4, 5, 1, 2] cH where
 b := c_built
 lead := lead_dec (by kernel_rfl)
 ll := cG0_lead
 k91 := by kernel_rfl
 cN := cG0_ck
 zN := cG0_z
 cM := c8_ck
 zM := c8_z
theorem c_apply : ApplyC cG0 cG0 [cInt 56] 0 0 0 1 0 0 [3, 4, 5, 1, 2] cH where
 ok := cG0_nok
 ck := cG0_ck
 zk := cG0_z
 rt := by decide
 nv := cG0_nv
 pf := c_perf
theorem c_sub : SubC cG0 0 2 [cInt 55] 0 where
 ok := cG0_ck
 zero := cG0_z
 kept := {
  idx := cG0_idx
  nl := cG0_nl
  len := by decide
  root := by decide
  eq := cG0_sub
  pos := by decide
  rt := by kernel_rfl }
theorem c_val : ValC cG0 0 0 1 2 0 0 [cInt 55] 0 [cInt 55] where
 idx := cG0_idx
 nl := cG0_nl
 len := by decide
 rt := by decide
 lead := lead_dec (by kernel_rfl)
 ll := cG0_lead2
 sub := c_sub
 ok := norm_dec (by kernel_rfl) (by kernel_rfl) (by decide) (by kernel_rfl)
 ck := c7_ck
 zk := c7_z
 r0 := by decide
 nv := ⟨0, ⟨[0], 1, [cInt 55]⟩, by kernel_rfl, rfl⟩
theorem c_ins : InsC cG0 [cInt 49] 0 0 3 where
 idx := cG0_idx
 nl := cG0_nl
 len := by decide
 rt := by decide
 mrt := by decide
 k9 := by kernel_rfl
 out := by decide
 ix := by decide
 cN := cG0_ck
 zN := cG0_z
 cM := c1_ck
 zM := c1_z
theorem cH_by : (List.range cH.length).all (fun k => (ndAt cH k).text.all (fun c => decide (c < 256))) = true := by kernel_rfl
theorem c_key : CKeyC cH 0 [9, 3, 1, 3, 1] [true, true, false, true, false] [91, 91, 56, 93, 44, 91, 55, 93, 93] where
 idx := idx_dec (by kernel_rfl)
 nl := nl_dec (by kernel_rfl)
 by_ := fun k => by
  by_cases hk : k < cH.length
  ·exact by_dec (all_of cH_by hk)
  ·unfold ndAt
   rw [List.getD_eq_getElem?_getD, List.getElem?_eq_none (by omega)]
   exact by_dec (by rfl)
 len := by decide
 rt := by decide
 ck := cH_ck
 zk := cH_z
 dk := cH_d
 ln := cH_len
 lk := by decide
 wr := cH_wr
 bo := by_dec (by rfl)
theorem t_cx : touV 1 (ixP [0, 0]) 2 (ixP [3]) = true := by kernel_rfl
theorem t_cy : touV 1 (ixP [0, 0]) 1 (ixP [1]) = false := by kernel_rfl
end Go.Proofs.YtoppncpmfajbcaaGreatDoor
