/- value, define and content of cbor's parser, for every fuel; the walks of source's closure and of slices.ContainsFunc over it. -/
import Derived.Test.YtbhigefbihpnlaaGreatDoorMAu
import Derived.Test.YtbhigefbihpnlaaGreatDoorMAv
import Derived.Test.YtbhigefbihpnlaaGreatDoorMAx
import Derived.Test.YtbhigefbihpnlaaGreatDoorMAl
set_option linter.unusedVariables false
set_option linter.unusedSimpArgs false
set_option linter.defProp false
set_option linter.constructorNameAsVariable false
namespace Go.Proofs.YtbhigefbihpnlaaGreatDoor
open Go.RowKit
theorem rec_cb (f : Nat) : (∀ g, g ≤ f → ValH g) ∧ DefH f ∧ ConH f := by
 induction f with
 | zero =>
  refine ⟨fun g hg => ?_, ?_, content_cb 0 (fun g hg => absurd hg (by omega))⟩
  ·obtain rfl : g = 0 := by omega
   intro s w B vn vs vh vm ncs lab st h sp d _ _ _ _ hne
   exact absurd (by unfold valueC; rfl) hne
  ·intro s w B vn vs vh vm ncs lab st h fr span d la lb pb _ _ _ _ _ _ _ _ hne
   exact absurd (by unfold defineC; rfl) hne
 | succ f ih =>
  have hv : ∀ g, g ≤ f + 1 → ValH g := fun g hg => by
   by_cases e : g ≤ f
   ·exact ih.1 g e
   ·obtain rfl : g = f + 1 := by omega
    exact value_cb f ih.2.1
  exact ⟨hv, define_cb f ih.2.2, content_cb (f + 1) (fun g hg => hv g (by omega))⟩
theorem val_cb (f : Nat) : ValH f := (rec_cb f).1 f (Nat.le_refl _)
def inSp (fr to_ at_ : Int) : Bool := decide (fr ≤ at_) && decide (at_ < to_)
set_option maxRecDepth 20000 in
set_option maxHeartbeats 4000000 in
theorem src1_cb {x g o : Nat} {fr to_ z : Int} (w : World) (hx : w.cell? ⟨x, 0, none⟩ = some (.pointer (some ⟨g, o, none⟩))) (h3 : w.cell? ⟨g, o + 3, none⟩ = some (.int .i64 fr)) (h4 : w.cell? ⟨g, o + 4, none⟩ = some (.int .i64 to_)) :
  Calls Tryz.prog 24 #[.int .i64 z, .pointer (some ⟨x, 0, none⟩)] w fun e w' => e = .returned (.bool (inSp fr to_ z)) ∧ w' = w := by
 by_cases h1 : fr ≤ z
 ·by_cases h2 : z < to_
  ·rw [show inSp fr to_ z = true by unfold inSp; rw [decide_eq_true h1, decide_eq_true h2]; rfl]
   go_enter Tryz.func24, Tryz.ntmps24
   go_wp2
   go_ret
   exact ⟨rfl, rfl⟩
  ·rw [show inSp fr to_ z = false by unfold inSp; rw [decide_eq_false h2, Bool.and_false]]
   go_enter Tryz.func24, Tryz.ntmps24
   go_wp2
   go_ret
   exact ⟨rfl, rfl⟩
 ·rw [show inSp fr to_ z = false by unfold inSp; rw [decide_eq_false h1, Bool.false_and]]
  go_enter Tryz.func24, Tryz.ntmps24
  go_wp2
  go_ret
  exact ⟨rfl, rfl⟩
set_option maxRecDepth 20000 in
set_option maxHeartbeats 8000000 in
theorem cont2_cb {x g o ck : Nat} {fr to_ : Int} {K : Option Addr} {ks : List Int} (w : World) (hx : w.cell? ⟨x, 0, none⟩ = some (.pointer (some ⟨g, o, none⟩))) (h3 : w.cell? ⟨g, o + 3, none⟩ = some (.int .i64 fr)) (h4 : w.cell? ⟨g, o + 4, none⟩ = some (.int .i64 to_))
  (hl : ks.length ≤ 65537) (hK : Rd w K (I64 ks)) :
  Calls Tryz.prog 23 #[.slice K ks.length ck, .func (.func 24) #[] #[.pointer (some ⟨x, 0, none⟩)]] w fun e w' => e = .returned (.bool (ks.any (inSp fr to_))) ∧ w' = w := by
 have D := Lib.hid (fun (z : Int) => src1_cb (z := z) w hx h3 h4)
 have HK := Lib.hid hK
 obtain ⟨m, hm⟩ : ∃ m, ks.length = m := ⟨_, rfl⟩
 have hml : m ≤ 65537 := by omega
 have HM := Lib.hid hm
 have hix : Hid (Calls Tryz.prog 43 #[.slice K m ck, .func (.func 24) #[] #[.pointer (some ⟨x, 0, none⟩)]] w fun e w' => (∃ r : Int, e = .returned (.int .i64 r) ∧ decide (r ≥ 0) = ks.any (inSp fr to_)) ∧ w' = w) := by
  clear hK hx h3 h4 hm hl
  go_enter Tryz.func43, Tryz.ntmps43
  go_wp2_with (fail)
  go_loopw [8] (fun v wr => ∃ i : Nat, i ≤ m ∧ v = .int .i64 (i : Int) ∧ Hid ((ks.take i).any (inSp fr to_) = false) ∧ Hid (wr = w)) (fun v _ => m - (intOf v).toNat)
  case atStart => exact ⟨0, Nat.zero_le _, rfl, rfl, rfl⟩
  case round =>
   obtain ⟨i, hi, rfl, hno, hwr⟩ := hrel
   have hwr' := hwr.out
   subst hwr'
   by_cases him : i = m
   ·have hi' : ¬ (i : Int) < m := by omega
    have hh : ks.any (inSp fr to_) = false := by
     have h := hno.out
     rwa [List.take_of_length_le (by have := HM.out; omega)] at h
    clear hno
    go_wp2_with (fail)
    go_ret
    exact ⟨⟨-1, rfl, by first | decide | (rw [hh]; rfl)⟩, rfl⟩
   ·have hi' : (i : Int) < m := by omega
    have i0 : (0 : Int) ≤ i := by omega
    have him' : i < ks.length := by have := HM.out; omega
    obtain ⟨z, hz⟩ : ∃ z, ks[i]? = some z := ⟨_, List.getElem?_eq_getElem him'⟩
    obtain ⟨ad, rfl, hc⟩ := HK.out.at_ (I64_get hz)
    have Dk := Lib.hid (D.out z)
    have hst : (ks.take (i + 1)).any (inSp fr to_) = inSp fr to_ z := by
     have h := hno.out
     rw [List.take_add_one, List.any_append, h, hz]
     simp
    have HST := Lib.hid hst
    have hsub : (ks.take (i + 1)).any (inSp fr to_) = true → ks.any (inSp fr to_) = true := by
     intro h
     rw [List.any_eq_true] at h ⊢
     obtain ⟨z, h1, h2⟩ := h
     exact ⟨z, List.mem_of_mem_take h1, h2⟩
    have HSUB := Lib.hid hsub
    obtain ⟨b, hbb⟩ : ∃ b, inSp fr to_ z = b := ⟨_, rfl⟩
    rw [hbb] at Dk HST
    clear hz hst hsub hbb hno him'
    cases b
    ·go_wp2_with (go_at_call 24; ((with_reducible refine Dk.out.mono ?_)); rintro e w2 ⟨rfl, rfl⟩)
     go_round
     case rel => exact ⟨i + 1, by omega, i64e (by omega), HST, by first | exact Lib.hid rfl | exact Lib.hid trivial⟩
     case measure => simp [intOf]; omega
    ·go_wp2_with (go_at_call 24; ((with_reducible refine Dk.out.mono ?_)); rintro e w2 ⟨rfl, rfl⟩)
     go_ret
     exact ⟨⟨(i : Int), rfl, by have h5 := HSUB.out HST.out; first | (rw [h5]; exact decide_eq_true i0) | (simp [h5]; done) | (simp [h5]; omega)⟩, rfl⟩
 rw [hm]
 clear hK hx h3 h4 hm hl D
 go_enter Tryz.func23, Tryz.ntmps23
 obtain ⟨V, hV⟩ : ∃ V, ks.any (inSp fr to_) = V := ⟨_, rfl⟩
 rw [hV] at hix ⊢
 clear hV
 go_wp2_with (go_at_call 43; ((with_reducible refine hix.out.mono ?_)); rintro e w2 ⟨⟨r, rfl, hr⟩, rfl⟩; have HR := Lib.hid hr; clear hr)
 go_ret
 exact ⟨by rw [← HR.out]; rfl, rfl⟩
end Go.Proofs.YtbhigefbihpnlaaGreatDoor
namespace Go.Proofs.YtbhigefbihpnlaaGreatDoor
open Go.RowKit
structure VE (w : World) (B g o c xb gb vb mb : Nat) (nodes : List GNode) (root : Int) : Prop where
 gr : GRd w B g o nodes
 bx : Arr w xb 85 [.slice (some ⟨mb, 0, none⟩) nodes.length nodes.length]
 bg : Arr w gb 26 [.slice (some ⟨g, o, none⟩) nodes.length c, .int .i64 root]
 bv : Arr w vb 113 [.func (.func 44) #[] #[.pointer (some ⟨xb, 0, none⟩), .pointer (some ⟨gb, 0, none⟩), .pointer (some ⟨vb, 0, none⟩)]]
 lo : B ≤ mb
 nx : xb ≠ mb
 ng : gb ≠ mb
 nv : vb ≠ mb
theorem VE.grown {w w' : World} {B g o c xb gb vb mb : Nat} {nodes : List GNode} {root : Int} (h : VE w B g o c xb gb vb mb nodes root) (hb : w.grownBy w' (some mb)) : VE w' B g o c xb gb vb mb nodes root :=
 ⟨h.gr.grown hb h.lo, h.bx.grown hb (by intro e; exact h.nx (Option.some.inj e)), h.bg.grown hb (by intro e; exact h.ng (Option.some.inj e)), h.bv.grown hb (by intro e; exact h.nv (Option.some.inj e)), h.lo, h.nx, h.ng, h.nv⟩
def VisC (w : World) (mb : Nat) (m : List Bool) (e : Ending) (w' : World) : Prop := e = .returned (.tuple #[]) ∧ w.grownBy w' (some mb) ∧ Hid (Arr w' mb 4 (Bs m))
theorem visitV_len {nodes : List GNode} {f : Nat} {x : Int} {m m' : List Bool} (h : visitV nodes f x m = some m') (hl : m.length = nodes.length) : m'.length = nodes.length := by
 induction f generalizing x m m' with
 | zero => cases h
 | succ f ih =>
  rw [visitV] at h
  split at h
  ·split at h
   ·rw [← Option.some.inj h]; exact hl
   ·have run : ∀ (xs : List Int) (a b : List Bool), runG (visitV nodes f) xs a = some b → a.length = nodes.length → b.length = nodes.length := by
     intro xs
     induction xs with
     | nil => intro a b e ha; rw [← Option.some.inj e]; exact ha
     | cons y xs ihx =>
      intro a b e ha
      rw [runG] at e
      split at e
      ·cases e
      ·rename_i a1 e1
       exact ihx a1 b e (ih e1 ha)
    split at h
    ·cases h
    ·rename_i m1 e1
     exact run _ _ _ h (run _ _ _ e1 (by rw [List.length_set]; exact hl))
  ·cases h
set_option maxRecDepth 20000 in
set_option maxHeartbeats 4000000 in
theorem visit_any {B g o c xb gb vb mb : Nat} {nodes : List GNode} {root : Int} (hI : Idx nodes) (hL : NL 65536 nodes) (f : Nat) : ∀ (k : Nat) (m m' : List Bool) (w : World), visitV nodes f (k : Int) m = some m' → m.length = nodes.length →
  VE w B g o c xb gb vb mb nodes root → Arr w mb 4 (Bs m) → Calls Tryz.prog 44 #[.int .i64 (k : Int), .pointer (some ⟨xb, 0, none⟩), .pointer (some ⟨gb, 0, none⟩), .pointer (some ⟨vb, 0, none⟩)] w (VisC w mb m') := by
 induction f with
 | zero => intro k m m' w h; cases h
 | succ f ih =>
  intro k m m' w h hl hE hM
  rw [visitV] at h
  split at h
  ·rename_i hin
   obtain ⟨_, hk2⟩ := inB_iff.1 hin
   have hk : k < nodes.length := by omega
   have hkl : (k : Int) < nodes.length := by omega
   have hk0 : (0 : Int) ≤ k := by omega
   rw [Int.toNat_natCast] at h
   have x0 := hE.bx.cell' (i := 0) rfl
   have m0 := hM.cell' (Bs_get (m := m) (k := k) (by omega))
   by_cases hm : m.getD k false = true
   ·rw [if_pos hm] at h
    obtain rfl := Option.some.inj h
    rw [hm] at m0
    go_enter Tryz.func44, Tryz.ntmps44
    go_wp2_with (fail)
    go_end0
    exact ⟨rfl, World.grownBy.refl _ _, hM⟩
   ·rw [if_neg hm] at h
    have hm' : m.getD k false = false := by simpa using hm
    rw [hm'] at m0
    have f0 := hM.frozen k
    have hM1 : Hid (Arr (w.setCell ⟨mb, k, none⟩ (.bool true)) mb 4 (Bs (m.set k true))) := by
     have := hM.store k (.bool true)
     rw [Bs_set] at this
     exact this
    have hg1 := grown_set w ⟨mb, k, none⟩ (.bool true)
    have hE1 := hE.grown hg1
    have HG := Lib.hid hg1
    go_enter Tryz.func44, Tryz.ntmps44
    go_upto_region 2 with (fail)
    clear m0 f0 x0 hm hm' hg1
    generalize w.setCell ⟨mb, k, none⟩ (.bool true) = w1 at *
    have hlm : (m.set k true).length = nodes.length := by rw [List.length_set]; exact hl
    obtain ⟨K, ck, I, ci, c0, c1, c2, c3, c4, ⟨hK, hKb⟩, hI', hIb⟩ := hE1.gr.of_at hk
    obtain ⟨hKl, hIl⟩ := hL k hk
    have g0 := hE1.bg.cell' (i := 0) rfl
    have hrefs := Lib.hid (hI k hk)
    have HK := Lib.hid hK
    have HI := Lib.hid hI'
    have HKB := Lib.hid hKb
    have HIB := Lib.hid hIb
    clear hKb hIb hK hI' c0 c1 c2 hin hk2
    generalize hnd : ndAt nodes k = nd at *
    generalize hmk : m.set k true = m0 at *
    cases hr : runG (visitV nodes f) nd.keys m0 with
    | none => rw [hr] at h; cases h
    | some mk =>
     rw [hr] at h
     have h2 : runG (visitV nodes f) nd.items mk = some m' := h
     have HR := Lib.hid hr
     have HH := Lib.hid h2
     have HLM := Lib.hid hlm
     clear h h2 hr hnd hmk hl hlm
     go_wp2_with (fail)
     go_loopw [23] (fun v wr => ∃ (j : Nat) (m1 : List Bool), j ≤ nd.keys.length ∧ v = .int .i64 (j : Int) ∧ Hid (runG (visitV nodes f) (nd.keys.drop j) m1 = some mk) ∧ Hid (m1.length = nodes.length) ∧ Hid (Arr wr mb 4 (Bs m1)) ∧ w1.grownBy wr (some mb)) (fun v _ => nd.keys.length - (intOf v).toNat)
     case atStart => exact ⟨0, m0, Nat.zero_le _, rfl, HR, HLM, hM1, World.grownBy.refl _ _⟩
     case round =>
      obtain ⟨j, m1, hj, rfl, hrun, hlm1, hMr, hgr⟩ := hrel
      have hEr := hE1.grown hgr
      by_cases hjl : j = nd.keys.length
      ·have hjl' : ¬ (j : Int) < nd.keys.length := by omega
       have hmk : m1 = mk := by
        have := hrun.out
        rw [List.drop_of_length_le (by omega)] at this
        exact Option.some.inj this
       subst hmk
       have g0' := hEr.bg.cell' (i := 0) rfl
       have hk4 : wr.cell? ⟨g, o + k * 5 + 4, none⟩ = some (.slice I nd.items.length ci) := hgr.cell c4 (by intro e; have e' : g = mb := Option.some.inj e; have := hE1.gr.1; have := hE1.lo; omega)
       have HI2 := Lib.hid (HI.out.grown hgr (fun ad e h => by have := HIB.out ad e; have := Option.some.inj h; have := hE1.lo; omega))
       clear hrun
       obtain ⟨wo, hwo⟩ : ∃ wo : World, wo = wr := ⟨_, rfl⟩
       subst hwo
       go_wp2_with (fail)
       go_loopw [38] (fun v wr => ∃ (j : Nat) (m1 : List Bool), j ≤ nd.items.length ∧ v = .int .i64 (j : Int) ∧ Hid (runG (visitV nodes f) (nd.items.drop j) m1 = some m') ∧ Hid (m1.length = nodes.length) ∧ Hid (Arr wr mb 4 (Bs m1)) ∧ wo.grownBy wr (some mb)) (fun v _ => nd.items.length - (intOf v).toNat)
       case atStart => exact ⟨0, m1, Nat.zero_le _, rfl, HH, hlm1, hMr, World.grownBy.refl _ _⟩
       case round =>
        obtain ⟨i, m3, hi, rfl, hrun, hlm3, hMs, hgs⟩ := hrel
        have hEs := hEr.grown hgs
        by_cases hil : i = nd.items.length
        ·have hil' : ¬ (i : Int) < nd.items.length := by omega
         have hm3 : m3 = m' := by
          have := hrun.out
          rw [List.drop_of_length_le (by omega)] at this
          exact Option.some.inj this
         subst hm3
         go_wp2_with (fail)
         go_end0
         exact ⟨rfl, grown_trans HG.out (grown_trans hgr hgs), hMs⟩
        ·have hil' : (i : Int) < nd.items.length := by omega
         obtain ⟨x, hx⟩ : ∃ x, nd.items[i]? = some x := ⟨_, List.getElem?_eq_getElem (by omega)⟩
         obtain ⟨ad, rfl, hc⟩ := (HI2.out.grown hgs (fun ad e h => by have := HIB.out ad e; have := Option.some.inj h; have := hE1.lo; omega)).at_ (I64_get hx)
         have hxr := hrefs.out x (by unfold refs; exact List.mem_append.2 (.inr (List.mem_of_getElem? hx)))
         obtain ⟨kx, rfl⟩ : ∃ kx : Nat, x = (kx : Int) := ⟨x.toNat, by omega⟩
         have hrun' := hrun.out
         rw [drop_cons_at hx, runG] at hrun'
         cases hv : visitV nodes f (kx : Int) m3 with
         | none => rw [hv] at hrun'; cases hrun'
         | some m2 =>
          rw [hv] at hrun'
          have HRUN := Lib.hid hrun'
          have D := Lib.hid (ih kx m3 m2 wr hv hlm3.out hEs hMs.out)
          have HL2 := Lib.hid (visitV_len hv hlm3.out)
          have v0 := hEs.bv.cell' (i := 0) rfl
          clear hrun hrun' hv hxr hrefs hx
          go_wp2_with (go_at_call 44; ((with_reducible refine D.out.mono ?_)); rintro e w2 ⟨rfl, hg2, hM2⟩)
          go_roundw
          case rel => exact ⟨i + 1, m2, by omega, i64e (by omega), HRUN, HL2, hM2, grown_trans hgs hg2⟩
          case measure => simp [intOf]; omega
      ·have hjl' : (j : Int) < nd.keys.length := by omega
       obtain ⟨x, hx⟩ : ∃ x, nd.keys[j]? = some x := ⟨_, List.getElem?_eq_getElem (by omega)⟩
       obtain ⟨ad, rfl, hc⟩ := (HK.out.grown hgr (fun ad e h => by have := HKB.out ad e; have := Option.some.inj h; have := hE1.lo; omega)).at_ (I64_get hx)
       have hxr := hrefs.out x (by unfold refs; exact List.mem_append.2 (.inl (List.mem_of_getElem? hx)))
       obtain ⟨kx, rfl⟩ : ∃ kx : Nat, x = (kx : Int) := ⟨x.toNat, by omega⟩
       have hrun' := hrun.out
       rw [drop_cons_at hx, runG] at hrun'
       cases hv : visitV nodes f (kx : Int) m1 with
       | none => rw [hv] at hrun'; cases hrun'
       | some m2 =>
        rw [hv] at hrun'
        have HRUN := Lib.hid hrun'
        have D := Lib.hid (ih kx m1 m2 wr hv hlm1.out hEr hMr.out)
        have HL2 := Lib.hid (visitV_len hv hlm1.out)
        have v0 := hEr.bv.cell' (i := 0) rfl
        clear hrun hrun' hv hxr hrefs hx
        go_wp2_with (go_at_call 44; ((with_reducible refine D.out.mono ?_)); rintro e w2 ⟨rfl, hg2, hM2⟩)
        go_roundw
        case rel => exact ⟨j + 1, m2, by omega, i64e (by omega), HRUN, HL2, hM2, grown_trans hgr hg2⟩
        case measure => simp [intOf]; omega
  ·cases h
set_option maxRecDepth 20000 in
set_option maxHeartbeats 4000000 in
theorem reached_any {B g o c mb : Nat} {nodes : List GNode} {root : Int} (hI : Idx nodes) (hL : NL 65536 nodes) (k : Nat) (hk : k < nodes.length) (m : List Bool) (w : World) (hl : m.length = nodes.length) (hG : GRd w B g o nodes) (hB : B ≤ mb) (hM : Arr w mb 4 (Bs m)) :
  Calls Tryz.prog 26 #[.agg #[.slice (some ⟨g, o, none⟩) nodes.length c, .int .i64 root], .int .i64 (k : Int), .slice (some ⟨mb, 0, none⟩) nodes.length nodes.length] w (VisC w mb (reachedV nodes (k : Int) m)) := by
 have hv := (reachedV_ok hI (at_ := (k : Int)) ⟨by omega, by omega⟩ hl).1
 have hmf : ∀ (fn : Fn) (first cap : Array Value) (w : World), (Instr.makeFunc fn first cap).run Tryz.prog w = .ok (.func fn first cap) w := fun _ _ _ _ => rfl
 have hml := hM.lt
 go_enter Tryz.func26, Tryz.ntmps26
 go_upto_region 2 with (fail)
 obtain ⟨h1, h2, h3, h4, _⟩ := box3 w 26 85 113 [.slice (some ⟨g, o, none⟩) nodes.length c, .int .i64 root] [.slice (some ⟨mb, 0, none⟩) nodes.length nodes.length] [.nilFunc]
 have hX : Hid (Arr (((w.alloc (.cells #[.slice (some ⟨g, o, none⟩) nodes.length c, .int .i64 root] 26)).alloc (.cells #[.slice (some ⟨mb, 0, none⟩) nodes.length nodes.length] 85)).alloc (.cells #[.nilFunc] 113)) w.heap.size 26 [.slice (some ⟨g, o, none⟩) nodes.length c, .int .i64 root]) := h1
 have hY : Hid (Arr (((w.alloc (.cells #[.slice (some ⟨g, o, none⟩) nodes.length c, .int .i64 root] 26)).alloc (.cells #[.slice (some ⟨mb, 0, none⟩) nodes.length nodes.length] 85)).alloc (.cells #[.nilFunc] 113)) (w.heap.size + 1) 85 [.slice (some ⟨mb, 0, none⟩) nodes.length nodes.length]) := h2
 have hZ : Hid (Arr (((w.alloc (.cells #[.slice (some ⟨g, o, none⟩) nodes.length c, .int .i64 root] 26)).alloc (.cells #[.slice (some ⟨mb, 0, none⟩) nodes.length nodes.length] 85)).alloc (.cells #[.nilFunc] 113)) (w.heap.size + 1 + 1) 113 [.nilFunc]) := h3
 have hB3 : Below w.heap.size w (((w.alloc (.cells #[.slice (some ⟨g, o, none⟩) nodes.length c, .int .i64 root] 26)).alloc (.cells #[.slice (some ⟨mb, 0, none⟩) nodes.length nodes.length] 85)).alloc (.cells #[.nilFunc] 113)) := h4
 clear h1 h2 h3 h4
 generalize (((w.alloc (.cells #[.slice (some ⟨g, o, none⟩) nodes.length c, .int .i64 root] 26)).alloc (.cells #[.slice (some ⟨mb, 0, none⟩) nodes.length nodes.length] 85)).alloc (.cells #[.nilFunc] 113)) = W at *
 obtain ⟨vb, hvb⟩ : ∃ b, w.heap.size + 1 + 1 = b := ⟨_, rfl⟩
 obtain ⟨xb, hxb⟩ : ∃ b, w.heap.size + 1 = b := ⟨_, rfl⟩
 obtain ⟨gb, hgb⟩ : ∃ b, w.heap.size = b := ⟨_, rfl⟩
 have l1 : mb < gb ∧ gb < xb ∧ xb < vb := by omega
 have hgb0 := Lib.hid hgb
 rw [hvb] at hZ ⊢
 rw [hxb] at hY ⊢
 rw [hgb] at hX ⊢
 have hBL := Lib.hid hB3
 clear hvb hxb hgb hB3
 obtain ⟨l2, l3, l4⟩ := l1
 have z0 := hZ.out.cell' (i := 0) rfl
 have zf := hZ.out.frozen 0
 have hZ1 : Hid (Arr (W.setCell ⟨vb, 0, none⟩ (.func (.func 44) #[] #[.pointer (some ⟨xb, 0, none⟩), .pointer (some ⟨gb, 0, none⟩), .pointer (some ⟨vb, 0, none⟩)])) vb 113 [.func (.func 44) #[] #[.pointer (some ⟨xb, 0, none⟩), .pointer (some ⟨gb, 0, none⟩), .pointer (some ⟨vb, 0, none⟩)]]) := hZ.out.store 0 _
 have hX1 := Lib.hid (hX.out.far (p := ⟨vb, 0, none⟩) (show gb ≠ vb by omega) (.func (.func 44) #[] #[.pointer (some ⟨xb, 0, none⟩), .pointer (some ⟨gb, 0, none⟩), .pointer (some ⟨vb, 0, none⟩)]))
 have hY1 := Lib.hid (hY.out.far (p := ⟨vb, 0, none⟩) (show xb ≠ vb by omega) (.func (.func 44) #[] #[.pointer (some ⟨xb, 0, none⟩), .pointer (some ⟨gb, 0, none⟩), .pointer (some ⟨vb, 0, none⟩)]))
 have hB4 := Lib.hid (hBL.out.setCell (p := ⟨vb, 0, none⟩) (by show w.heap.size ≤ vb; rw [hgb0.out]; omega) (.func (.func 44) #[] #[.pointer (some ⟨xb, 0, none⟩), .pointer (some ⟨gb, 0, none⟩), .pointer (some ⟨vb, 0, none⟩)]))
 clear hX hY hZ hBL
 go_upto_region 3 with (fail)
 clear z0 zf
 generalize W.setCell ⟨vb, 0, none⟩ (.func (.func 44) #[] #[.pointer (some ⟨xb, 0, none⟩), .pointer (some ⟨gb, 0, none⟩), .pointer (some ⟨vb, 0, none⟩)]) = W4 at *
 have hE : VE W4 B g o c xb gb vb mb nodes root := ⟨hG.below hB4.out (by omega), hY1.out, hX1.out, hZ1.out, hB, by omega, by omega, by omega⟩
 have D := Lib.hid (visit_any hI hL (nodes.length + 1) k m (reachedV nodes (k : Int) m) W4 hv hl hE (hM.below hB4.out hml))
 have v0 := hZ1.out.cell' (i := 0) rfl
 have hgw : w.grownBy W4 (some mb) := ⟨hB4.out.os, hB4.out.tape, hB4.out.output, hB4.out.size, fun j hj _ => hB4.out.block j hj⟩
 clear hv hl hM hE hX1 hY1 hZ1
 go_wp2_with (go_at_call 44; ((with_reducible refine D.out.mono ?_)); rintro e w5 ⟨rfl, hg5, hM5⟩)
 go_end0
 exact ⟨rfl, grown_trans hgw hg5, hM5⟩
end Go.Proofs.YtbhigefbihpnlaaGreatDoor
