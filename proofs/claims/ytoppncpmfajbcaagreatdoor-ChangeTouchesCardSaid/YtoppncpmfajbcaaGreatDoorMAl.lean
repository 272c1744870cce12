/- The walk of the law ChangeTouches, given that awake is true. -/
import Derived.Test.YtoppncpmfajbcaaGreatDoorMAe
import Derived.Test.YtoppncpmfajbcaaGreatDoorMAk
import Derived.Deep.RegionHeld3
import Derived.Test.YtoppncpmfajbcaaGreatDoorMAc
set_option linter.unusedVariables false
set_option linter.unusedSimpArgs false
set_option linter.defProp false
set_option linter.constructorNameAsVariable false
namespace Go.Proofs.YtoppncpmfajbcaaGreatDoor
open Go.RowKit
def TouAwake : Prop := ∀ w, LibE w → Calls Tryz.prog 4 #[] w fun e w' => e = .returned (.bool true) ∧ Below w.heap.size w w'
def TrueB (w : World) (e : Ending) (w' : World) : Prop := e = .returned (.bool true) ∧ Below w.heap.size w w'
set_option maxRecDepth 20000 in
set_option maxHeartbeats 16000000 in
theorem touches_law (hA : TouAwake) (oa ob : Int) (ps qs : List Stp) (A B G H : Option Addr) (ma ca mb cb n cg k ch : Nat) (ra rb : Int) (hp : ps.length = ma) (hq : qs.length = mb) (hma : ma ≤ maxLen) (hmb : mb ≤ maxLen) (w : World) (hw : LibE w)
  (hPA : PRd w A ps) (hPB : PRd w B qs) (hG : NdRd w G n) (hH : NdRd w H k) :
  Calls Tryz.prog 3 #[.agg #[.int .i64 oa, .slice A ma ca, .slice G n cg, .int .i64 ra], .agg #[.int .i64 ob, .slice B mb cb, .slice H k ch, .int .i64 rb]] w (TrueB w) := by
 obtain ⟨h2, h3, hb1, hz1⟩ := box2 w 28 28 [.int .i64 oa, .slice A ma ca, .slice G n cg, .int .i64 ra] [.int .i64 ob, .slice B mb cb, .slice H k ch, .int .i64 rb]
 have HP := Lib.hid hp
 have HQ := Lib.hid hq
 have HW := Lib.hid hw
 have HPA := Lib.hid hPA
 have HPB := Lib.hid hPB
 have DA := Lib.hid (fun (w' : World) (h : Below w.heap.size w w') => hA w' (hw.keep h))
 have DF1 := Lib.hid (fun (w' : World) (h : Below w.heap.size w w') => fewc_any oa ps A G ma n ca cg ra hp hma w' (hPA.keep h) (hG.keep h))
 have DF2 := Lib.hid (fun (w' : World) (h : Below w.heap.size w w') => fewc_any ob qs B H mb k cb ch rb hq hmb w' (hPB.keep h) (hH.keep h))
 clear hp hq hw hPA hPB hG hH hA hma hmb
 go_enter Tryz.func3, Tryz.ntmps3
 go_upto_region 1 with (fail)
 obtain ⟨gb, hgb⟩ : ∃ x, w.heap.size = x := ⟨_, rfl⟩
 have HGB := Lib.hid hgb
 have HB1 := Lib.hid hb1
 generalize ((w.alloc (.cells #[.int .i64 oa, .slice A ma ca, .slice G n cg, .int .i64 ra] 28)).alloc (.cells #[.int .i64 ob, .slice B mb cb, .slice H k ch, .int .i64 rb] 28)) = W at *
 rw [hgb] at h2 h3 hz1 HB1 DA DF1 DF2 ⊢
 clear hgb hb1
 have hgl := h3.out.lt
 go_upto_region 3 with (go_at_call 4; ((with_reducible refine (DA.out _ HB1.out).mono ?_)); rintro e w2 ⟨rfl, hb2⟩)
 have h2b := Lib.hid (h2.out.keep hb2)
 have h3b := Lib.hid (h3.out.keep hb2)
 have HB2 := Lib.hid (HB1.out.trans (hb2.mono (by omega)))
 have hs2 := hb2.size
 clear h2 h3 HB1 hb2 hz1
 have a0 := h2b.out.cell' (i := 0) rfl
 have a1 := h2b.out.cell' (i := 1) rfl
 have a2 := h2b.out.cell' (i := 2) rfl
 have a3 := h2b.out.cell' (i := 3) rfl
 have DFa := Lib.hid (DF1.out w2 HB2.out)
 have b0 := h3b.out.cell' (i := 0) rfl
 have b1 := h3b.out.cell' (i := 1) rfl
 have b2 := h3b.out.cell' (i := 2) rfl
 have b3 := h3b.out.cell' (i := 3) rfl
 go_upto_region 5 with (first
  | (go_at_call 5; ((with_reducible refine (DFa.out).mono ?_)); rintro e w3 ⟨b, rfl, hb12, hb3⟩; have HB3 := Lib.hid (HB2.out.trans (hb3.mono (by omega))); have h3c := Lib.hid (h3b.out.keep hb3); have c0 := h3c.out.cell' (i := 0) rfl; have c1 := h3c.out.cell' (i := 1) rfl; have c2 := h3c.out.cell' (i := 2) rfl; have c3 := h3c.out.cell' (i := 3) rfl; have hn12 := Lib.hid hb12; clear hb12; cases b)
  | (go_at_call 5; ((with_reducible refine (DF2.out w3 HB3.out).mono ?_)); rintro e w4 ⟨b', rfl, hb12', hb4⟩; have hn12' := Lib.hid hb12'; clear hb12'; cases b'))
 ·go_ret
  exact ⟨rfl, by rw [HGB.out]; exact HB3.out⟩
 ·go_ret
  exact ⟨rfl, by rw [HGB.out]; exact HB3.out.trans (hb4.mono (by have := hb3.size; omega))⟩
 have hma : ps.length ≤ 4096 := by have := hn12.out trivial; have := HP.out; omega
 have hmb : qs.length ≤ 4096 := by have := hn12'.out trivial; have := HQ.out; omega
 have h2d := Lib.hid ((h2b.out.keep hb3).keep hb4)
 have h3d := Lib.hid (h3c.out.keep hb4)
 have HB4 := Lib.hid (HB3.out.trans (hb4.mono (by have := hb3.size; omega)))
 have hl4 := h3d.out.lt
 obtain ⟨z, hz⟩ : ∃ x, w4.heap.size = x := ⟨_, rfl⟩
 have HZ := Lib.hid hz
 rw [hz] at hl4
 obtain ⟨V, hV⟩ : ∃ V, touV oa ps ob qs = V := ⟨_, rfl⟩
 have T1 := Lib.hid (fun (w' : World) (h : Below z w4 w') => ctouches_any oa ob ps qs A B ca cb (.slice G n cg) (.slice H k ch) ra rb hma hmb w' ((HPA.out.keep (by rw [HGB.out]; exact HB4.out)).keep (by rw [HZ.out]; exact h)) ((HPB.out.keep (by rw [HGB.out]; exact HB4.out)).keep (by rw [HZ.out]; exact h)))
 have T2 := Lib.hid (fun (w' : World) (h : Below z w4 w') => ctouches_any ob oa qs ps B A cb ca (.slice H k ch) (.slice G n cg) rb ra hmb hma w' ((HPB.out.keep (by rw [HGB.out]; exact HB4.out)).keep (by rw [HZ.out]; exact h)) ((HPA.out.keep (by rw [HGB.out]; exact HB4.out)).keep (by rw [HZ.out]; exact h)))
 have R1 := Lib.hid (fun (w' : World) (h : Below z w4 w') => rtouches_any oa ob ps qs A B ca cb (.slice G n cg) (.slice H k ch) ra rb hma hmb w' ((HPA.out.keep (by rw [HGB.out]; exact HB4.out)).keep (by rw [HZ.out]; exact h)) ((HPB.out.keep (by rw [HGB.out]; exact HB4.out)).keep (by rw [HZ.out]; exact h)))
 rw [touV_comm ob qs oa ps] at T2
 rw [hV, HP.out, HQ.out] at T1 T2 R1
 clear hV hma hmb hn12 hn12' DF1 DF2 DFa DA a0 a1 a2 a3 b0 b1 b2 b3 c0 c1 c2 c3 h2b h3b h3c HB2 HB3 hb3 hb4 hs2 hz
 have g0 : gb < z := by omega
 have a0 : ∀ w', Below z w4 w' → w'.cell? ⟨gb, 0, none⟩ = some (.int .i64 oa) := fun w' h => (Arr.below (w := w4) h2d.out h (by omega)).cell' (i := 0) rfl; have af0 : ∀ w', Below z w4 w' → w'.frozen? ⟨gb, 0, none⟩ = false := fun w' h => (Arr.below (w := w4) h2d.out h (by omega)).frozen 0; have a1 : ∀ w', Below z w4 w' → w'.cell? ⟨gb, 1, none⟩ = some (.slice A ma ca) := fun w' h => (Arr.below (w := w4) h2d.out h (by omega)).cell' (i := 1) rfl; have af1 : ∀ w', Below z w4 w' → w'.frozen? ⟨gb, 1, none⟩ = false := fun w' h => (Arr.below (w := w4) h2d.out h (by omega)).frozen 1; have a2 : ∀ w', Below z w4 w' → w'.cell? ⟨gb, 2, none⟩ = some (.slice G n cg) := fun w' h => (Arr.below (w := w4) h2d.out h (by omega)).cell' (i := 2) rfl; have af2 : ∀ w', Below z w4 w' → w'.frozen? ⟨gb, 2, none⟩ = false := fun w' h => (Arr.below (w := w4) h2d.out h (by omega)).frozen 2; have a3 : ∀ w', Below z w4 w' → w'.cell? ⟨gb, 3, none⟩ = some (.int .i64 ra) := fun w' h => (Arr.below (w := w4) h2d.out h (by omega)).cell' (i := 3) rfl; have af3 : ∀ w', Below z w4 w' → w'.frozen? ⟨gb, 3, none⟩ = false := fun w' h => (Arr.below (w := w4) h2d.out h (by omega)).frozen 3
 have b0 : ∀ w', Below z w4 w' → w'.cell? ⟨gb + 1, 0, none⟩ = some (.int .i64 ob) := fun w' h => (Arr.below (w := w4) h3d.out h (by omega)).cell' (i := 0) rfl; have bf0 : ∀ w', Below z w4 w' → w'.frozen? ⟨gb + 1, 0, none⟩ = false := fun w' h => (Arr.below (w := w4) h3d.out h (by omega)).frozen 0; have b1 : ∀ w', Below z w4 w' → w'.cell? ⟨gb + 1, 1, none⟩ = some (.slice B mb cb) := fun w' h => (Arr.below (w := w4) h3d.out h (by omega)).cell' (i := 1) rfl; have bf1 : ∀ w', Below z w4 w' → w'.frozen? ⟨gb + 1, 1, none⟩ = false := fun w' h => (Arr.below (w := w4) h3d.out h (by omega)).frozen 1; have b2 : ∀ w', Below z w4 w' → w'.cell? ⟨gb + 1, 2, none⟩ = some (.slice H k ch) := fun w' h => (Arr.below (w := w4) h3d.out h (by omega)).cell' (i := 2) rfl; have bf2 : ∀ w', Below z w4 w' → w'.frozen? ⟨gb + 1, 2, none⟩ = false := fun w' h => (Arr.below (w := w4) h3d.out h (by omega)).frozen 2; have b3 : ∀ w', Below z w4 w' → w'.cell? ⟨gb + 1, 3, none⟩ = some (.int .i64 rb) := fun w' h => (Arr.below (w := w4) h3d.out h (by omega)).cell' (i := 3) rfl; have bf3 : ∀ w', Below z w4 w' → w'.frozen? ⟨gb + 1, 3, none⟩ = false := fun w' h => (Arr.below (w := w4) h3d.out h (by omega)).frozen 3
 have HS : Below z w4 w4 := Below.refl _ _
 cases V
 all_goals
  go_region_held3 (fun w' => Below z w4 w') (first | assumption | exact Below.drew (by assumption)) (first
   | (go_at_call 6; ((with_reducible refine (T1.out _ (by assumption)).mono ?_)); rintro e w5 ⟨rfl, hb5⟩; have hS5 : Below z w4 w5 := Below.trans (by assumption) (hb5.mono (Nat.le_trans (Nat.le_of_eq HZ.out.symm) (Below.size (by assumption)))))
   | (go_at_call 7; ((with_reducible refine (R1.out _ (by assumption)).mono ?_)); rintro e w6 ⟨rfl, hb6⟩; have hS6 : Below z w4 w6 := Below.trans (by assumption) (hb6.mono (Nat.le_trans (Nat.le_of_eq HZ.out.symm) (Below.size (by assumption)))))
   | (go_at_call 6; ((with_reducible refine (T2.out _ (by assumption)).mono ?_)); rintro e w7 ⟨rfl, hb7⟩; have hS7 : Below z w4 w7 := Below.trans (by assumption) (hb7.mono (Nat.le_trans (Nat.le_of_eq HZ.out.symm) (Below.size (by assumption))))))
 all_goals
  have HE : Below gb w _ := HB4.out.trans (Below.mono (show Below z w4 _ by assumption) (Nat.le_of_lt g0))
  go_wp2
  go_ret
  exact ⟨rfl, by rw [HGB.out]; exact HE⟩
end Go.Proofs.YtoppncpmfajbcaaGreatDoor
namespace Go.Proofs.YtoppncpmfajbcaaGreatDoor
open Go.RowKit
structure VE (w : World) (B g o c xb gb vb mb : Nat) (nodes : List GNode) (root : Int) : Prop where
 gr : GRd w B g o nodes
 bx : Arr w xb 87 [.slice (some ⟨mb, 0, none⟩) nodes.length nodes.length]
 bg : Arr w gb 26 [.slice (some ⟨g, o, none⟩) nodes.length c, .int .i64 root]
 bv : Arr w vb 107 [.func (.func 67) #[] #[.pointer (some ⟨xb, 0, none⟩), .pointer (some ⟨gb, 0, none⟩), .pointer (some ⟨vb, 0, none⟩)]]
 lo : B ≤ mb
 nx : xb ≠ mb
 ng : gb ≠ mb
 nv : vb ≠ mb
theorem VE.grown {w w' : World} {B g o c xb gb vb mb : Nat} {nodes : List GNode} {root : Int} (h : VE w B g o c xb gb vb mb nodes root) (hb : w.grownBy w' (some mb)) : VE w' B g o c xb gb vb mb nodes root :=
 ⟨h.gr.grown hb h.lo, h.bx.grown hb (by intro e; exact h.nx (Option.some.inj e)), h.bg.grown hb (by intro e; exact h.ng (Option.some.inj e)), h.bv.grown hb (by intro e; exact h.nv (Option.some.inj e)), h.lo, h.nx, h.ng, h.nv⟩
def VisC (w : World) (mb : Nat) (m : List Bool) (e : Ending) (w' : World) : Prop := e = .returned (.tuple #[]) ∧ w.grownBy w' (some mb) ∧ Hid (Arr w' mb 4 (Bs m))
theorem visitV_len {nodes : List GNode} {f : Nat} {x : Int} {m m' : List Bool} (h : visitV nodes f x m = some m') (hl : m.length = nodes.length) : m'.length = nodes.length := by
 induction f generalizing x m m' with
 | zero => cases h
 | succ f ih =>
  rw [visitV] at h
  split at h
  ·split at h
   ·rw [← Option.some.inj h]; exact hl
   ·have run : ∀ (xs : List Int) (a b : List Bool), runG (visitV nodes f) xs a = some b → a.length = nodes.length → b.length = nodes.length := by
     intro xs
     induction xs with
     | nil => intro a b e ha; rw [← Option.some.inj e]; exact ha
     | cons y xs ihx =>
      intro a b e ha
      rw [runG] at e
      split at e
      ·cases e
      ·rename_i a1 e1
       exact ihx a1 b e (ih e1 ha)
    split at h
    ·cases h
    ·rename_i m1 e1
     exact run _ _ _ h (run _ _ _ e1 (by rw [List.length_set]; exact hl))
  ·cases h
set_option maxRecDepth 20000 in
set_option maxHeartbeats 4000000 in
theorem visit_any {B g o c xb gb vb mb : Nat} {nodes : List GNode} {root : Int} (hI : Idx nodes) (hL : NL 65536 nodes) (f : Nat) : ∀ (k : Nat) (m m' : List Bool) (w : World), visitV nodes f (k : Int) m = some m' → m.length = nodes.length →
  VE w B g o c xb gb vb mb nodes root → Arr w mb 4 (Bs m) → Calls Tryz.prog 67 #[.int .i64 (k : Int), .pointer (some ⟨xb, 0, none⟩), .pointer (some ⟨gb, 0, none⟩), .pointer (some ⟨vb, 0, none⟩)] w (VisC w mb m') := by
 induction f with
 | zero => intro k m m' w h; cases h
 | succ f ih =>
  intro k m m' w h hl hE hM
  rw [visitV] at h
  split at h
  ·rename_i hin
   obtain ⟨_, hk2⟩ := inB_iff.1 hin
   have hk : k < nodes.length := by omega
   have hkl : (k : Int) < nodes.length := by omega
   have hk0 : (0 : Int) ≤ k := by omega
   rw [Int.toNat_natCast] at h
   have x0 := hE.bx.cell' (i := 0) rfl
   have m0 := hM.cell' (Bs_get (m := m) (k := k) (by omega))
   by_cases hm : m.getD k false = true
   ·rw [if_pos hm] at h
    obtain rfl := Option.some.inj h
    rw [hm] at m0
    go_enter Tryz.func67, Tryz.ntmps67
    go_wp2_with (fail)
    go_end0
    exact ⟨rfl, World.grownBy.refl _ _, hM⟩
   ·rw [if_neg hm] at h
    have hm' : m.getD k false = false := by simpa using hm
    rw [hm'] at m0
    have f0 := hM.frozen k
    have hM1 : Hid (Arr (w.setCell ⟨mb, k, none⟩ (.bool true)) mb 4 (Bs (m.set k true))) := by
     have := hM.store k (.bool true)
     rw [Bs_set] at this
     exact this
    have hg1 := grown_set w ⟨mb, k, none⟩ (.bool true)
    have hE1 := hE.grown hg1
    have HG := Lib.hid hg1
    go_enter Tryz.func67, Tryz.ntmps67
    go_upto_region 2 with (fail)
    clear m0 f0 x0 hm hm' hg1
    generalize w.setCell ⟨mb, k, none⟩ (.bool true) = w1 at *
    have hlm : (m.set k true).length = nodes.length := by rw [List.length_set]; exact hl
    obtain ⟨K, ck, I, ci, c0, c1, c2, c3, c4, ⟨hK, hKb⟩, hI', hIb⟩ := hE1.gr.of_at hk
    obtain ⟨hKl, hIl⟩ := hL k hk
    have g0 := hE1.bg.cell' (i := 0) rfl
    have hrefs := Lib.hid (hI k hk)
    have HK := Lib.hid hK
    have HI := Lib.hid hI'
    have HKB := Lib.hid hKb
    have HIB := Lib.hid hIb
    clear hKb hIb hK hI' c0 c1 c2 hin hk2
    generalize hnd : ndAt nodes k = nd at *
    generalize hmk : m.set k true = m0 at *
    cases hr : runG (visitV nodes f) nd.keys m0 with
    | none => rw [hr] at h; cases h
    | some mk =>
     rw [hr] at h
     have h2 : runG (visitV nodes f) nd.items mk = some m' := h
     have HR := Lib.hid hr
     have HH := Lib.hid h2
     have HLM := Lib.hid hlm
     clear h h2 hr hnd hmk hl hlm
     go_wp2_with (fail)
     go_loopw [23] (fun v wr => ∃ (j : Nat) (m1 : List Bool), j ≤ nd.keys.length ∧ v = .int .i64 (j : Int) ∧ Hid (runG (visitV nodes f) (nd.keys.drop j) m1 = some mk) ∧ Hid (m1.length = nodes.length) ∧ Hid (Arr wr mb 4 (Bs m1)) ∧ w1.grownBy wr (some mb)) (fun v _ => nd.keys.length - (intOf v).toNat)
     case atStart => exact ⟨0, m0, Nat.zero_le _, rfl, HR, HLM, hM1, World.grownBy.refl _ _⟩
     case round =>
      obtain ⟨j, m1, hj, rfl, hrun, hlm1, hMr, hgr⟩ := hrel
      have hEr := hE1.grown hgr
      by_cases hjl : j = nd.keys.length
      ·have hjl' : ¬ (j : Int) < nd.keys.length := by omega
       have hmk : m1 = mk := by
        have := hrun.out
        rw [List.drop_of_length_le (by omega)] at this
        exact Option.some.inj this
       subst hmk
       have g0' := hEr.bg.cell' (i := 0) rfl
       have hk4 : wr.cell? ⟨g, o + k * 5 + 4, none⟩ = some (.slice I nd.items.length ci) := hgr.cell c4 (by intro e; have e' : g = mb := Option.some.inj e; have := hE1.gr.1; have := hE1.lo; omega)
       have HI2 := Lib.hid (HI.out.grown hgr (fun ad e h => by have := HIB.out ad e; have := Option.some.inj h; have := hE1.lo; omega))
       clear hrun
       obtain ⟨wo, hwo⟩ : ∃ wo : World, wo = wr := ⟨_, rfl⟩
       subst hwo
       go_wp2_with (fail)
       go_loopw [38] (fun v wr => ∃ (j : Nat) (m1 : List Bool), j ≤ nd.items.length ∧ v = .int .i64 (j : Int) ∧ Hid (runG (visitV nodes f) (nd.items.drop j) m1 = some m') ∧ Hid (m1.length = nodes.length) ∧ Hid (Arr wr mb 4 (Bs m1)) ∧ wo.grownBy wr (some mb)) (fun v _ => nd.items.length - (intOf v).toNat)
       case atStart => exact ⟨0, m1, Nat.zero_le _, rfl, HH, hlm1, hMr, World.grownBy.refl _ _⟩
       case round =>
        obtain ⟨i, m3, hi, rfl, hrun, hlm3, hMs, hgs⟩ := hrel
        have hEs := hEr.grown hgs
        by_cases hil : i = nd.items.length
        ·have hil' : ¬ (i : Int) < nd.items.length := by omega
         have hm3 : m3 = m' := by
          have := hrun.out
          rw [List.drop_of_length_le (by omega)] at this
          exact Option.some.inj this
         subst hm3
         go_wp2_with (fail)
         go_end0
         exact ⟨rfl, grown_trans HG.out (grown_trans hgr hgs), hMs⟩
        ·have hil' : (i : Int) < nd.items.length := by omega
         obtain ⟨x, hx⟩ : ∃ x, nd.items[i]? = some x := ⟨_, List.getElem?_eq_getElem (by omega)⟩
         obtain ⟨ad, rfl, hc⟩ := (HI2.out.grown hgs (fun ad e h => by have := HIB.out ad e; have := Option.some.inj h; have := hE1.lo; omega)).at_ (I64_get hx)
         have hxr := hrefs.out x (by unfold refs; exact List.mem_append.2 (.inr (List.mem_of_getElem? hx)))
         obtain ⟨kx, rfl⟩ : ∃ kx : Nat, x = (kx : Int) := ⟨x.toNat, by omega⟩
         have hrun' := hrun.out
         rw [drop_cons_at hx, runG] at hrun'
         cases hv : visitV nodes f (kx : Int) m3 with
         | none => rw [hv] at hrun'; cases hrun'
         | some m2 =>
          rw [hv] at hrun'
          have HRUN := Lib.hid hrun'
          have D := Lib.hid (ih kx m3 m2 wr hv hlm3.out hEs hMs.out)
          have HL2 := Lib.hid (visitV_len hv hlm3.out)
          have v0 := hEs.bv.cell' (i := 0) rfl
          clear hrun hrun' hv hxr hrefs hx
          go_wp2_with (go_at_call 67; ((with_reducible refine D.out.mono ?_)); rintro e w2 ⟨rfl, hg2, hM2⟩)
          go_roundw
          case rel => exact ⟨i + 1, m2, by omega, i64e (by omega), HRUN, HL2, hM2, grown_trans hgs hg2⟩
          case measure => simp [intOf]; omega
      ·have hjl' : (j : Int) < nd.keys.length := by omega
       obtain ⟨x, hx⟩ : ∃ x, nd.keys[j]? = some x := ⟨_, List.getElem?_eq_getElem (by omega)⟩
       obtain ⟨ad, rfl, hc⟩ := (HK.out.grown hgr (fun ad e h => by have := HKB.out ad e; have := Option.some.inj h; have := hE1.lo; omega)).at_ (I64_get hx)
       have hxr := hrefs.out x (by unfold refs; exact List.mem_append.2 (.inl (List.mem_of_getElem? hx)))
       obtain ⟨kx, rfl⟩ : ∃ kx : Nat, x = (kx : Int) := ⟨x.toNat, by omega⟩
       have hrun' := hrun.out
       rw [drop_cons_at hx, runG] at hrun'
       cases hv : visitV nodes f (kx : Int) m1 with
       | none => rw [hv] at hrun'; cases hrun'
       | some m2 =>
        rw [hv] at hrun'
        have HRUN := Lib.hid hrun'
        have D := Lib.hid (ih kx m1 m2 wr hv hlm1.out hEr hMr.out)
        have HL2 := Lib.hid (visitV_len hv hlm1.out)
        have v0 := hEr.bv.cell' (i := 0) rfl
        clear hrun hrun' hv hxr hrefs hx
        go_wp2_with (go_at_call 67; ((with_reducible refine D.out.mono ?_)); rintro e w2 ⟨rfl, hg2, hM2⟩)
        go_roundw
        case rel => exact ⟨j + 1, m2, by omega, i64e (by omega), HRUN, HL2, hM2, grown_trans hgr hg2⟩
        case measure => simp [intOf]; omega
  ·cases h
set_option maxRecDepth 20000 in
set_option maxHeartbeats 4000000 in
theorem reached_any {B g o c mb : Nat} {nodes : List GNode} {root : Int} (hI : Idx nodes) (hL : NL 65536 nodes) (k : Nat) (hk : k < nodes.length) (m : List Bool) (w : World) (hl : m.length = nodes.length) (hG : GRd w B g o nodes) (hB : B ≤ mb) (hM : Arr w mb 4 (Bs m)) :
  Calls Tryz.prog 43 #[.agg #[.slice (some ⟨g, o, none⟩) nodes.length c, .int .i64 root], .int .i64 (k : Int), .slice (some ⟨mb, 0, none⟩) nodes.length nodes.length] w (VisC w mb (reachedV nodes (k : Int) m)) := by
 have hv := (reachedV_ok hI (at_ := (k : Int)) ⟨by omega, by omega⟩ hl).1
 have hmf : ∀ (fn : Fn) (first cap : Array Value) (w : World), (Instr.makeFunc fn first cap).run Tryz.prog w = .ok (.func fn first cap) w := fun _ _ _ _ => rfl
 have hml := hM.lt
 go_enter Tryz.func43, Tryz.ntmps43
 go_upto_region 2 with (fail)
 obtain ⟨h1, h2, h3, h4, _⟩ := box3 w 26 87 107 [.slice (some ⟨g, o, none⟩) nodes.length c, .int .i64 root] [.slice (some ⟨mb, 0, none⟩) nodes.length nodes.length] [.nilFunc]
 have hX : Hid (Arr (((w.alloc (.cells #[.slice (some ⟨g, o, none⟩) nodes.length c, .int .i64 root] 26)).alloc (.cells #[.slice (some ⟨mb, 0, none⟩) nodes.length nodes.length] 87)).alloc (.cells #[.nilFunc] 107)) w.heap.size 26 [.slice (some ⟨g, o, none⟩) nodes.length c, .int .i64 root]) := h1
 have hY : Hid (Arr (((w.alloc (.cells #[.slice (some ⟨g, o, none⟩) nodes.length c, .int .i64 root] 26)).alloc (.cells #[.slice (some ⟨mb, 0, none⟩) nodes.length nodes.length] 87)).alloc (.cells #[.nilFunc] 107)) (w.heap.size + 1) 87 [.slice (some ⟨mb, 0, none⟩) nodes.length nodes.length]) := h2
 have hZ : Hid (Arr (((w.alloc (.cells #[.slice (some ⟨g, o, none⟩) nodes.length c, .int .i64 root] 26)).alloc (.cells #[.slice (some ⟨mb, 0, none⟩) nodes.length nodes.length] 87)).alloc (.cells #[.nilFunc] 107)) (w.heap.size + 1 + 1) 107 [.nilFunc]) := h3
 have hB3 : Below w.heap.size w (((w.alloc (.cells #[.slice (some ⟨g, o, none⟩) nodes.length c, .int .i64 root] 26)).alloc (.cells #[.slice (some ⟨mb, 0, none⟩) nodes.length nodes.length] 87)).alloc (.cells #[.nilFunc] 107)) := h4
 clear h1 h2 h3 h4
 generalize (((w.alloc (.cells #[.slice (some ⟨g, o, none⟩) nodes.length c, .int .i64 root] 26)).alloc (.cells #[.slice (some ⟨mb, 0, none⟩) nodes.length nodes.length] 87)).alloc (.cells #[.nilFunc] 107)) = W at *
 obtain ⟨vb, hvb⟩ : ∃ b, w.heap.size + 1 + 1 = b := ⟨_, rfl⟩
 obtain ⟨xb, hxb⟩ : ∃ b, w.heap.size + 1 = b := ⟨_, rfl⟩
 obtain ⟨gb, hgb⟩ : ∃ b, w.heap.size = b := ⟨_, rfl⟩
 have l1 : mb < gb ∧ gb < xb ∧ xb < vb := by omega
 have hgb0 := Lib.hid hgb
 rw [hvb] at hZ ⊢
 rw [hxb] at hY ⊢
 rw [hgb] at hX ⊢
 have hBL := Lib.hid hB3
 clear hvb hxb hgb hB3
 obtain ⟨l2, l3, l4⟩ := l1
 have z0 := hZ.out.cell' (i := 0) rfl
 have zf := hZ.out.frozen 0
 have hZ1 : Hid (Arr (W.setCell ⟨vb, 0, none⟩ (.func (.func 67) #[] #[.pointer (some ⟨xb, 0, none⟩), .pointer (some ⟨gb, 0, none⟩), .pointer (some ⟨vb, 0, none⟩)])) vb 107 [.func (.func 67) #[] #[.pointer (some ⟨xb, 0, none⟩), .pointer (some ⟨gb, 0, none⟩), .pointer (some ⟨vb, 0, none⟩)]]) := hZ.out.store 0 _
 have hX1 := Lib.hid (hX.out.far (p := ⟨vb, 0, none⟩) (show gb ≠ vb by omega) (.func (.func 67) #[] #[.pointer (some ⟨xb, 0, none⟩), .pointer (some ⟨gb, 0, none⟩), .pointer (some ⟨vb, 0, none⟩)]))
 have hY1 := Lib.hid (hY.out.far (p := ⟨vb, 0, none⟩) (show xb ≠ vb by omega) (.func (.func 67) #[] #[.pointer (some ⟨xb, 0, none⟩), .pointer (some ⟨gb, 0, none⟩), .pointer (some ⟨vb, 0, none⟩)]))
 have hB4 := Lib.hid (hBL.out.setCell (p := ⟨vb, 0, none⟩) (by show w.heap.size ≤ vb; rw [hgb0.out]; omega) (.func (.func 67) #[] #[.pointer (some ⟨xb, 0, none⟩), .pointer (some ⟨gb, 0, none⟩), .pointer (some ⟨vb, 0, none⟩)]))
 clear hX hY hZ hBL
 go_upto_region 3 with (fail)
 clear z0 zf
 generalize W.setCell ⟨vb, 0, none⟩ (.func (.func 67) #[] #[.pointer (some ⟨xb, 0, none⟩), .pointer (some ⟨gb, 0, none⟩), .pointer (some ⟨vb, 0, none⟩)]) = W4 at *
 have hE : VE W4 B g o c xb gb vb mb nodes root := ⟨hG.below hB4.out (by omega), hY1.out, hX1.out, hZ1.out, hB, by omega, by omega, by omega⟩
 have D := Lib.hid (visit_any hI hL (nodes.length + 1) k m (reachedV nodes (k : Int) m) W4 hv hl hE (hM.below hB4.out hml))
 have v0 := hZ1.out.cell' (i := 0) rfl
 have hgw : w.grownBy W4 (some mb) := ⟨hB4.out.os, hB4.out.tape, hB4.out.output, hB4.out.size, fun j hj _ => hB4.out.block j hj⟩
 clear hv hl hM hE hX1 hY1 hZ1
 go_wp2_with (go_at_call 67; ((with_reducible refine D.out.mono ?_)); rintro e w5 ⟨rfl, hg5, hM5⟩)
 go_end0
 exact ⟨rfl, grown_trans hgw hg5, hM5⟩
end Go.Proofs.YtoppncpmfajbcaaGreatDoor
