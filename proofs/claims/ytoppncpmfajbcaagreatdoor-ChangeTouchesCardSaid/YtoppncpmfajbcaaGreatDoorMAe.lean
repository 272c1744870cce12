/- The walk of the reference's Touches: the same plain function. -/
import Derived.Test.YtoppncpmfajbcaaGreatDoorMAd
import Derived.Test.YtoppncpmfajbcaaGreatDoorMAa
import Derived.Laws.BitsAllLaws
import Derived.Test.YtoppncpmfajbcaaGreatDoorProg
set_option linter.unusedVariables false
set_option linter.unusedSimpArgs false
set_option linter.defProp false
set_option linter.constructorNameAsVariable false
namespace Go.Proofs.YtoppncpmfajbcaaGreatDoor
open Go.RowKit
set_option maxRecDepth 20000 in
set_option maxHeartbeats 8000000 in
theorem rtouches_any (oa ob : Int) (ps qs : List Stp) (A B : Option Addr) (ca cb : Nat) (G H : Value) (ra rb : Int) (hp : ps.length ≤ 4096) (hq : qs.length ≤ 4096) (w : World) (hA : PRd w A ps) (hB : PRd w B qs) :
    Calls Tryz.prog 7 #[.agg #[.int .i64 oa, .slice A ps.length ca, G, .int .i64 ra], .agg #[.int .i64 ob, .slice B qs.length cb, H, .int .i64 rb]] w fun e w' => e = .returned (.bool (touV oa ps ob qs)) ∧ Below w.heap.size w w' := by
  obtain ⟨h1, h2, hb1, hz1⟩ := box2 w 28 28 [.int .i64 oa, .slice A ps.length ca, G, .int .i64 ra] [.int .i64 ob, .slice B qs.length cb, H, .int .i64 rb]
  obtain ⟨V, hV⟩ : ∃ V, touV oa ps ob qs = V := ⟨_, rfl⟩
  have HV := Lib.hid hV
  rw [hV]
  clear hV
  have HA := Lib.hid (hA.keep hb1)
  have HB := Lib.hid (hB.keep hb1)
  clear hA hB
  go_enter Tryz.func7, Tryz.ntmps7
  go_upto_region 1 with (fail)
  obtain ⟨gb, hgb⟩ : ∃ x, w.heap.size = x := ⟨_, rfl⟩
  have HGB := Lib.hid hgb
  have HBd := Lib.hid hb1
  generalize ((w.alloc (.cells #[.int .i64 oa, .slice A ps.length ca, G, .int .i64 ra] 28)).alloc (.cells #[.int .i64 ob, .slice B qs.length cb, H, .int .i64 rb] 28)) = W at *
  rw [hgb] at h1 h2 hz1 HBd ⊢
  clear hgb hb1
  obtain ⟨n, hn⟩ : ∃ n, ps.length = n := ⟨_, rfl⟩
  obtain ⟨m, hm⟩ : ∃ m, qs.length = m := ⟨_, rfl⟩
  rw [hn] at h1 hp ⊢
  rw [hm] at h2 hq ⊢
  have HN := Lib.hid hn
  have HM := Lib.hid hm
  clear hn hm
  have hst0 : Hid (agrL ps qs = 0 + agrL (ps.drop 0) (qs.drop 0)) := by show _ = _; simp
  go_upto_region 2 with (fail)
  go_loopw [5] (fun v wr => ∃ k : Nat, k ≤ n ∧ k ≤ m ∧ v = .int .i64 (k : Int) ∧ Hid (agrL ps qs = k + agrL (ps.drop k) (qs.drop k)) ∧ Below W.heap.size W wr) (fun v _ => n - (intOf v).toNat)
  case atStart => exact ⟨0, Nat.zero_le _, Nat.zero_le _, rfl, hst0, Below.refl _ _⟩
  case round =>
    obtain ⟨k, hkn, hkm, rfl, hag, hbr⟩ := hrel
    have X1 := Lib.hid (h1.out.keep hbr)
    have X2 := Lib.hid (h2.out.keep hbr)
    have HA' := Lib.hid (HA.out.keep hbr)
    have HB' := Lib.hid (HB.out.keep hbr)
    have HBr := Lib.hid (HBd.out.trans (hbr.mono (by have := hz1.out; omega)))
    clear hst0
    have a1 := X1.out.cell' (i := 1) rfl
    have b1 := X2.out.cell' (i := 1) rfl
    by_cases hn1 : k < n
    · by_cases hm1 : k < m
      · obtain ⟨x, hx⟩ : ∃ x, ps[k]? = some x := ⟨_, List.getElem?_eq_getElem (by have := HN.out; omega)⟩
        obtain ⟨y, hy⟩ : ∃ y, qs[k]? = some y := ⟨_, List.getElem?_eq_getElem (by have := HM.out; omega)⟩
        obtain ⟨bx, adx, rfl, x0, x1⟩ := HA'.out k x hx
        obtain ⟨by_, ady, rfl, y0, y1⟩ := HB'.out k y hy
        have hst := agrL_drop hx hy
        have HX := Lib.hid hx
        have HY := Lib.hid hy
        clear hx hy
        have hk1 : (k : Int) < n := by omega
        have hk2 : (k : Int) < m := by omega
        have D := Lib.hid (fun w' => ragree_any x y bx by_ w')
        have DB := Lib.hid (HBr.out)
        cases hv : agrV x y with
        | true =>
          rw [hv] at D
          have hst1 : Hid (agrL ps qs = (k + 1 : Nat) + agrL (ps.drop (k + 1)) (qs.drop (k + 1))) := by show _ = _; rw [hag.out, hst, hv, if_pos rfl]; omega
          clear hst hv
          go_upto_region 3 with (fail)
          obtain ⟨z, hz⟩ : ∃ z, wr.heap.size = z := ⟨_, rfl⟩
          have HZ := Lib.hid hz
          have r1 : ∀ w', Below z wr w' → w'.cell? ⟨gb, 1, none⟩ = some (.slice (some adx) n ca) := fun w' h => (h.cell (by have := block_lt_of_cell a1; rw [HZ.out] at this; exact this)).trans a1
          have r2 : ∀ w', Below z wr w' → w'.cell? ⟨gb + 1, 1, none⟩ = some (.slice (some ady) m cb) := fun w' h => (h.cell (by have := block_lt_of_cell b1; rw [HZ.out] at this; exact this)).trans b1
          have r3 : ∀ w', Below z wr w' → w'.cell? (adx.add (k * 2)) = some (.int .i64 x.1) := fun w' h => (h.cell (by have := block_lt_of_cell x0; rw [HZ.out] at this; exact this)).trans x0
          have r4 : ∀ w', Below z wr w' → w'.cell? ⟨(adx.add (k * 2)).block, (adx.add (k * 2)).off + 1, none⟩ = some (.string (mks x.2)) := fun w' h => (h.cell (by have := block_lt_of_cell x1; rw [HZ.out] at this; exact this)).trans x1
          have r5 : ∀ w', Below z wr w' → w'.cell? (ady.add (k * 2)) = some (.int .i64 y.1) := fun w' h => (h.cell (by have := block_lt_of_cell y0; rw [HZ.out] at this; exact this)).trans y0
          have r6 : ∀ w', Below z wr w' → w'.cell? ⟨(ady.add (k * 2)).block, (ady.add (k * 2)).off + 1, none⟩ = some (.string (mks y.2)) := fun w' h => (h.cell (by have := block_lt_of_cell y1; rw [HZ.out] at this; exact this)).trans y1
          have hS0 : Below z wr wr.drew := (Below.refl _ _).drew
          have hzs : z ≤ wr.drew.heap.size := by show z ≤ wr.heap.size; omega
          clear a1 b1 x0 x1 y0 y1 hz
          go_region_held3 (fun w' => Below z wr w') (first | assumption | go_keep)
            (first | (go_at_call 17; ((with_reducible refine (D.out _).mono ?_)); rintro e w5 ⟨rfl, hb5⟩; have hS5 : Below z wr w5 := Below.trans (by first | assumption) (hb5.mono (by first | assumption))))
          go_wp2_with (fail)
          go_roundw
          case rel => exact ⟨k + 1, by omega, by omega, i64e (by omega), hst1, hbr.trans (hS5.mono (by have := hbr.size; have := HZ.out; omega))⟩
          case measure => simp [intOf]; omega
        | false =>
          rw [hv] at D
          have hst1 : Hid (agrL ps qs = k) := by show _ = _; rw [hag.out, hst, hv, if_neg (by simp)]; omega
          clear hst hv
          go_upto_region 3 with (fail)
          obtain ⟨z, hz⟩ : ∃ z, wr.heap.size = z := ⟨_, rfl⟩
          have HZ := Lib.hid hz
          have r1 : ∀ w', Below z wr w' → w'.cell? ⟨gb, 1, none⟩ = some (.slice (some adx) n ca) := fun w' h => (h.cell (by have := block_lt_of_cell a1; rw [HZ.out] at this; exact this)).trans a1
          have r2 : ∀ w', Below z wr w' → w'.cell? ⟨gb + 1, 1, none⟩ = some (.slice (some ady) m cb) := fun w' h => (h.cell (by have := block_lt_of_cell b1; rw [HZ.out] at this; exact this)).trans b1
          have r3 : ∀ w', Below z wr w' → w'.cell? (adx.add (k * 2)) = some (.int .i64 x.1) := fun w' h => (h.cell (by have := block_lt_of_cell x0; rw [HZ.out] at this; exact this)).trans x0
          have r4 : ∀ w', Below z wr w' → w'.cell? ⟨(adx.add (k * 2)).block, (adx.add (k * 2)).off + 1, none⟩ = some (.string (mks x.2)) := fun w' h => (h.cell (by have := block_lt_of_cell x1; rw [HZ.out] at this; exact this)).trans x1
          have r5 : ∀ w', Below z wr w' → w'.cell? (ady.add (k * 2)) = some (.int .i64 y.1) := fun w' h => (h.cell (by have := block_lt_of_cell y0; rw [HZ.out] at this; exact this)).trans y0
          have r6 : ∀ w', Below z wr w' → w'.cell? ⟨(ady.add (k * 2)).block, (ady.add (k * 2)).off + 1, none⟩ = some (.string (mks y.2)) := fun w' h => (h.cell (by have := block_lt_of_cell y1; rw [HZ.out] at this; exact this)).trans y1
          have hS0 : Below z wr wr.drew := (Below.refl _ _).drew
          have hzs : z ≤ wr.drew.heap.size := by show z ≤ wr.heap.size; omega
          clear a1 b1 x0 x1 y0 y1 hz
          go_region_held3 (fun w' => Below z wr w') (first | assumption | go_keep)
            (first | (go_at_call 17; ((with_reducible refine (D.out _).mono ?_)); rintro e w5 ⟨rfl, hb5⟩; have hS5 : Below z wr w5 := Below.trans (by first | assumption) (hb5.mono (by first | assumption))))
          have hn2 : ((k : Int) == n) = false := by simp; omega
          have hm2 : ((k : Int) == m) = false := by simp; omega
          have q1 := r1 w5 hS5
          have q2 := r2 w5 hS5
          have q3 := r3 w5 hS5
          have q4 := r4 w5 hS5
          have q5 := r5 w5 hS5
          have q6 := r6 w5 hS5
          clear r1 r2 r3 r4 r5 r6
          go_upto_region 6 with (fail)
          have hB5 := Lib.hid (HBr.out.trans (hS5.mono (by have := HBr.out.size; have := HZ.out; have := HGB.out; omega)))
          have X15 := Lib.hid (X1.out.keep (hS5.mono (Nat.le_of_eq HZ.out)))
          have X25 := Lib.hid (X2.out.keep (hS5.mono (Nat.le_of_eq HZ.out)))
          clear hbr HBr X1 X2 h1 h2 HA HB HA' HB'
          have hw5 := hS5.size
          have e1 := World.new_ne w5 _ q1
          have e2 := World.new_ne w5 _ q2
          have e3 := World.new_ne w5 _ q3
          have e4 := World.new_ne w5 _ q4
          have e5 := World.new_ne w5 _ q5
          have e6 := World.new_ne w5 _ q6
          have hV2 : Hid (V = if x.2 = [] ∧ y.2 = [] then decide (n = k + 1) && movV oa || decide (m = k + 1) && movV ob
              else decide (x.2 ≠ []) && decide (y.2 ≠ []) && (decide (n = k + 1) && movV oa) && (decide (m = k + 1) && movV ob) && (decide (oa = 2) || decide (ob = 2))) := by
            show _ = _
            rw [← HV.out, touV, hst1.out, HX.out, HY.out]
            simp only [HN.out, HM.out]
          have hoa : (oa == 2) = decide (oa = 2) := rfl
          have hob : (ob == 2) = decide (ob = 2) := rfl
          obtain ⟨fa, hfa⟩ : ∃ fa, (decide (n = k + 1) && movV oa) = fa := ⟨_, rfl⟩
          obtain ⟨fb, hfb⟩ : ∃ fb, (decide (m = k + 1) && movV ob) = fb := ⟨_, rfl⟩
          rw [hfa, hfb] at hV2
          have HFA := Lib.hid hfa
          have HFB := Lib.hid hfb
          clear hfa hfb
          have DA := Lib.hid (fun w' => rmoves_any oa (some adx) n ca k G ra w' (by omega) (by omega))
          have DC := Lib.hid (fun w' => rmoves_any ob (some ady) m cb k H rb w' (by omega) (by omega))
          rw [HFA.out] at DA
          rw [HFB.out] at DC
          clear HFA HFB
          clear HV hst1 HX HY hS0 hzs hb5 D DB HN HM hag hn2 hm2 hk1 hk2
          go_region_held3 (fun w' => w'.cell? ⟨gb, 1, none⟩ = some (.slice (some adx) n ca) ∧ w'.cell? ⟨gb + 1, 1, none⟩ = some (.slice (some ady) m cb) ∧ w'.cell? (adx.add (k * 2)) = some (.int .i64 x.1) ∧ w'.cell? ⟨(adx.add (k * 2)).block, (adx.add (k * 2)).off + 1, none⟩ = some (.string (mks x.2)) ∧ w'.cell? (ady.add (k * 2)) = some (.int .i64 y.1) ∧ w'.cell? ⟨(ady.add (k * 2)).block, (ady.add (k * 2)).off + 1, none⟩ = some (.string (mks y.2)))
            (first | exact ⟨q1, q2, q3, q4, q5, q6⟩ | go_keep) (fail)
          all_goals
            clear e1 e2 e3 e4 e5 e6 q1 q2 q3 q4 q5 q6
            first
              | (obtain ⟨wl, hwl⟩ : ∃ wl, wl = (w5.alloc (.cells #[.int .i64 x.1, .string (mks x.2)] 36)).alloc (.cells #[.int .i64 y.1, .string (mks y.2)] 36) := ⟨_, rfl⟩
                 rw [← hwl]
                 obtain ⟨k1, k2, kb, kz⟩ := box2 w5 36 36 [.int .i64 x.1, .string (mks x.2)] [.int .i64 y.1, .string (mks y.2)])
              | (obtain ⟨wl, hwl⟩ : ∃ wl, wl = (w5.alloc (.cells #[.int .i64 y.1, .string (mks y.2)] 36)).alloc (.cells #[.int .i64 x.1, .string (mks x.2)] 36) := ⟨_, rfl⟩
                 rw [← hwl]
                 obtain ⟨k2, k1, kb, kz⟩ := box2 w5 36 36 [.int .i64 y.1, .string (mks y.2)] [.int .i64 x.1, .string (mks x.2)])
            rw [← hwl] at k1 k2 kb
            obtain ⟨zl, hzl⟩ : ∃ z, wl.heap.size = z := ⟨_, rfl⟩
            have g0 : ∀ w', Below zl wl w' → w'.cell? ⟨gb, 0, none⟩ = some (.int .i64 oa) := fun w' h => (((X15.out.keep kb).keep (by rw [hzl]; exact h))).cell' (i := 0) rfl
            have g1 : ∀ w', Below zl wl w' → w'.cell? ⟨gb, 1, none⟩ = some (.slice (some adx) n ca) := fun w' h => (((X15.out.keep kb).keep (by rw [hzl]; exact h))).cell' (i := 1) rfl
            have g2 : ∀ w', Below zl wl w' → w'.cell? ⟨gb, 2, none⟩ = some (G) := fun w' h => (((X15.out.keep kb).keep (by rw [hzl]; exact h))).cell' (i := 2) rfl
            have g3 : ∀ w', Below zl wl w' → w'.cell? ⟨gb, 3, none⟩ = some (.int .i64 ra) := fun w' h => (((X15.out.keep kb).keep (by rw [hzl]; exact h))).cell' (i := 3) rfl
            have f0 : ∀ w', Below zl wl w' → w'.cell? ⟨gb + 1, 0, none⟩ = some (.int .i64 ob) := fun w' h => (((X25.out.keep kb).keep (by rw [hzl]; exact h))).cell' (i := 0) rfl
            have f1 : ∀ w', Below zl wl w' → w'.cell? ⟨gb + 1, 1, none⟩ = some (.slice (some ady) m cb) := fun w' h => (((X25.out.keep kb).keep (by rw [hzl]; exact h))).cell' (i := 1) rfl
            have f2 : ∀ w', Below zl wl w' → w'.cell? ⟨gb + 1, 2, none⟩ = some (H) := fun w' h => (((X25.out.keep kb).keep (by rw [hzl]; exact h))).cell' (i := 2) rfl
            have f3 : ∀ w', Below zl wl w' → w'.cell? ⟨gb + 1, 3, none⟩ = some (.int .i64 rb) := fun w' h => (((X25.out.keep kb).keep (by rw [hzl]; exact h))).cell' (i := 3) rfl
            have p1 := fun w' (h : Below zl wl w') => (k1.out.keep (by rw [hzl]; exact h)).cell' (i := 1) rfl
            have p2 := fun w' (h : Below zl wl w') => (k2.out.keep (by rw [hzl]; exact h)).cell' (i := 1) rfl
            have p1' := p1 wl (Below.refl _ _)
            have p2' := p2 wl (Below.refl _ _)
            have g0' := g0 wl (Below.refl _ _)
            have g2' := g2 wl (Below.refl _ _)
            have g3' := g3 wl (Below.refl _ _)
            have f0' := f0 wl (Below.refl _ _)
            have f2' := f2 wl (Below.refl _ _)
            have f3' := f3 wl (Below.refl _ _)
            have HBl := Lib.hid (hB5.out.trans (kb.mono (by have := hB5.out.size; have := HGB.out; omega)))
            have hwz : gb ≤ zl := by have := HBl.out.size; have := HGB.out; omega
            have hS : Below zl wl wl := Below.refl _ _
            have hsz : zl ≤ wl.heap.size := by omega
            clear X15 X25 kb kz k1 k2 hwl hB5 hS5 hzl
            have hk0 : (0 : Int) ≤ k := by omega
            have hk4 : (k : Int) ≤ 4096 := by omega
            have g1' := g1 wl (Below.refl _ _)
            have f1' := f1 wl (Below.refl _ _)
            go_wp2_with (go_at_call 18; (first | (with_reducible refine (DA.out _).mono ?_) | (with_reducible refine (DC.out _).mono ?_)); rintro e wn ⟨rfl, hbn⟩; replace hS := Below.trans (by first | exact hS | exact hS.drew | exact Below.drewN' hS _) (hbn.mono hsz); replace hsz := Nat.le_trans hsz hbn.size; clear hbn)
            all_goals
              go_ret
              refine ⟨ret_b ?_, by rw [HGB.out]; first | exact HBl.out.trans (hS.mono hwz) | exact Below.drew HBl.out | exact Below.drewN' HBl.out _⟩
              clear p1 p2 g0 g1 g2 g3 f0 f1 f2 f3 p1' p2' g0' g1' g2' g3' f0' f1' f2' f3' hS hsz HBl DA DC
              rw [hV2.out]
              clear hV2
              simp_all [toList_mks]
      · have hk1 : (k : Int) < n := by omega
        have hk2 : ¬ (k : Int) < m := by omega
        have hm2 : ((k : Int) == m) = true := by simp; omega
        have hst1 : Hid (agrL ps qs = k) := by show _ = _; rw [hag.out, agrL_end (.inr (by have := HM.out; omega))]; omega
        have hV : V = true := by rw [← HV.out]; exact touV_end hst1.out (.inr (by have := HM.out; omega))
        subst hV
        go_upto_region 3 with (fail)
        go_quiet (fail)
        go_wp2_with (fail)
        all_goals
          go_ret
          exact ⟨rfl, by rw [HGB.out]; exact Below.drewN' HBr.out _⟩
    · have hk1 : ¬ (k : Int) < n := by omega
      have hn2 : ((k : Int) == n) = true := by simp; omega
      have hst1 : Hid (agrL ps qs = k) := by show _ = _; rw [hag.out, agrL_end (.inl (by have := HN.out; omega))]; omega
      have hV : V = true := by rw [← HV.out]; exact touV_end hst1.out (.inl (by have := HN.out; omega))
      subst hV
      go_upto_region 3 with (fail)
      go_quiet (fail)
      go_wp2_with (fail)
      all_goals
        go_ret
        exact ⟨rfl, by rw [HGB.out]; exact Below.drewN' HBr.out _⟩
end Go.Proofs.YtoppncpmfajbcaaGreatDoor
namespace Go.Proofs.YtoppncpmfajbcaaGreatDoor
open Go.RowKit
def NdRd (w : World) (A : Option Addr) (n : Nat) : Prop := ∀ i, i < n → ∃ ad, A = some ad ∧ ∃ (k : Int) (s : ByteArray) (b : Bool) (K I : Option Addr) (kn kc jn jc : Nat),
 w.cell? (ad.add (i * 5)) = some (.int .i64 k) ∧ w.cell? ⟨(ad.add (i * 5)).block, (ad.add (i * 5)).off + 1, none⟩ = some (.string s) ∧ w.cell? ⟨(ad.add (i * 5)).block, (ad.add (i * 5)).off + 2, none⟩ = some (.bool b) ∧
 w.cell? ⟨(ad.add (i * 5)).block, (ad.add (i * 5)).off + 3, none⟩ = some (.slice K kn kc) ∧ w.cell? ⟨(ad.add (i * 5)).block, (ad.add (i * 5)).off + 4, none⟩ = some (.slice I jn jc)
theorem NdRd.keep {w w' : World} {A : Option Addr} {n : Nat} (h : NdRd w A n) (hb : Below w.heap.size w w') : NdRd w' A n := fun i hi => by
 obtain ⟨ad, h1, k, s, b, K, I, kn, kc, jn, jc, c0, c1, c2, c3, c4⟩ := h i hi
 exact ⟨ad, h1, k, s, b, K, I, kn, kc, jn, jc, (hb.cell (block_lt_of_cell c0)).trans c0, (hb.cell (block_lt_of_cell c1)).trans c1, (hb.cell (block_lt_of_cell c2)).trans c2, (hb.cell (block_lt_of_cell c3)).trans c3, (hb.cell (block_lt_of_cell c4)).trans c4⟩
def FewE (w : World) (e : Ending) (w' : World) : Prop := ∃ b, e = .returned (.bool b) ∧ Below w.heap.size w w'
def FewC (w : World) (n : Nat) (e : Ending) (w' : World) : Prop := ∃ b, e = .returned (.bool b) ∧ (b = true → n ≤ 12) ∧ Below w.heap.size w w'
set_option maxRecDepth 20000 in
set_option maxHeartbeats 8000000 in
theorem few_any (A : Option Addr) (n c : Nat) (r : Int) (w : World) (hA : NdRd w A n) : Calls Tryz.prog 14 #[.agg #[.slice A n c, .int .i64 r]] w (FewE w) := by
 have h1 : Hid (Arr (w.alloc (.cells #[.slice A n c, .int .i64 r] 26)) w.heap.size 26 [.slice A n c, .int .i64 r]) := Arr.new w _ _
 have hb1 : Below w.heap.size w (w.alloc (.cells #[.slice A n c, .int .i64 r] 26)) := (Below.refl _ _).alloc (Nat.le_refl _) _
 have HA := Lib.hid (hA.keep hb1)
 clear hA
 go_enter Tryz.func14, Tryz.ntmps14
 go_upto_region 1 with (fail)
 obtain ⟨gb, hgb⟩ : ∃ x, w.heap.size = x := ⟨_, rfl⟩
 have HGB := Lib.hid hgb
 have HBd := Lib.hid hb1
 generalize (w.alloc (.cells #[.slice A n c, .int .i64 r] 26)) = W at *
 have hgl := h1.out.lt
 rw [hgb] at h1 HBd hgl ⊢
 clear hgb hb1
 have x0 := h1.out.cell' (i := 0) rfl
 by_cases hn : 40 < n
 ·have hn' : (40 : Int) < n := by omega
  go_wp2
  go_ret
  exact ⟨_, rfl, by rw [HGB.out]; exact HBd.out⟩
 ·have hn' : ¬ (40 : Int) < n := by omega
  go_upto_region 5 with (fail)
  go_loopw [3, 4, 5] (fun p q v wr => ∃ (a b i : Nat), i ≤ n ∧ a ≤ 160 * i ∧ b ≤ 100 * i ∧ p = .int .i64 (a : Int) ∧ q = .int .i64 (b : Int) ∧ v = .int .i64 (i : Int) ∧ Below W.heap.size W wr) (fun _ _ v _ => n - (intOf v).toNat)
  case atStart => exact ⟨0, 0, 0, Nat.zero_le _, Nat.zero_le _, Nat.zero_le _, rfl, rfl, rfl, Below.refl _ _⟩
  case round =>
   obtain ⟨a, b, i, hi, ha, hb, rfl, rfl, rfl, hbr⟩ := hrel
   have X1 := Lib.hid (h1.out.keep hbr)
   have HA' := Lib.hid (HA.out.keep hbr)
   have HBr := Lib.hid (HBd.out.trans (hbr.mono (by omega)))
   clear x0
   have x0 := X1.out.cell' (i := 0) rfl
   by_cases hin : i < n
   ·have hin' : (i : Int) < n := by omega
    obtain ⟨ad, rfl, k, s, o, K, I, kn, kc, jn, jc, c0, c1, c2, c3, c4⟩ := HA'.out i hin
    have hb2 : Below wr.heap.size wr (wr.alloc (.cells #[.int .i64 k, .string s, .bool o, .slice K kn kc, .slice I jn jc] 34)) := (Below.refl _ _).alloc (Nat.le_refl _) _
    have hbr2 := Lib.hid (hbr.trans (hb2.mono hbr.size))
    by_cases hs : 100 < s.size ∨ 80 < kn ∨ 80 < jn
    ·have h1' : (100 : Int) < s.size ∨ (¬ (100 : Int) < s.size ∧ (80 : Int) < kn) ∨ (¬ (100 : Int) < s.size ∧ ¬ (80 : Int) < kn ∧ (80 : Int) < jn) := by omega
     clear hs
     rcases h1' with h2 | ⟨h2, h3⟩ | ⟨h2, h3, h4⟩
     all_goals
      go_wp2
      all_goals
       go_ret
       exact ⟨_, rfl, by rw [HGB.out]; exact HBr.out.trans (hb2.mono (by have := HBr.out.size; have := HGB.out; omega))⟩
    ·have h2 : ¬ (100 : Int) < s.size := by omega
     have h3 : ¬ (80 : Int) < kn := by omega
     have h4 : ¬ (80 : Int) < jn := by omega
     have b1 : kn ≤ 80 := by omega
     have b2 : jn ≤ 80 := by omega
     have b3 : s.size ≤ 100 := by omega
     have b4 : a ≤ 6400 := by omega
     have b5 : b ≤ 4000 := by omega
     clear hs
     go_wp2
     go_roundw
     case rel => exact ⟨a + (kn + jn), b + s.size, i + 1, by omega, by omega, by omega, i64e (by omega), i64e (by omega), i64e (by omega), hbr2.out⟩
     case measure => simp [intOf]; omega
   ·have hin' : ¬ (i : Int) < n := by omega
    go_wp2
    all_goals
     go_ret
     exact ⟨_, rfl, by rw [HGB.out]; exact HBr.out⟩
set_option maxRecDepth 20000 in
set_option maxHeartbeats 8000000 in
theorem fewc_any (o : Int) (ps : List Stp) (A B : Option Addr) (m n c d : Nat) (r : Int) (hm : ps.length = m) (hmx : m ≤ maxLen) (w : World) (hA : PRd w A ps) (hB : NdRd w B n) : Calls Tryz.prog 5 #[.agg #[.int .i64 o, .slice A m c, .slice B n d, .int .i64 r]] w (FewC w m) := by
 unfold maxLen at hmx
 have h1 : Hid (Arr (w.alloc (.cells #[.int .i64 o, .slice A m c, .slice B n d, .int .i64 r] 28)) w.heap.size 28 [.int .i64 o, .slice A m c, .slice B n d, .int .i64 r]) := Arr.new w _ _
 have hb1 : Below w.heap.size w (w.alloc (.cells #[.int .i64 o, .slice A m c, .slice B n d, .int .i64 r] 28)) := (Below.refl _ _).alloc (Nat.le_refl _) _
 have HA := Lib.hid (hA.keep hb1)
 have HB := Lib.hid (hB.keep hb1)
 have HM := Lib.hid hm
 clear hA hB hm
 go_enter Tryz.func5, Tryz.ntmps5
 go_upto_region 1 with (fail)
 obtain ⟨gb, hgb⟩ : ∃ x, w.heap.size = x := ⟨_, rfl⟩
 have HGB := Lib.hid hgb
 have HBd := Lib.hid hb1
 generalize (w.alloc (.cells #[.int .i64 o, .slice A m c, .slice B n d, .int .i64 r] 28)) = W at *
 have hgl := h1.out.lt
 rw [hgb] at h1 HBd hgl ⊢
 clear hgb hb1
 have x1 := h1.out.cell' (i := 1) rfl
 have x2 := h1.out.cell' (i := 2) rfl
 have x3 := h1.out.cell' (i := 3) rfl
 go_upto_region 2 with (fail)
 go_loop [3] (fun v => ∃ i : Nat, i ≤ m ∧ v = .int .i64 (i : Int)) (fun v => m - (intOf v).toNat)
 case atStart => exact ⟨0, Nat.zero_le _, rfl⟩
 case round =>
  obtain ⟨i, hi, rfl⟩ := hrel
  by_cases hin : i < m
  ·have hin' : (i : Int) < m := by omega
   obtain ⟨p, hp⟩ : ∃ p, ps[i]? = some p := ⟨_, List.getElem?_eq_getElem (by have := HM.out; omega)⟩
   obtain ⟨_, ad, rfl, _, c1⟩ := HA.out i p hp
   clear hp
   by_cases hs : 200 < p.2.length
   ·have hs' : (200 : Int) < p.2.length := by omega
    go_wp2
    go_ret
    exact ⟨_, rfl, fun h => (by cases h), by rw [HGB.out]; exact HBd.out⟩
   ·have hs' : ¬ (200 : Int) < p.2.length := by omega
    go_wp2
    go_round
    case rel => exact ⟨i + 1, by omega, i64e (by omega)⟩
    case measure => simp [intOf]; omega
  ·have hin' : ¬ (i : Int) < m := by omega
   have D := Lib.hid (few_any B n d r)
   by_cases h12 : m ≤ 12
   ·have h12' : (m : Int) ≤ 12 := by omega
    go_wp2_with (go_at_call 14; ((with_reducible refine (D.out _ HB.out).mono ?_)); rintro e w5 ⟨b, rfl, hb5⟩)
    go_ret
    exact ⟨_, rfl, fun _ => h12, by rw [HGB.out]; exact HBd.out.trans (hb5.mono (by omega))⟩
   ·have h12' : ¬ (m : Int) ≤ 12 := by omega
    go_wp2
    go_ret
    exact ⟨_, rfl, fun h => (by cases h), by rw [HGB.out]; exact HBd.out⟩
end Go.Proofs.YtoppncpmfajbcaaGreatDoor
namespace Go.Proofs.YtoppncpmfajbcaaGreatDoor
open Go.RowKit
end Go.Proofs.YtoppncpmfajbcaaGreatDoor
namespace Go.Proofs.YtoppncpmfajbcaaGreatDoor
open Go.RowKit
end Go.Proofs.YtoppncpmfajbcaaGreatDoor
namespace Go.Proofs.YtoppncpmfajbcaaGreatDoor
open Go.RowKit
theorem Tryz.info5 : (Tryz.prog.info? 5).map (fun i => (i.zero, i.size, i.bytes)) = some (some (.int .u8 0), 1, 1) := by kernel_rfl
theorem Tryz.size5 : (Tryz.prog.info? 5).map (·.size) = some 1 := by kernel_rfl
theorem Tryz.sz145 : (Tryz.prog.info? 145).map (·.size) = some 2 := by kernel_rfl
theorem Tryz.info3 : (Tryz.prog.info? 3).map (fun i => (i.zero, i.size, i.bytes)) = some (some (.int .i64 0), 1, 8) := by kernel_rfl
theorem rd_trim {w : World} {A : Option Addr} {ds : List Nat} (h : Rd w A (B8 ds)) (ht : Ten ds) : Rd w A (B8 (dg (val ds))) := by
 rw [dg_val ht]
 have := h.take (tlen ds)
 unfold B8 at this ⊢
 rwa [← List.map_take] at this
def TrimPost (ds : List Nat) (A : Option Addr) (c : Nat) (w : World) (e : Ending) (w' : World) : Prop :=
 ∃ k, e = .returned (.slice A k c) ∧ Hid (k = (dg (val ds)).length) ∧ k ≤ ds.length ∧ Rd w A (B8 (dg (val ds))) ∧ w = w'
theorem trim_end {w : World} {A : Option Addr} {ds : List Nat} {k c : Nat} {n : Nat} (hr : Rd w A (B8 ds)) (hd : Ten ds) (hn : n = ds.length) (hk : k ≤ n) (ht : tlen (ds.take k) = tlen ds)
  (he : tlen (ds.take k) = k) : TrimPost ds A c w (.returned (.slice A k c)) w := by
 refine ⟨k, rfl, ?_, by omega, rd_trim hr hd, rfl⟩
 show k = _
 rw [dg_val hd, List.length_take]
 have := tlen_le ds
 omega
set_option maxHeartbeats 400000 in
theorem trim_any (A : Option Addr) (n c : Nat) (ds : List Nat) (w : World) (hn : Hid (n = ds.length)) (hr : Rd w A (B8 ds)) (hd : Ten ds) (hc : n ≤ c) (hm : n ≤ maxLen) :
  Calls Tryz.prog 126 #[.slice A n c] w (TrimPost ds A c w) := by
 unfold maxLen at hm
 go_enter Tryz.func126, Tryz.ntmps126
 go_wp2
 go_loop [0] (fun v => ∃ k : Nat, k ≤ n ∧ Hid (tlen (ds.take k) = tlen ds) ∧ v = .slice A k c) (fun v => match v with | .slice _ k _ => k | _ => 0)
 case atStart => exact ⟨n, Nat.le_refl _, by show _ = _; rw [List.take_of_length_le (by have := hn.out; omega)], rfl⟩
 case round =>
  obtain ⟨k, hk, ht, rfl⟩ := hrel
  by_cases h0 : k = 0
  ·subst h0
   go_wp2
   go_ret
   exact trim_end hr hd hn.out hk ht.out (by simp [tlen])
  ·have hk1 : 0 < k := by omega
   have hk2 : k - 1 < ds.length := by have := hn.out; omega
   obtain ⟨d, hdd⟩ : ∃ d, ds[k-1]? = some d := ⟨_, List.getElem?_eq_getElem hk2⟩
   obtain ⟨ad, rfl, hcell⟩ := hr.at_ (B8_get hdd)
   have hs := tlen_take_succ hdd
   rw [show k - 1 + 1 = k by omega] at hs
   have HS := Lib.hid hs; clear hs
   have HD := Lib.hid hdd; clear hdd
   have e1 : ((k:Int) - 1).toNat = k - 1 := by omega
   by_cases hz : d = 0
   ·subst hz
    go_wp2
    refine ⟨⟨k - 1, by omega, ?_, rfl⟩, ?_⟩
    ·have h1 := HS.out
     rw [if_pos rfl] at h1
     exact h1.symm.trans ht.out
    ·show k - 1 < k
     omega
   ·have hz' : ((d : Int) == 0) = false := by simp; omega
    go_wp2
    go_ret
    have h1 := HS.out
    rw [if_neg hz] at h1
    exact trim_end hr hd hn.out hk ht.out (by omega)
end Go.Proofs.YtoppncpmfajbcaaGreatDoor
