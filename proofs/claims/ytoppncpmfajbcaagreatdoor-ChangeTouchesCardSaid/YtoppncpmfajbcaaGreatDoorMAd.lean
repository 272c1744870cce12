/- The walks of change.Touches and of its reference: one plain function. -/
import Derived.Test.YtoppncpmfajbcaaGreatDoorMAb
import Derived.Test.YtoppncpmfajbcaaGreatDoorMAc
set_option linter.unusedVariables false
set_option linter.unusedSimpArgs false
set_option linter.defProp false
set_option linter.constructorNameAsVariable false
namespace Go.Proofs.YtoppncpmfajbcaaGreatDoor
open Go.RowKit
def agrL : List Stp → List Stp → Nat
  | a :: xs, b :: ys => if agrV a b then agrL xs ys + 1 else 0
  | _, _ => 0
def touV (oa : Int) (ps : List Stp) (ob : Int) (qs : List Stp) : Bool :=
  match ps[agrL ps qs]?, qs[agrL ps qs]? with
  | some x, some y =>
    if x.2 = [] ∧ y.2 = [] then decide (ps.length = agrL ps qs + 1) && movV oa || decide (qs.length = agrL ps qs + 1) && movV ob
    else decide (x.2 ≠ []) && decide (y.2 ≠ []) && (decide (ps.length = agrL ps qs + 1) && movV oa) && (decide (qs.length = agrL ps qs + 1) && movV ob) && (decide (oa = 2) || decide (ob = 2))
  | _, _ => true
theorem agrV_comm (a b : Stp) : agrV a b = agrV b a := by
  unfold agrV
  by_cases h : a.2 = [] ∧ b.2 = []
  · rw [if_pos h, if_pos h.symm, Bool.eq_iff_iff]; simp [eq_comm]
  · rw [if_neg h, if_neg (fun k => h k.symm), Bool.eq_iff_iff]; simp [eq_comm]
theorem agrL_comm (ps qs : List Stp) : agrL ps qs = agrL qs ps := by
  induction ps generalizing qs with
  | nil => cases qs <;> simp [agrL]
  | cons a ps ih =>
    cases qs with
    | nil => simp [agrL]
    | cons b qs => rw [agrL, agrL, ih qs, agrV_comm]
theorem touV_comm (oa : Int) (ps : List Stp) (ob : Int) (qs : List Stp) : touV oa ps ob qs = touV ob qs oa ps := by
  unfold touV
  rw [agrL_comm qs ps]
  cases ps[agrL ps qs]? with
  | none => cases qs[agrL ps qs]? <;> rfl
  | some x =>
    cases qs[agrL ps qs]? with
    | none => rfl
    | some y =>
      simp only
      by_cases h : x.2 = [] ∧ y.2 = []
      · rw [if_pos h, if_pos h.symm, Bool.or_comm]
      · rw [if_neg h, if_neg (fun k => h k.symm), Bool.eq_iff_iff]
        simp only [Bool.and_eq_true, Bool.or_eq_true]
        constructor <;> rintro ⟨⟨⟨⟨a, b⟩, c⟩, d⟩, e⟩ <;> exact ⟨⟨⟨⟨b, a⟩, d⟩, c⟩, e.symm⟩
theorem agrL_drop {ps qs : List Stp} {k : Nat} {x y : Stp} (hx : ps[k]? = some x) (hy : qs[k]? = some y) : agrL (ps.drop k) (qs.drop k) = if agrV x y then agrL (ps.drop (k + 1)) (qs.drop (k + 1)) + 1 else 0 := by
  have h1 := List.getElem?_eq_some_iff.1 hx
  have h2 := List.getElem?_eq_some_iff.1 hy
  rw [List.drop_eq_getElem_cons h1.1, List.drop_eq_getElem_cons h2.1, h1.2, h2.2, agrL]
theorem agrL_end {ps qs : List Stp} {k : Nat} (h : ps.length ≤ k ∨ qs.length ≤ k) : agrL (ps.drop k) (qs.drop k) = 0 := by
  rcases h with h | h
  · rw [List.drop_eq_nil_of_le h]; cases qs.drop k <;> rfl
  · rw [List.drop_eq_nil_of_le h]; cases ps.drop k <;> rfl
theorem touV_end {oa ob : Int} {ps qs : List Stp} {k : Nat} (hk : agrL ps qs = k) (h : ps.length = k ∨ qs.length = k) : touV oa ps ob qs = true := by
  unfold touV
  rw [hk]
  rcases h with h | h
  · rw [List.getElem?_eq_none (by omega)]
  · rw [List.getElem?_eq_none (l := qs) (by omega)]
    cases ps[k]? <;> rfl
set_option maxRecDepth 20000 in
set_option maxHeartbeats 8000000 in
theorem ctouches_any (oa ob : Int) (ps qs : List Stp) (A B : Option Addr) (ca cb : Nat) (G H : Value) (ra rb : Int) (hp : ps.length ≤ 4096) (hq : qs.length ≤ 4096) (w : World) (hA : PRd w A ps) (hB : PRd w B qs) :
    Calls Tryz.prog 6 #[.agg #[.int .i64 oa, .slice A ps.length ca, G, .int .i64 ra], .agg #[.int .i64 ob, .slice B qs.length cb, H, .int .i64 rb]] w fun e w' => e = .returned (.bool (touV oa ps ob qs)) ∧ Below w.heap.size w w' := by
  obtain ⟨h1, h2, hb1, hz1⟩ := box2 w 28 28 [.int .i64 oa, .slice A ps.length ca, G, .int .i64 ra] [.int .i64 ob, .slice B qs.length cb, H, .int .i64 rb]
  obtain ⟨V, hV⟩ : ∃ V, touV oa ps ob qs = V := ⟨_, rfl⟩
  have HV := Lib.hid hV
  rw [hV]
  clear hV
  have HA := Lib.hid (hA.keep hb1)
  have HB := Lib.hid (hB.keep hb1)
  clear hA hB
  go_enter Tryz.func6, Tryz.ntmps6
  go_upto_region 1 with (fail)
  obtain ⟨gb, hgb⟩ : ∃ x, w.heap.size = x := ⟨_, rfl⟩
  have HGB := Lib.hid hgb
  have HBd := Lib.hid hb1
  generalize ((w.alloc (.cells #[.int .i64 oa, .slice A ps.length ca, G, .int .i64 ra] 28)).alloc (.cells #[.int .i64 ob, .slice B qs.length cb, H, .int .i64 rb] 28)) = W at *
  rw [hgb] at h1 h2 hz1 HBd ⊢
  clear hgb hb1
  obtain ⟨n, hn⟩ : ∃ n, ps.length = n := ⟨_, rfl⟩
  obtain ⟨m, hm⟩ : ∃ m, qs.length = m := ⟨_, rfl⟩
  rw [hn] at h1 hp ⊢
  rw [hm] at h2 hq ⊢
  have HN := Lib.hid hn
  have HM := Lib.hid hm
  clear hn hm
  have hst0 : Hid (agrL ps qs = 0 + agrL (ps.drop 0) (qs.drop 0)) := by show _ = _; simp
  go_upto_region 2 with (fail)
  go_loopw [5] (fun v wr => ∃ k : Nat, k ≤ n ∧ k ≤ m ∧ v = .int .i64 (k : Int) ∧ Hid (agrL ps qs = k + agrL (ps.drop k) (qs.drop k)) ∧ Below W.heap.size W wr) (fun v _ => n - (intOf v).toNat)
  case atStart => exact ⟨0, Nat.zero_le _, Nat.zero_le _, rfl, hst0, Below.refl _ _⟩
  case round =>
    obtain ⟨k, hkn, hkm, rfl, hag, hbr⟩ := hrel
    have X1 := Lib.hid (h1.out.keep hbr)
    have X2 := Lib.hid (h2.out.keep hbr)
    have HA' := Lib.hid (HA.out.keep hbr)
    have HB' := Lib.hid (HB.out.keep hbr)
    have HBr := Lib.hid (HBd.out.trans (hbr.mono (by have := hz1.out; omega)))
    clear hst0
    have a1 := X1.out.cell' (i := 1) rfl
    have b1 := X2.out.cell' (i := 1) rfl
    by_cases hn1 : k < n
    · by_cases hm1 : k < m
      · obtain ⟨x, hx⟩ : ∃ x, ps[k]? = some x := ⟨_, List.getElem?_eq_getElem (by have := HN.out; omega)⟩
        obtain ⟨y, hy⟩ : ∃ y, qs[k]? = some y := ⟨_, List.getElem?_eq_getElem (by have := HM.out; omega)⟩
        obtain ⟨bx, adx, rfl, x0, x1⟩ := HA'.out k x hx
        obtain ⟨by_, ady, rfl, y0, y1⟩ := HB'.out k y hy
        have hst := agrL_drop hx hy
        have HX := Lib.hid hx
        have HY := Lib.hid hy
        clear hx hy
        have hk1 : (k : Int) < n := by omega
        have hk2 : (k : Int) < m := by omega
        have D := Lib.hid (fun w' => cagree_any x y bx by_ w')
        have DB := Lib.hid (HBr.out)
        cases hv : agrV x y with
        | true =>
          rw [hv] at D
          have hst1 : Hid (agrL ps qs = (k + 1 : Nat) + agrL (ps.drop (k + 1)) (qs.drop (k + 1))) := by show _ = _; rw [hag.out, hst, hv, if_pos rfl]; omega
          clear hst hv
          go_upto_region 3 with (fail)
          obtain ⟨z, hz⟩ : ∃ z, wr.heap.size = z := ⟨_, rfl⟩
          have HZ := Lib.hid hz
          have r1 : ∀ w', Below z wr w' → w'.cell? ⟨gb, 1, none⟩ = some (.slice (some adx) n ca) := fun w' h => (h.cell (by have := block_lt_of_cell a1; rw [HZ.out] at this; exact this)).trans a1
          have r2 : ∀ w', Below z wr w' → w'.cell? ⟨gb + 1, 1, none⟩ = some (.slice (some ady) m cb) := fun w' h => (h.cell (by have := block_lt_of_cell b1; rw [HZ.out] at this; exact this)).trans b1
          have r3 : ∀ w', Below z wr w' → w'.cell? (adx.add (k * 2)) = some (.int .i64 x.1) := fun w' h => (h.cell (by have := block_lt_of_cell x0; rw [HZ.out] at this; exact this)).trans x0
          have r4 : ∀ w', Below z wr w' → w'.cell? ⟨(adx.add (k * 2)).block, (adx.add (k * 2)).off + 1, none⟩ = some (.string (mks x.2)) := fun w' h => (h.cell (by have := block_lt_of_cell x1; rw [HZ.out] at this; exact this)).trans x1
          have r5 : ∀ w', Below z wr w' → w'.cell? (ady.add (k * 2)) = some (.int .i64 y.1) := fun w' h => (h.cell (by have := block_lt_of_cell y0; rw [HZ.out] at this; exact this)).trans y0
          have r6 : ∀ w', Below z wr w' → w'.cell? ⟨(ady.add (k * 2)).block, (ady.add (k * 2)).off + 1, none⟩ = some (.string (mks y.2)) := fun w' h => (h.cell (by have := block_lt_of_cell y1; rw [HZ.out] at this; exact this)).trans y1
          have hS0 : Below z wr wr.drew := (Below.refl _ _).drew
          have hzs : z ≤ wr.drew.heap.size := by show z ≤ wr.heap.size; omega
          clear a1 b1 x0 x1 y0 y1 hz
          go_region_held3 (fun w' => Below z wr w') (first | assumption | go_keep)
            (first | (go_at_call 15; ((with_reducible refine (D.out _).mono ?_)); rintro e w5 ⟨rfl, hb5⟩; have hS5 : Below z wr w5 := Below.trans (by first | assumption) (hb5.mono (by first | assumption))))
          go_wp2_with (fail)
          go_roundw
          case rel => exact ⟨k + 1, by omega, by omega, i64e (by omega), hst1, hbr.trans (hS5.mono (by have := hbr.size; have := HZ.out; omega))⟩
          case measure => simp [intOf]; omega
        | false =>
          rw [hv] at D
          have hst1 : Hid (agrL ps qs = k) := by show _ = _; rw [hag.out, hst, hv, if_neg (by simp)]; omega
          clear hst hv
          go_upto_region 3 with (fail)
          obtain ⟨z, hz⟩ : ∃ z, wr.heap.size = z := ⟨_, rfl⟩
          have HZ := Lib.hid hz
          have r1 : ∀ w', Below z wr w' → w'.cell? ⟨gb, 1, none⟩ = some (.slice (some adx) n ca) := fun w' h => (h.cell (by have := block_lt_of_cell a1; rw [HZ.out] at this; exact this)).trans a1
          have r2 : ∀ w', Below z wr w' → w'.cell? ⟨gb + 1, 1, none⟩ = some (.slice (some ady) m cb) := fun w' h => (h.cell (by have := block_lt_of_cell b1; rw [HZ.out] at this; exact this)).trans b1
          have r3 : ∀ w', Below z wr w' → w'.cell? (adx.add (k * 2)) = some (.int .i64 x.1) := fun w' h => (h.cell (by have := block_lt_of_cell x0; rw [HZ.out] at this; exact this)).trans x0
          have r4 : ∀ w', Below z wr w' → w'.cell? ⟨(adx.add (k * 2)).block, (adx.add (k * 2)).off + 1, none⟩ = some (.string (mks x.2)) := fun w' h => (h.cell (by have := block_lt_of_cell x1; rw [HZ.out] at this; exact this)).trans x1
          have r5 : ∀ w', Below z wr w' → w'.cell? (ady.add (k * 2)) = some (.int .i64 y.1) := fun w' h => (h.cell (by have := block_lt_of_cell y0; rw [HZ.out] at this; exact this)).trans y0
          have r6 : ∀ w', Below z wr w' → w'.cell? ⟨(ady.add (k * 2)).block, (ady.add (k * 2)).off + 1, none⟩ = some (.string (mks y.2)) := fun w' h => (h.cell (by have := block_lt_of_cell y1; rw [HZ.out] at this; exact this)).trans y1
          have hS0 : Below z wr wr.drew := (Below.refl _ _).drew
          have hzs : z ≤ wr.drew.heap.size := by show z ≤ wr.heap.size; omega
          clear a1 b1 x0 x1 y0 y1 hz
          go_region_held3 (fun w' => Below z wr w') (first | assumption | go_keep)
            (first | (go_at_call 15; ((with_reducible refine (D.out _).mono ?_)); rintro e w5 ⟨rfl, hb5⟩; have hS5 : Below z wr w5 := Below.trans (by first | assumption) (hb5.mono (by first | assumption))))
          have hn2 : ((k : Int) == n) = false := by simp; omega
          have hm2 : ((k : Int) == m) = false := by simp; omega
          have q1 := r1 w5 hS5
          have q2 := r2 w5 hS5
          have q3 := r3 w5 hS5
          have q4 := r4 w5 hS5
          have q5 := r5 w5 hS5
          have q6 := r6 w5 hS5
          clear r1 r2 r3 r4 r5 r6
          go_upto_region 6 with (fail)
          have hB5 := Lib.hid (HBr.out.trans (hS5.mono (by have := HBr.out.size; have := HZ.out; have := HGB.out; omega)))
          have X15 := Lib.hid (X1.out.keep (hS5.mono (Nat.le_of_eq HZ.out)))
          have X25 := Lib.hid (X2.out.keep (hS5.mono (Nat.le_of_eq HZ.out)))
          clear hbr HBr X1 X2 h1 h2 HA HB HA' HB'
          have hw5 := hS5.size
          have e1 := World.new_ne w5 _ q1
          have e2 := World.new_ne w5 _ q2
          have e3 := World.new_ne w5 _ q3
          have e4 := World.new_ne w5 _ q4
          have e5 := World.new_ne w5 _ q5
          have e6 := World.new_ne w5 _ q6
          have hV2 : Hid (V = if x.2 = [] ∧ y.2 = [] then ((n : Int) == (k : Int) + 1) && movV oa || ((m : Int) == (k : Int) + 1) && movV ob
              else decide (x.2 ≠ []) && decide (y.2 ≠ []) && (((n : Int) == (k : Int) + 1) && movV oa) && (((m : Int) == (k : Int) + 1) && movV ob) && (decide (oa = 2) || decide (ob = 2))) := by
            have e1 : decide (ps.length = k + 1) = ((n : Int) == (k : Int) + 1) := by rw [HN.out, Bool.eq_iff_iff]; simp; omega
            have e2 : decide (qs.length = k + 1) = ((m : Int) == (k : Int) + 1) := by rw [HM.out, Bool.eq_iff_iff]; simp; omega
            show _ = _
            rw [← HV.out, touV, hst1.out, HX.out, HY.out]
            simp only [e1, e2]
          have hoa : (oa == 2) = decide (oa = 2) := rfl
          have hob : (ob == 2) = decide (ob = 2) := rfl
          obtain ⟨la, hla⟩ : ∃ la, ((n : Int) == (k : Int) + 1) = la := ⟨_, rfl⟩
          obtain ⟨lb, hlb⟩ : ∃ lb, ((m : Int) == (k : Int) + 1) = lb := ⟨_, rfl⟩
          rw [hla, hlb] at hV2
          clear HV hst1 HX HY hS0 hzs hb5 D DB HN HM hag hn2 hm2 hk1 hk2
          go_region_held3 (fun w' => w'.cell? ⟨gb, 1, none⟩ = some (.slice (some adx) n ca) ∧ w'.cell? ⟨gb + 1, 1, none⟩ = some (.slice (some ady) m cb) ∧ w'.cell? (adx.add (k * 2)) = some (.int .i64 x.1) ∧ w'.cell? ⟨(adx.add (k * 2)).block, (adx.add (k * 2)).off + 1, none⟩ = some (.string (mks x.2)) ∧ w'.cell? (ady.add (k * 2)) = some (.int .i64 y.1) ∧ w'.cell? ⟨(ady.add (k * 2)).block, (ady.add (k * 2)).off + 1, none⟩ = some (.string (mks y.2)))
            (first | exact ⟨q1, q2, q3, q4, q5, q6⟩ | go_keep) (fail)
          all_goals
            clear e1 e2 e3 e4 e5 e6 q1 q2 q3 q4 q5 q6
            first
              | (obtain ⟨wl, hwl⟩ : ∃ wl, wl = (w5.alloc (.cells #[.int .i64 x.1, .string (mks x.2)] 36)).alloc (.cells #[.int .i64 y.1, .string (mks y.2)] 36) := ⟨_, rfl⟩
                 rw [← hwl]
                 obtain ⟨k1, k2, kb, kz⟩ := box2 w5 36 36 [.int .i64 x.1, .string (mks x.2)] [.int .i64 y.1, .string (mks y.2)])
              | (obtain ⟨wl, hwl⟩ : ∃ wl, wl = (w5.alloc (.cells #[.int .i64 y.1, .string (mks y.2)] 36)).alloc (.cells #[.int .i64 x.1, .string (mks x.2)] 36) := ⟨_, rfl⟩
                 rw [← hwl]
                 obtain ⟨k2, k1, kb, kz⟩ := box2 w5 36 36 [.int .i64 y.1, .string (mks y.2)] [.int .i64 x.1, .string (mks x.2)])
            rw [← hwl] at k1 k2 kb
            obtain ⟨zl, hzl⟩ : ∃ z, wl.heap.size = z := ⟨_, rfl⟩
            have g0 : ∀ w', Below zl wl w' → w'.cell? ⟨gb, 0, none⟩ = some (.int .i64 oa) := fun w' h => (((X15.out.keep kb).keep (by rw [hzl]; exact h))).cell' (i := 0) rfl
            have g1 : ∀ w', Below zl wl w' → w'.cell? ⟨gb, 1, none⟩ = some (.slice (some adx) n ca) := fun w' h => (((X15.out.keep kb).keep (by rw [hzl]; exact h))).cell' (i := 1) rfl
            have g2 : ∀ w', Below zl wl w' → w'.cell? ⟨gb, 2, none⟩ = some (G) := fun w' h => (((X15.out.keep kb).keep (by rw [hzl]; exact h))).cell' (i := 2) rfl
            have g3 : ∀ w', Below zl wl w' → w'.cell? ⟨gb, 3, none⟩ = some (.int .i64 ra) := fun w' h => (((X15.out.keep kb).keep (by rw [hzl]; exact h))).cell' (i := 3) rfl
            have f0 : ∀ w', Below zl wl w' → w'.cell? ⟨gb + 1, 0, none⟩ = some (.int .i64 ob) := fun w' h => (((X25.out.keep kb).keep (by rw [hzl]; exact h))).cell' (i := 0) rfl
            have f1 : ∀ w', Below zl wl w' → w'.cell? ⟨gb + 1, 1, none⟩ = some (.slice (some ady) m cb) := fun w' h => (((X25.out.keep kb).keep (by rw [hzl]; exact h))).cell' (i := 1) rfl
            have f2 : ∀ w', Below zl wl w' → w'.cell? ⟨gb + 1, 2, none⟩ = some (H) := fun w' h => (((X25.out.keep kb).keep (by rw [hzl]; exact h))).cell' (i := 2) rfl
            have f3 : ∀ w', Below zl wl w' → w'.cell? ⟨gb + 1, 3, none⟩ = some (.int .i64 rb) := fun w' h => (((X25.out.keep kb).keep (by rw [hzl]; exact h))).cell' (i := 3) rfl
            have p1 := fun w' (h : Below zl wl w') => (k1.out.keep (by rw [hzl]; exact h)).cell' (i := 1) rfl
            have p2 := fun w' (h : Below zl wl w') => (k2.out.keep (by rw [hzl]; exact h)).cell' (i := 1) rfl
            have p1' := p1 wl (Below.refl _ _)
            have p2' := p2 wl (Below.refl _ _)
            have g0' := g0 wl (Below.refl _ _)
            have g2' := g2 wl (Below.refl _ _)
            have g3' := g3 wl (Below.refl _ _)
            have f0' := f0 wl (Below.refl _ _)
            have f2' := f2 wl (Below.refl _ _)
            have f3' := f3 wl (Below.refl _ _)
            have HBl := Lib.hid (hB5.out.trans (kb.mono (by have := hB5.out.size; have := HGB.out; omega)))
            have hwz : gb ≤ zl := by have := HBl.out.size; have := HGB.out; omega
            have hS : Below zl wl wl := Below.refl _ _
            have hsz : zl ≤ wl.heap.size := by omega
            clear X15 X25 kb kz k1 k2 hwl hB5 hS5 hzl
            have hk0 : (0 : Int) ≤ k := by omega
            have hk4 : (k : Int) ≤ 4096 := by omega
            have g1' := g1 wl (Below.refl _ _)
            have f1' := f1 wl (Below.refl _ _)
            go_upto_region 8 with (fail)
            go_quiet (fail)
            go_wp2_with (go_at_call 16; ((with_reducible refine (cmoves_any _ _ _ _ _ _ _).mono ?_)); rintro e wn ⟨rfl, hbn⟩; replace hS := Below.trans (by first | exact hS | exact Below.drewN' hS _) (hbn.mono hsz); replace hsz := Nat.le_trans hsz hbn.size; clear hbn)
            all_goals
              go_ret
              refine ⟨ret_b ?_, by rw [HGB.out]; first | exact HBl.out.trans (hS.mono hwz) | exact Below.drewN' HBl.out _⟩
              clear p1 p2 g0 g1 g2 g3 f0 f1 f2 f3 p1' p2' g0' g2' g3' f0' f2' f3' hS hsz HBl
              rw [hV2.out]
              clear hV2
              simp_all [toList_mks]
      · have hk1 : (k : Int) < n := by omega
        have hk2 : ¬ (k : Int) < m := by omega
        have hm2 : ((k : Int) == m) = true := by simp; omega
        have hst1 : Hid (agrL ps qs = k) := by show _ = _; rw [hag.out, agrL_end (.inr (by have := HM.out; omega))]; omega
        have hV : V = true := by rw [← HV.out]; exact touV_end hst1.out (.inr (by have := HM.out; omega))
        subst hV
        go_upto_region 3 with (fail)
        go_quiet (fail)
        go_wp2_with (fail)
        all_goals
          go_ret
          exact ⟨rfl, by rw [HGB.out]; exact Below.drewN' HBr.out _⟩
    · have hk1 : ¬ (k : Int) < n := by omega
      have hn2 : ((k : Int) == n) = true := by simp; omega
      have hst1 : Hid (agrL ps qs = k) := by show _ = _; rw [hag.out, agrL_end (.inl (by have := HN.out; omega))]; omega
      have hV : V = true := by rw [← HV.out]; exact touV_end hst1.out (.inl (by have := HN.out; omega))
      subst hV
      go_upto_region 3 with (fail)
      go_quiet (fail)
      go_wp2_with (fail)
      all_goals
        go_ret
        exact ⟨rfl, by rw [HGB.out]; exact Below.drewN' HBr.out _⟩
end Go.Proofs.YtoppncpmfajbcaaGreatDoor
