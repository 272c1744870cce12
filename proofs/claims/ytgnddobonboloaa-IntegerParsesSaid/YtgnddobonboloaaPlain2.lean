/- Plain laws of division. -/
import Derived.Test.YtgnddobonboloaaPlain
namespace Go.Proofs.Ytgnddobonboloaa
theorem tS_le {x : Bool × Nat} (h : (dg x.2).length ≤ 400) : tS x = ntx x.1 x.2 := by unfold tS; rw [if_pos h]
theorem tE_le {x : Bool × Nat} (h : (dg x.2).length ≤ 400) : tE x = 0 := by unfold tE; rw [if_pos h]
theorem dmR_lt (x y : Bool × Nat) (h : y.2 ≠ 0) : dmR x y < y.2 := by
  have := Nat.mod_lt x.2 (show 0 < y.2 by omega)
  unfold dmR
  split <;> omega
theorem dmR_len {x y : Bool × Nat} (h : y.2 ≠ 0) (hy : (dg y.2).length ≤ 400) : (dg (dmR x y)).length ≤ 400 :=
  Nat.le_trans (dg_len_mono (Nat.le_of_lt (dmR_lt x y h))) hy
theorem dmQ_le (x y : Bool × Nat) (h : y.2 ≠ 0) : dmQ x y ≤ x.2 := by
  unfold dmQ
  split
  · next hc =>
    have h1 : y.2 ≠ 1 := by intro e; apply hc.2; rw [e]; exact Nat.mod_one _
    have h2 : x.2 ≠ 0 := by intro e; apply hc.2; rw [e]; exact Nat.zero_mod _
    have : x.2 / y.2 < x.2 := Nat.div_lt_self (by omega) (by omega)
    omega
  · exact Nat.div_le_self _ _
theorem dmQ_len {x y : Bool × Nat} (h : y.2 ≠ 0) (hx : (dg x.2).length ≤ 400) : (dg (dmQ x y)).length ≤ 400 := Nat.le_trans (dg_len_mono (dmQ_le x y h)) hx
/-- A number with its sign in order: no sign at zero. -/
def Ok (x : Bool × Nat) : Prop := x.1 = true → 0 < x.2
theorem parse_tS {x : Bool × Nat} (h : (dg x.2).length ≤ 400) (ho : Ok x) : parseC (tS x) = some x := by
  rw [tS_le h, parseC_ntx _ _ h]
  obtain ⟨s, m⟩ := x
  cases s
  · rfl
  · have := ho rfl
    simp only [Bool.true_and]
    rw [decide_eq_true this]
theorem ok_dmQN (x y : Bool × Nat) : Ok (dmQN x y) := by
  intro h
  unfold dmQN at h ⊢
  rw [Bool.and_eq_true] at h
  exact of_decide_eq_true h.2
theorem ok_dmRN (x y : Bool × Nat) : Ok (dmRN x y) := by
  intro h
  unfold dmRN at h ⊢
  rw [Bool.and_eq_true] at h
  exact of_decide_eq_true h.2
theorem by_tS (x : Bool × Nat) : By (tS x) := by
  unfold tS
  split
  · exact by_ntx _ _
  · exact By.nil
/-- The integer. -/
def zN (x : Bool × Nat) : Int := if x.1 then -(x.2 : Int) else (x.2 : Int)
theorem zN_inj {x y : Bool × Nat} (hx : Ok x) (hy : Ok y) (h : zN x = zN y) : x = y := by
  obtain ⟨s, m⟩ := x
  obtain ⟨t, n⟩ := y
  unfold Ok at hx hy
  unfold zN at h
  cases s <;> cases t <;> simp at hx hy h ⊢ <;> omega
theorem zN_sum (x y : Bool × Nat) : zN (sumN x y) = zN x + zN y := by
  obtain ⟨s, m⟩ := x
  obtain ⟨t, n⟩ := y
  unfold sumN zN
  cases s <;> cases t <;> simp <;> (try (repeat' split)) <;> (try simp_all) <;> (try omega)
theorem zN_neg (x : Bool × Nat) : zN (negN x) = - zN x := by
  obtain ⟨s, m⟩ := x
  unfold negN zN
  cases s <;> by_cases h : 0 < m <;> simp [h] <;> omega
theorem zN_mul (x y : Bool × Nat) : zN (mulN x y) = zN x * zN y := by
  obtain ⟨s, m⟩ := x
  obtain ⟨t, n⟩ := y
  unfold mulN zN
  by_cases h : 0 < m * n
  · cases s <;> cases t <;> simp [h, Int.neg_mul, Int.mul_neg]
  · have h0 : m * n = 0 := by omega
    have h1 : (m : Int) * (n : Int) = 0 := by exact_mod_cast h0
    cases s <;> cases t <;> simp [h0, h1, Int.neg_mul, Int.mul_neg]
theorem zN_lt {x : Bool × Nat} {k : Nat} (h : x.2 < k) : -(k : Int) < zN x ∧ zN x < k := by
  unfold zN; split <;> omega
theorem zN_sg (s : Bool) (m : Nat) : zN (s && decide (0 < m), m) = if s then -(m : Int) else m := by
  unfold zN
  cases s <;> by_cases h : 0 < m <;> simp [h] <;> omega
theorem zN_dm (x y : Bool × Nat) (h : y.2 ≠ 0) : zN (dmQN x y) * zN y + zN (dmRN x y) = zN x := by
  have e := Nat.div_add_mod x.2 y.2
  have hm := Nat.mod_lt x.2 (show 0 < y.2 by omega)
  unfold dmQN dmRN
  rw [zN_sg, zN_sg]
  obtain ⟨s, m⟩ := x
  obtain ⟨t, n⟩ := y
  dsimp only at e hm h
  have e' : (n : Int) * ((m / n : Nat) : Int) + ((m % n : Nat) : Int) = m := by exact_mod_cast e
  unfold dmQ dmR zN
  dsimp only
  generalize m / n = q at *
  generalize m % n = r at *
  have c : (q : Int) * n = n * q := Int.mul_comm _ _
  by_cases hr : r = 0
  · subst hr
    cases s <;> cases t <;> simp [Int.neg_mul, Int.mul_neg, c] <;> omega
  · have hs : ((n - r : Nat) : Int) = n - r := by omega
    cases s <;> cases t <;> simp [hr, Int.neg_mul, Int.mul_neg, Int.add_mul, Int.neg_add, c, hs] <;> omega
/-- The sign of a number. -/
def sg (x : Bool × Nat) : Int := if x.2 = 0 then 0 else if x.1 then -1 else 1
theorem cmpP_zero {x : Bool × Nat} (h : Ok x) : cmpP x (false, 0) = sg x := by
  obtain ⟨s, m⟩ := x
  unfold Ok at h
  unfold cmpP sg cmpN
  dsimp only at h ⊢
  cases s
  · by_cases h0 : m = 0 <;> simp [h0]
  · have := h rfl
    have h0 : m ≠ 0 := by omega
    simp [h0]
theorem sg_dmR {x y : Bool × Nat} (h : (dmRN x y).2 ≠ 0) (hy : y.2 ≠ 0) : sg (dmRN x y) = sg y := by
  unfold sg
  rw [if_neg h, if_neg hy]
  have h' : 0 < dmR x y := by have : dmR x y ≠ 0 := h; omega
  unfold dmRN
  simp [h']
theorem sub_dm {x y : Bool × Nat} (hy : y.2 ≠ 0) : (sumN (dmRN x y) (negN y)).2 ≤ y.2 ∧ sg (sumN (dmRN x y) (negN y)) = - sg y ∧ Ok (sumN (dmRN x y) (negN y)) := by
  have hlt := dmR_lt x y hy
  obtain ⟨t, n⟩ := y
  unfold dmRN negN sumN Ok sg
  dsimp only at hy hlt ⊢
  generalize dmR x (t, n) = r at *
  have hn : 0 < n := by omega
  cases t <;> by_cases hr : 0 < r <;> simp [hn, hr, hy] <;> (try (repeat' split)) <;> (try simp_all) <;> (try omega)
theorem qn_le (x y : Bool × Nat) : dmQ x y * y.2 ≤ x.2 + y.2 := by
  have e := Nat.div_mul_le_self x.2 y.2
  unfold dmQ
  split
  · rw [Nat.add_mul, Nat.one_mul]; omega
  · omega
theorem qn_small {x y : Bool × Nat} (h : x.2 < y.2) : dmQ x y * y.2 ≤ y.2 := by
  unfold dmQ
  rw [Nat.div_eq_of_lt h]
  split
  · rw [Nat.zero_add, Nat.one_mul]; exact Nat.le_refl _
  · rw [Nat.zero_mul]; exact Nat.zero_le _
theorem dg_len_dbl {m n k : Nat} (h : (dg m).length ≤ k) (hn : n ≤ m + m) : (dg n).length ≤ k + 1 := by
  rw [dg_len_le] at *
  rw [Nat.pow_succ]
  omega
theorem mul_long {x y : Bool × Nat} (hy : (dg y.2).length ≤ 400) (h : ¬ (dg (dmQ x y * y.2)).length ≤ 400) : 400 ≤ (dg x.2).length := by
  have h1 := qn_le x y
  by_cases hs : x.2 < y.2
  · exact absurd (Nat.le_trans (dg_len_mono (qn_small hs)) hy) h
  · by_cases hl : (dg x.2).length ≤ 399
    · exact absurd (dg_len_dbl hl (by omega)) h
    · omega
theorem can_dgX (b : Bool) (m : Nat) : Ok (b && decide (0 < m), m) := by
  intro h
  rw [Bool.and_eq_true] at h
  exact of_decide_eq_true h.2
theorem tS_can (b : Bool) (m : Nat) (h : (dg m).length ≤ 400) : tS (b && decide (0 < m), m) = ntx b m := by
  rw [tS_le h]
  by_cases h0 : m = 0
  · subst h0; unfold ntx; rw [if_pos rfl, if_pos rfl]
  · rw [decide_eq_true (show 0 < m by omega), Bool.and_true]
theorem ok_sumN {x y : Bool × Nat} (hx : Ok x) (hy : Ok y) : Ok (sumN x y) := by
  obtain ⟨s, m⟩ := x
  obtain ⟨t, n⟩ := y
  unfold Ok sumN at *
  dsimp only at *
  cases s <;> cases t <;> simp at * <;> (try (repeat' split)) <;> (try simp_all) <;> (try omega)
theorem ok_negN (x : Bool × Nat) : Ok (negN x) := by
  intro h
  unfold negN at h ⊢
  rw [Bool.and_eq_true] at h
  exact of_decide_eq_true h.2
theorem ok_mulN (x y : Bool × Nat) : Ok (mulN x y) := by
  intro h
  unfold mulN at h ⊢
  rw [Bool.and_eq_true] at h
  exact of_decide_eq_true h.2
theorem div_back {x y : Bool × Nat} (hx : Ok x) (hy : y.2 ≠ 0) : sumN (mulN (dmQN x y) y) (dmRN x y) = x :=
  zN_inj (ok_sumN (ok_mulN _ _) (ok_dmRN _ _)) hx (by rw [zN_sum, zN_mul, zN_dm _ _ hy])
/-- All that the law of division asks of the numbers. -/
theorem sg_cases {x y : Bool × Nat} (hy : y.2 ≠ 0) : ∃ z k kk : Int, sg (dmRN x y) = z ∧ sg y = k ∧ sg (sumN (dmRN x y) (negN y)) = kk ∧
    ((z = 0 ∧ k = 1 ∧ kk = -1) ∨ (z = 1 ∧ k = 1 ∧ kk = -1) ∨ (z = 0 ∧ k = -1 ∧ kk = 1) ∨ (z = -1 ∧ k = -1 ∧ kk = 1)) := by
  refine ⟨_, _, _, rfl, rfl, rfl, ?_⟩
  rw [(sub_dm (x := x) hy).2.1]
  have h1 : sg y = 1 ∨ sg y = -1 := by unfold sg; rw [if_neg hy]; split <;> simp
  by_cases h0 : (dmRN x y).2 = 0
  · have : sg (dmRN x y) = 0 := by unfold sg; rw [if_pos h0]
    omega
  · have := sg_dmR (x := x) h0 hy
    omega
end Go.Proofs.Ytgnddobonboloaa
