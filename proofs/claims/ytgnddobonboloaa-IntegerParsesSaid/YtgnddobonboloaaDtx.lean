/- Plain: digits in a base, as letters, and back. -/
import Derived.Test.YtgnddobonboloaaRFits
import Derived.Test.YtgnddobonboloaaParse
import Derived.Test.YtgnddobonboloaaPlain2
namespace Go.Proofs.Ytgnddobonboloaa
open Go.RowKit
/-- The letter of a digit. -/
def hexch (d : Nat) : Nat := if d < 10 then 48 + d else 87 + d
def hexs : List Nat := [48, 49, 50, 51, 52, 53, 54, 55, 56, 57, 97, 98, 99, 100, 101, 102]
theorem hexs_get {d : Nat} (h : d < 16) : hexs[d]? = some (hexch d) := by
  have : d = 0 ∨ d = 1 ∨ d = 2 ∨ d = 3 ∨ d = 4 ∨ d = 5 ∨ d = 6 ∨ d = 7 ∨ d = 8 ∨ d = 9 ∨ d = 10 ∨ d = 11 ∨ d = 12 ∨ d = 13 ∨ d = 14 ∨ d = 15 := by omega
  rcases this with rfl | rfl | rfl | rfl | rfl | rfl | rfl | rfl | rfl | rfl | rfl | rfl | rfl | rfl | rfl | rfl <;> rfl
theorem digV_hexch {d : Nat} (h : d < 16) : digV (hexch d) = d := by
  unfold digV hexch
  split <;> split <;> (try omega) <;> (repeat' split) <;> omega
theorem hexch_lt {d : Nat} (h : d < 16) : hexch d < 256 := by unfold hexch; split <;> omega
theorem hexch_48 {d : Nat} (h : d < 16) (h0 : d ≠ 0) : hexch d ≠ 48 := by unfold hexch; split <;> omega
theorem hexch_sign {d : Nat} (h : d < 16) : hexch d ≠ 43 ∧ hexch d ≠ 45 := by unfold hexch; split <;> omega
/-- The text of a number in a base. -/
def dtx (b : Nat) (neg : Bool) (m : Nat) : List Nat := if m = 0 then [48] else (if neg then [45] else []) ++ ((dgb b m).reverse.map hexch)
theorem dgb_ten (m : Nat) : dgb 10 m = dg m := by
  induction m using Nat.strongRecOn with
  | _ m ih =>
    by_cases h : m = 0
    · subst h; rw [dgb_zero, dg_zero]
    · rw [dgb_pos h (by omega), dg_pos h, ih (m / 10) (by omega)]
theorem dtx_ten (neg : Bool) (m : Nat) : dtx 10 neg m = ntx neg m := by
  unfold dtx ntx
  by_cases h : m = 0
  · rw [if_pos h, if_pos h]
  · rw [if_neg h, if_neg h, dgb_ten]
    congr 1
    unfold asc
    rw [← List.map_reverse]
    refine List.map_congr_left fun d hd => ?_
    have := ten_dg m d (List.mem_reverse.1 hd)
    unfold hexch
    rw [if_pos this]
theorem dgb_len' {b n k : Nat} (hb : 2 ≤ b) (h : n < b ^ k) : (dgb b n).length ≤ k := by
  induction n using Nat.strongRecOn generalizing k with
  | _ n ih =>
    by_cases h0 : n = 0
    · subst h0; rw [dgb_zero]; simp
    · rw [dgb_pos h0 hb]
      cases k with
      | zero => simp at h; omega
      | succ k =>
        have h1 : n / b < b ^ k := by
          rw [Nat.div_lt_iff_lt_mul (by omega)]
          rwa [Nat.pow_succ] at h
        have := ih (n / b) (Nat.div_lt_self (by omega) (by omega)) (k := k) h1
        simp; omega
theorem hor_snoc (b : Nat) (f : Nat → Nat) (l : List Nat) (c : Nat) : hor b f (l ++ [c]) = hor b f l * b + f c := by
  unfold hor; rw [horF_append]; rfl
theorem hor_dgb {b m : Nat} (f g : Nat → Nat) (hb : 2 ≤ b) (hf : ∀ d, d < b → f (g d) = d) : hor b f ((dgb b m).reverse.map g) = m := by
  induction m using Nat.strongRecOn with
  | _ m ih =>
    by_cases h : m = 0
    · subst h; rw [dgb_zero]; rfl
    · rw [dgb_pos h hb, List.reverse_cons, List.map_append, List.map_cons, List.map_nil, hor_snoc, ih (m / b) (Nat.div_lt_self (by omega) (by omega)), hf _ (Nat.mod_lt _ (by omega))]
      have := Nat.div_add_mod m b
      rw [Nat.mul_comm] at this
      exact this
theorem dgb_ne_nil {b m : Nat} (hb : 2 ≤ b) (h : m ≠ 0) : dgb b m ≠ [] := by rw [dgb_pos h hb]; simp
theorem parB_dtx {b m : Nat} (neg : Bool) (hb : 2 ≤ b) (hb' : b ≤ 16) (h : m ≠ 0) : parB (dtx b neg m) = (neg, (dgb b m).reverse.map hexch) := by
  unfold dtx
  rw [if_neg h]
  cases neg with
  | true => rfl
  | false =>
    show parB ((dgb b m).reverse.map hexch) = _
    cases hl : (dgb b m).reverse with
    | nil => have := congrArg List.length hl; simp at this; exact absurd this (dgb_ne_nil hb h)
    | cons d r =>
      have hd : d < b := dgb_lt hb d (List.mem_reverse.1 (by rw [hl]; simp))
      have h1 := hexch_sign (d := d) (by omega)
      rw [List.map_cons]
      unfold parB
      split
      · next h2 => exact absurd (List.cons.inj h2).1 h1.1
      · next h2 => exact absurd (List.cons.inj h2).1 h1.2
      · rfl
theorem parR_dtx {b m : Nat} (neg : Bool) (hk : knownB (b : Int) = true) (hm : (dg m).length ≤ 400) : parR (dtx b neg m) (b : Int) = (ntx neg m, 0) := by
  have hb : b = 2 ∨ b = 8 ∨ b = 10 ∨ b = 16 := by unfold knownB at hk; have := of_decide_eq_true hk; omega
  have hb2 : 2 ≤ b := by omega
  have hb16 : b ≤ 16 := by omega
  unfold parR
  rw [if_pos hk, Int.toNat_natCast]
  by_cases h : m = 0
  · subst h
    have e : dtx b neg 0 = [48] := by unfold dtx; rw [if_pos rfl]
    rw [e, show parB [48] = (false, [48]) from rfl]
    dsimp only
    rw [if_neg (by simp)]
    unfold pB
    rw [if_pos (by simp [digV]; omega), if_pos (by decide), show lead 48 [48] = [] from rfl]
    show (tS (false, 0), tE (false, 0)) = _
    rw [tS_le (by rw [dg_zero]; exact Nat.zero_le _), tE_le (by rw [dg_zero]; exact Nat.zero_le _)]
    unfold ntx
    rw [if_pos rfl, if_pos rfl]
  · rw [parB_dtx neg hb2 hb16 h]
    dsimp only
    rw [if_neg (by intro e; have := congrArg List.length e; simp at this; exact dgb_ne_nil hb2 h this)]
    have hv : hor b digV ((dgb b m).reverse.map hexch) = m := hor_dgb digV hexch hb2 (fun d hd => digV_hexch (by omega))
    have hl1 : ((dgb b m).reverse.map hexch).length ≤ 1600 := by
      have := dgb_len (b := b) hb2 (dg_len2 (m := m) (k := 200) (by omega))
      simp; omega
    unfold pB
    rw [if_pos, if_pos (Nat.le_trans (lead_le _ _) hl1), hor_lead (by rfl), hv, tS_le hm, tE_le hm]
    rw [List.all_eq_true]
    intro c hc
    obtain ⟨d, hd, rfl⟩ := List.mem_map.1 hc
    have hd' := dgb_lt hb2 d (List.mem_reverse.1 hd)
    rw [digV_hexch (by omega)]
    exact decide_eq_true hd'
theorem by_dtx {b m : Nat} (neg : Bool) (hb : 2 ≤ b) (hb' : b ≤ 16) : By (dtx b neg m) := by
  unfold dtx
  split
  · intro c hc; have := List.mem_singleton.1 hc; omega
  · refine By.append ?_ ?_
    · cases neg
      · exact By.nil
      · intro c hc; have := List.mem_singleton.1 hc; omega
    · intro c hc
      obtain ⟨d, hd, rfl⟩ := List.mem_map.1 hc
      exact hexch_lt (by have := dgb_lt hb d (List.mem_reverse.1 hd); omega)
theorem len_dtx {b m : Nat} (neg : Bool) (hb : 2 ≤ b) (hm : (dg m).length ≤ 400) : (dtx b neg m).length ≤ 1500 := by
  unfold dtx
  split
  · simp
  · have := dgb_len (b := b) hb (dg_len2 (m := m) (k := 200) (by omega))
    cases neg <;> simp <;> omega
theorem dgb256_len {m k : Nat} (h : (dg m).length ≤ k) : (dgb 256 m).length ≤ k := dgb_len' (by omega) (Nat.lt_of_lt_of_le (dg_len_le.1 h) (Nat.pow_le_pow_left (by omega) _))
/-- The bytes of a number give the number back. -/
theorem mag_back {m : Nat} (hm : (dg m).length ≤ 400) : hor 256 id (lead 0 (dgb 256 m).reverse) = m ∧ (lead 0 (dgb 256 m).reverse).length ≤ 400 := by
  have h1 := hor_dgb (b := 256) (m := m) id id (by omega) (fun d _ => rfl)
  rw [List.map_id] at h1
  refine ⟨by rw [hor_lead rfl, h1], Nat.le_trans (lead_le _ _) ?_⟩
  rw [List.length_reverse]
  exact dgb256_len hm
end Go.Proofs.Ytgnddobonboloaa
