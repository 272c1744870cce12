/- Plain laws: texts and the numbers they spell. -/
import Derived.Test.YtgnddobonboloaaParse
import Derived.Test.YtgnddobonboloaaMul
import Derived.Test.YtgnddobonboloaaFits
namespace Go.Proofs.Ytgnddobonboloaa
open Go.RowKit

theorem top_dg {m : Nat} (h : m ≠ 0) : ∃ d r, (dg m).reverse = d :: r ∧ 1 ≤ d ∧ d < 10 := by
  induction m using Nat.strongRecOn with
  | _ m ih =>
    rw [dg_pos h, List.reverse_cons]
    by_cases h1 : m / 10 = 0
    · rw [h1, dg_zero]
      exact ⟨m % 10, [], rfl, by omega, by omega⟩
    · obtain ⟨d, r, e, h2, h3⟩ := ih (m / 10) (by omega) h1
      exact ⟨d, r ++ [m % 10], by rw [e]; rfl, h2, h3⟩

theorem ntx_pos {m : Nat} (h : m ≠ 0) (neg : Bool) : ntx neg m = (if neg then [45] else []) ++ (asc (dg m)).reverse := by unfold ntx; rw [if_neg h]
theorem asc_top {m : Nat} (h : m ≠ 0) : ∃ c r, (asc (dg m)).reverse = c :: r ∧ 49 ≤ c ∧ c ≤ 57 := by
  obtain ⟨d, r, e, h1, h2⟩ := top_dg h
  refine ⟨48 + d, asc r, ?_, by omega, by omega⟩
  unfold asc
  rw [← List.map_reverse, e]
  rfl
theorem all_asc (m : Nat) : ((asc (dg m)).reverse).all isDig = true := by
  rw [List.all_eq_true]
  intro c hc
  rw [List.mem_reverse] at hc
  obtain ⟨d, hd, rfl⟩ := List.mem_map.1 hc
  have := ten_dg m d hd
  unfold isDig
  exact decide_eq_true (by omega)
theorem dec_asc (ds : List Nat) : (dec (asc ds).reverse).reverse = ds := by
  unfold dec asc
  rw [← List.map_reverse, List.reverse_reverse, List.map_map]
  have : ((fun x => x - 48) ∘ (fun x => 48 + x)) = (id : Nat → Nat) := by funext x; simp
  rw [this, List.map_id]
theorem parseC_ntx (neg : Bool) (m : Nat) (h : (dg m).length ≤ 400) : parseC (ntx neg m) = some (neg && decide (0 < m), m) := by
  by_cases h0 : m = 0
  · subst h0
    have e : ntx neg 0 = [48] := by unfold ntx; rw [if_pos rfl]
    have hn : negL [48] = false := by decide
    have hb : bodyL [48] = [48] := by unfold bodyL; rw [hn]; rfl
    rw [e]
    unfold parseC
    rw [if_neg (by unfold badL; rw [hb]; simp), hb, hn]
    cases neg <;> rfl
  · obtain ⟨c, r, e, h1, h2⟩ := asc_top h0
    have hl : (c :: r).length ≤ 400 := by rw [← e]; simpa [asc] using h
    have hall := all_asc m
    have hval : val (dec (asc (dg m)).reverse).reverse = m := by rw [dec_asc, val_dg]
    rw [ntx_pos h0, e]
    rw [e] at hall hval
    cases neg with
    | true =>
      have hn : negL ([45] ++ c :: r) = true := by unfold negL; exact decide_eq_true ⟨by simp, rfl⟩
      have hb : bodyL ([45] ++ c :: r) = c :: r := by unfold bodyL; rw [hn]; rfl
      show parseC ([45] ++ c :: r) = _
      unfold parseC
      rw [if_neg (by unfold badL; rw [hb]; simp at hl ⊢; omega), hb, hn, if_pos hall, hval]
      simp; omega
    | false =>
      have hn : negL (c :: r) = false := by unfold negL; refine decide_eq_false ?_; rintro ⟨_, h⟩; have := Option.some.inj h; omega
      have hb : bodyL (c :: r) = c :: r := by unfold bodyL; rw [hn]; rfl
      show parseC (c :: r) = _
      unfold parseC
      rw [if_neg (by unfold badL; rw [hb]; simp at hl ⊢; omega), hb, hn, if_pos hall, hval]
      simp
theorem by_ntx (neg : Bool) (m : Nat) : By (ntx neg m) := by
  by_cases h0 : m = 0
  · subst h0; have e : ntx neg 0 = [48] := by unfold ntx; rw [if_pos rfl]
    rw [e]; intro c hc; have := List.mem_singleton.1 hc; omega
  · rw [ntx_pos h0]
    refine By.append ?_ ?_
    · cases neg
      · exact By.nil
      · intro c hc; have := List.mem_singleton.1 hc; omega
    · intro c hc
      have := List.all_eq_true.1 (all_asc m) c hc
      unfold isDig at this
      have := of_decide_eq_true this
      omega
/-- A number's text says the number. -/
theorem ntx_inj {a b : Bool} {m n : Nat} (hm : (dg m).length ≤ 400) (hn : (dg n).length ≤ 400) (h : ntx a m = ntx b n) : m = n ∧ (a && decide (0 < m)) = (b && decide (0 < n)) := by
  have h1 := parseC_ntx a m hm
  rw [h, parseC_ntx b n hn] at h1
  have := Prod.mk.inj (Option.some.inj h1)
  exact ⟨this.2.symm, this.1.symm⟩

theorem dg_255 : dg 255 = [5, 5, 2] := by rw [dg_pos (by decide), dg_pos (by decide), dg_pos (by decide), show 255 / 10 / 10 / 10 = 0 from rfl, dg_zero]
theorem dg_7 : dg 7 = [7] := by rw [dg_pos (by decide), show 7 / 10 = 0 from rfl, dg_zero]
theorem dg_2 : dg 2 = [2] := by rw [dg_pos (by decide), show 2 / 10 = 0 from rfl, dg_zero]
theorem dg_4 : dg 4 = [4] := by rw [dg_pos (by decide), show 4 / 10 = 0 from rfl, dg_zero]
theorem dg_1 : dg 1 = [1] := by rw [dg_pos (by decide), show 1 / 10 = 0 from rfl, dg_zero]
theorem dg_128 : dg 128 = [8, 2, 1] := by rw [dg_pos (by decide), dg_pos (by decide), dg_pos (by decide), show 128 / 10 / 10 / 10 = 0 from rfl, dg_zero]
theorem dg_256 : dg 256 = [6, 5, 2] := by rw [dg_pos (by decide), dg_pos (by decide), dg_pos (by decide), show 256 / 10 / 10 / 10 = 0 from rfl, dg_zero]
theorem par_7 : parseC [45, 55] = some (true, 7) := by have := parseC_ntx true 7 (by rw [dg_7]; decide); rw [ntx_pos (by decide), dg_7] at this; exact this
theorem par_2 : parseC [50] = some (false, 2) := by have := parseC_ntx false 2 (by rw [dg_2]; decide); rw [ntx_pos (by decide), dg_2] at this; exact this
theorem par_m128 : parseC [45, 49, 50, 56] = some (true, 128) := by have := parseC_ntx true 128 (by rw [dg_128]; decide); rw [ntx_pos (by decide), dg_128] at this; exact this
theorem par_128 : parseC [49, 50, 56] = some (false, 128) := by have := parseC_ntx false 128 (by rw [dg_128]; decide); rw [ntx_pos (by decide), dg_128] at this; exact this
theorem par_m256 : parseC [45, 50, 53, 54] = some (true, 256) := by have := parseC_ntx true 256 (by rw [dg_256]; decide); rw [ntx_pos (by decide), dg_256] at this; exact this
theorem tS_255 : tS (false, 255) = [50, 53, 53] := by unfold tS; rw [if_pos (by show (dg 255).length ≤ 400; rw [dg_255]; decide)]; show ntx false 255 = _; rw [ntx_pos (by decide), dg_255]; rfl
theorem tE_255 : tE (false, 255) = 0 := by unfold tE; rw [if_pos (by show (dg 255).length ≤ 400; rw [dg_255]; decide)]
theorem tS_m4 : tS (true, 4) = [45, 52] := by unfold tS; rw [if_pos (by show (dg 4).length ≤ 400; rw [dg_4]; decide)]; show ntx true 4 = _; rw [ntx_pos (by decide), dg_4]; rfl
theorem tS_1 : tS (false, 1) = [49] := by unfold tS; rw [if_pos (by show (dg 1).length ≤ 400; rw [dg_1]; decide)]; show ntx false 1 = _; rw [ntx_pos (by decide), dg_1]; rfl
theorem dgb_256 : (dgb 256 256).reverse = [1, 0] := by rw [dgb_pos (by decide) (by decide), dgb_pos (by decide) (by decide), show 256 / 256 / 256 = 0 from rfl, dgb_zero]; rfl
theorem parR_a : parR [45, 48, 120, 49] 16 = ([], 3) := by
  unfold parR; rw [if_pos (by decide)]
  show (if [48, 120, 49] = [] then (([], 3) : List Nat × Int) else pB true 16 [48, 120, 49]) = _
  rw [if_neg (by decide)]
  unfold pB
  rw [if_neg (by decide)]
theorem parR_b : parR [43, 48, 48, 102, 102] 16 = ([50, 53, 53], 0) := by
  unfold parR; rw [if_pos (by decide)]
  show (if [48, 48, 102, 102] = [] then (([], 3) : List Nat × Int) else pB false 16 [48, 48, 102, 102]) = _
  rw [if_neg (by decide)]
  unfold pB
  rw [if_pos (by decide), show lead 48 [48, 48, 102, 102] = [102, 102] from rfl, if_pos (by decide), show hor 16 digV [102, 102] = 255 from rfl, tS_255, tE_255]
end Go.Proofs.Ytgnddobonboloaa
