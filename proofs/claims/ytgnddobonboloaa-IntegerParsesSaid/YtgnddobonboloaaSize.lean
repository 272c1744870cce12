/- The walks of size of integer and of the reference. -/
import Derived.Test.YtgnddobonboloaaDigit
namespace Go.Proofs.Ytgnddobonboloaa
open Go.RowKit

theorem drop_step {us vs : List Nat} {k x : Nat} (hx : us[k]? = some x) (hy : vs[k]? = some x) (h : us.drop (k + 1) = vs.drop (k + 1)) : us.drop k = vs.drop k := by
  have h1 := List.getElem?_eq_some_iff.1 hx
  have h2 := List.getElem?_eq_some_iff.1 hy
  rw [List.drop_eq_getElem_cons h1.1, List.drop_eq_getElem_cons h2.1, h1.2, h2.2, h]

set_option maxHeartbeats 2000000 in
theorem size_any (A B : Option Addr) (n n' c c' p q : Nat) (w : World) (hn : Hid (n = (dg p).length)) (hn' : Hid (n' = (dg q).length)) (hr : Rd w A (B8 (dg p))) (hr' : Rd w B (B8 (dg q)))
    (hm : n ≤ 4294967296) (hm' : n' ≤ 4294967296) :
    Calls Try.prog 52 #[.slice A n c, .slice B n' c'] w fun e w' => e = .returned (.int .i64 (cmpN p q)) ∧ ∃ k, w' = w.drewN k := by
  by_cases hne : n = n'
  · subst hne
    have HV1 := Lib.hid (val_dg p)
    have HV2 := Lib.hid (val_dg q)
    have ht := ten_dg p
    have ht' := ten_dg q
    have HI : Hid (dg p = dg q → p = q) := dg_inj
    generalize dg p = us at *
    generalize dg q = vs at *
    go_enter Try.func52, Try.ntmps52
    go_wp2
    go_loopw [5] (fun v wr => ∃ k : Nat, k ≤ n ∧ v = .int .i64 ((k : Int) - 1) ∧ Hid (us.drop k = vs.drop k) ∧ ∃ j, wr = w.drewN j) (fun v _ => (intOf v + 1).toNat)
    case atStart => exact ⟨n, by omega, rfl, by show _ = _; rw [List.drop_eq_nil_of_le (by have := hn.out; omega), List.drop_eq_nil_of_le (by have := hn'.out; omega)], 0, rfl⟩
    case round =>
      obtain ⟨k, hk, rfl, hd, j, rfl⟩ := hrel
      by_cases h0 : k = 0
      · subst h0
        go_wp2
        go_ret
        have : p = q := HI.out hd.out
        subst this
        exact ⟨ret_i64 (by simp [cmpN]), (by first | exact q0 _ | exact q1 _ _)⟩
      · obtain ⟨x, hx⟩ : ∃ x, us[k-1]? = some x := ⟨_, List.getElem?_eq_getElem (by have := hn.out; omega)⟩
        obtain ⟨y, hy⟩ : ∃ y, vs[k-1]? = some y := ⟨_, List.getElem?_eq_getElem (by have := hn'.out; omega)⟩
        obtain ⟨ad, rfl, hcx⟩ := hr.at_ (B8_get hx)
        obtain ⟨ad', rfl, hcy⟩ := hr'.at_ (B8_get hy)
        have HX := Lib.hid hx; clear hx
        have HY := Lib.hid hy; clear hy
        have hk1 : 0 < k := by omega
        have e1 : ((k:Int) - 1).toNat = k - 1 := by omega
        have b1 : 0 ≤ (k:Int) - 1 := by omega
        have b2 : (k:Int) - 1 < n := by omega
        have HD1 : Hid (us.drop (k - 1 + 1) = vs.drop (k - 1 + 1)) := by show _ = _; rw [show k - 1 + 1 = k by omega]; exact hd.out
        by_cases hxy : x = y
        · subst hxy
          go_wp2
          go_quiet (fail)
          go_wp2
          try (go_quiet (fail); go_wp2)
          go_roundw
          case rel => exact ⟨k - 1, by omega, i64e (by omega), drop_step HX.out HY.out HD1.out, (by first | exact q1 _ _ | exact q2 _ _ _ | exact q3 _ _ _ _)⟩
          case measure => simp [intOf]; omega
        · have hz : ((x : Int) != y) = true := by simp; omega
          have hz' : ((x : Int) == y) = false := by simp; omega
          rcases Nat.lt_or_gt_of_ne hxy with hlt | hgt
          · have hv := val_lt_at ht HX.out HY.out HD1.out hlt
            have hlt' : ¬ y < x := by omega
            rw [HV1.out, HV2.out] at hv
            go_wp2
            go_quiet (fail)
            go_wp2
            try (go_quiet (fail); go_wp2)
            go_ret
            exact ⟨ret_i64 (by unfold cmpN; rw [if_pos hv]), (by first | exact q1 _ _ | exact q2 _ _ _ | exact q3 _ _ _ _)⟩
          · have hv := val_lt_at ht' HY.out HX.out HD1.out.symm hgt
            rw [HV1.out, HV2.out] at hv
            have hgt' : ¬ x < y := by omega
            go_wp2
            go_quiet (fail)
            go_wp2
            try (go_quiet (fail); go_wp2)
            go_ret
            exact ⟨ret_i64 (by unfold cmpN; rw [if_neg (by omega), if_neg (by omega)]), (by first | exact q1 _ _ | exact q2 _ _ _ | exact q3 _ _ _ _)⟩
  · have hz : ((n : Int) != n') = true := by simp; omega
    have hz' : ((n : Int) == n') = false := by simp; omega
    rcases Nat.lt_or_gt_of_ne hne with hlt | hgt
    · have hv : p < q := dg_len_lt (by have := hn.out; have := hn'.out; omega)
      go_enter Try.func52, Try.ntmps52
      go_wp2
      go_ret
      exact ⟨ret_i64 (by unfold cmpN; rw [if_pos hv]), (by first | exact q0 _ | exact q1 _ _)⟩
    · have hv : q < p := dg_len_lt (by have := hn.out; have := hn'.out; omega)
      go_enter Try.func52, Try.ntmps52
      go_wp2
      go_ret
      exact ⟨ret_i64 (by unfold cmpN; rw [if_neg (by omega), if_neg (by omega)]), (by first | exact q0 _ | exact q1 _ _)⟩
set_option maxHeartbeats 2000000 in
theorem rsize_any (A B : Option Addr) (n n' c c' p q : Nat) (w : World) (hn : Hid (n = (dg p).length)) (hn' : Hid (n' = (dg q).length)) (hr : Rd w A (B8 (dg p))) (hr' : Rd w B (B8 (dg q)))
    (hm : n ≤ 4294967296) (hm' : n' ≤ 4294967296) :
    Calls Try.prog 53 #[.slice A n c, .slice B n' c'] w fun e w' => e = .returned (.int .i64 (cmpN p q)) ∧ ∃ k, w' = w.drewN k := by
  by_cases hne : n = n'
  · subst hne
    have HV1 := Lib.hid (val_dg p)
    have HV2 := Lib.hid (val_dg q)
    have ht := ten_dg p
    have ht' := ten_dg q
    have HI : Hid (dg p = dg q → p = q) := dg_inj
    generalize dg p = us at *
    generalize dg q = vs at *
    go_enter Try.func53, Try.ntmps53
    go_wp2
    go_loopw [5] (fun v wr => ∃ k : Nat, k ≤ n ∧ v = .int .i64 ((k : Int) - 1) ∧ Hid (us.drop k = vs.drop k) ∧ ∃ j, wr = w.drewN j) (fun v _ => (intOf v + 1).toNat)
    case atStart => exact ⟨n, by omega, rfl, by show _ = _; rw [List.drop_eq_nil_of_le (by have := hn.out; omega), List.drop_eq_nil_of_le (by have := hn'.out; omega)], 0, rfl⟩
    case round =>
      obtain ⟨k, hk, rfl, hd, j, rfl⟩ := hrel
      by_cases h0 : k = 0
      · subst h0
        go_wp2
        go_ret
        have : p = q := HI.out hd.out
        subst this
        exact ⟨ret_i64 (by simp [cmpN]), (by first | exact q0 _ | exact q1 _ _)⟩
      · obtain ⟨x, hx⟩ : ∃ x, us[k-1]? = some x := ⟨_, List.getElem?_eq_getElem (by have := hn.out; omega)⟩
        obtain ⟨y, hy⟩ : ∃ y, vs[k-1]? = some y := ⟨_, List.getElem?_eq_getElem (by have := hn'.out; omega)⟩
        obtain ⟨ad, rfl, hcx⟩ := hr.at_ (B8_get hx)
        obtain ⟨ad', rfl, hcy⟩ := hr'.at_ (B8_get hy)
        have HX := Lib.hid hx; clear hx
        have HY := Lib.hid hy; clear hy
        have hk1 : 0 < k := by omega
        have e1 : ((k:Int) - 1).toNat = k - 1 := by omega
        have b1 : 0 ≤ (k:Int) - 1 := by omega
        have b2 : (k:Int) - 1 < n := by omega
        have HD1 : Hid (us.drop (k - 1 + 1) = vs.drop (k - 1 + 1)) := by show _ = _; rw [show k - 1 + 1 = k by omega]; exact hd.out
        by_cases hxy : x = y
        · subst hxy
          go_wp2
          go_quiet (fail)
          go_wp2
          try (go_quiet (fail); go_wp2)
          go_roundw
          case rel => exact ⟨k - 1, by omega, i64e (by omega), drop_step HX.out HY.out HD1.out, (by first | exact q1 _ _ | exact q2 _ _ _ | exact q3 _ _ _ _)⟩
          case measure => simp [intOf]; omega
        · have hz : ((x : Int) != y) = true := by simp; omega
          have hz' : ((x : Int) == y) = false := by simp; omega
          rcases Nat.lt_or_gt_of_ne hxy with hlt | hgt
          · have hv := val_lt_at ht HX.out HY.out HD1.out hlt
            have hlt' : ¬ y < x := by omega
            rw [HV1.out, HV2.out] at hv
            go_wp2
            go_quiet (fail)
            go_wp2
            try (go_quiet (fail); go_wp2)
            go_ret
            exact ⟨ret_i64 (by unfold cmpN; rw [if_pos hv]), (by first | exact q1 _ _ | exact q2 _ _ _ | exact q3 _ _ _ _)⟩
          · have hv := val_lt_at ht' HY.out HX.out HD1.out.symm hgt
            rw [HV1.out, HV2.out] at hv
            have hgt' : ¬ x < y := by omega
            go_wp2
            go_quiet (fail)
            go_wp2
            try (go_quiet (fail); go_wp2)
            go_ret
            exact ⟨ret_i64 (by unfold cmpN; rw [if_neg (by omega), if_neg (by omega)]), (by first | exact q1 _ _ | exact q2 _ _ _ | exact q3 _ _ _ _)⟩
  · have hz : ((n : Int) != n') = true := by simp; omega
    have hz' : ((n : Int) == n') = false := by simp; omega
    rcases Nat.lt_or_gt_of_ne hne with hlt | hgt
    · have hv : p < q := dg_len_lt (by have := hn.out; have := hn'.out; omega)
      go_enter Try.func53, Try.ntmps53
      go_wp2
      go_ret
      exact ⟨ret_i64 (by unfold cmpN; rw [if_pos hv]), (by first | exact q0 _ | exact q1 _ _)⟩
    · have hv : q < p := dg_len_lt (by have := hn.out; have := hn'.out; omega)
      go_enter Try.func53, Try.ntmps53
      go_wp2
      go_ret
      exact ⟨ret_i64 (by unfold cmpN; rw [if_neg (by omega), if_neg (by omega)]), (by first | exact q0 _ | exact q1 _ _)⟩
end Go.Proofs.Ytgnddobonboloaa
