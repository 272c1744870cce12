/- The walks of trim and small of integer. -/
import Derived.Test.YtgnddobonboloaaProg
import Derived.Test.YtgnddobonboloaaBase
namespace Go.Proofs.Ytgnddobonboloaa
open Go.RowKit

theorem Try.info5 : (Try.prog.info? 5).map (fun i => (i.zero, i.size, i.bytes)) = some (some (.int .u8 0), 1, 1) := by kernel_rfl
theorem Try.size5 : (Try.prog.info? 5).map (·.size) = some 1 := by kernel_rfl
theorem Try.sz62 : (Try.prog.info? 62).map (·.size) = some 2 := by kernel_rfl
theorem Try.sz28 : (Try.prog.info? 28).map (·.size) = some 2 := by kernel_rfl
theorem Try.info3 : (Try.prog.info? 3).map (fun i => (i.zero, i.size, i.bytes)) = some (some (.int .i64 0), 1, 8) := by kernel_rfl

/-- The part of a list that trim leaves. -/
theorem rd_trim {w : World} {A : Option Addr} {ds : List Nat} (h : Rd w A (B8 ds)) (ht : Ten ds) : Rd w A (B8 (dg (val ds))) := by
  rw [dg_val ht]
  have := h.take (tlen ds)
  unfold B8 at this ⊢
  rwa [← List.map_take] at this

def TrimPost (ds : List Nat) (A : Option Addr) (c : Nat) (w : World) (e : Ending) (w' : World) : Prop :=
  ∃ k, e = .returned (.slice A k c) ∧ Hid (k = (dg (val ds)).length) ∧ k ≤ ds.length ∧ Rd w A (B8 (dg (val ds))) ∧ w = w'

theorem trim_end {w : World} {A : Option Addr} {ds : List Nat} {k c : Nat} {n : Nat} (hr : Rd w A (B8 ds)) (hd : Ten ds) (hn : n = ds.length) (hk : k ≤ n) (ht : tlen (ds.take k) = tlen ds)
    (he : tlen (ds.take k) = k) : TrimPost ds A c w (.returned (.slice A k c)) w := by
  refine ⟨k, rfl, ?_, by omega, rd_trim hr hd, rfl⟩
  show k = _
  rw [dg_val hd, List.length_take]
  have := tlen_le ds
  omega

set_option maxHeartbeats 400000 in
theorem trim_any (A : Option Addr) (n c : Nat) (ds : List Nat) (w : World) (hn : Hid (n = ds.length)) (hr : Rd w A (B8 ds)) (hd : Ten ds) (hc : n ≤ c) (hm : n ≤ maxLen) :
    Calls Try.prog 56 #[.slice A n c] w (TrimPost ds A c w) := by
  unfold maxLen at hm
  go_enter Try.func56, Try.ntmps56
  go_wp2
  go_loop [0] (fun v => ∃ k : Nat, k ≤ n ∧ Hid (tlen (ds.take k) = tlen ds) ∧ v = .slice A k c) (fun v => match v with | .slice _ k _ => k | _ => 0)
  case atStart => exact ⟨n, Nat.le_refl _, by show _ = _; rw [List.take_of_length_le (by have := hn.out; omega)], rfl⟩
  case round =>
    obtain ⟨k, hk, ht, rfl⟩ := hrel
    by_cases h0 : k = 0
    · subst h0
      go_wp2
      go_ret
      exact trim_end hr hd hn.out hk ht.out (by simp [tlen])
    · have hk1 : 0 < k := by omega
      have hk2 : k - 1 < ds.length := by have := hn.out; omega
      obtain ⟨d, hdd⟩ : ∃ d, ds[k-1]? = some d := ⟨_, List.getElem?_eq_getElem hk2⟩
      obtain ⟨ad, rfl, hcell⟩ := hr.at_ (B8_get hdd)
      have hs := tlen_take_succ hdd
      rw [show k - 1 + 1 = k by omega] at hs
      have HS := Lib.hid hs; clear hs
      have HD := Lib.hid hdd; clear hdd
      have e1 : ((k:Int) - 1).toNat = k - 1 := by omega
      by_cases hz : d = 0
      · subst hz
        go_wp2
        refine ⟨⟨k - 1, by omega, ?_, rfl⟩, ?_⟩
        · have h1 := HS.out
          rw [if_pos rfl] at h1
          exact h1.symm.trans ht.out
        · show k - 1 < k
          omega
      · have hz' : ((d : Int) == 0) = false := by simp; omega
        go_wp2
        go_ret
        have h1 := HS.out
        rw [if_neg hz] at h1
        exact trim_end hr hd hn.out hk ht.out (by omega)
set_option maxHeartbeats 400000 in
theorem rtrim_any (A : Option Addr) (n c : Nat) (ds : List Nat) (w : World) (hn : Hid (n = ds.length)) (hr : Rd w A (B8 ds)) (hd : Ten ds) (hc : n ≤ c) (hm : n ≤ maxLen) :
    Calls Try.prog 49 #[.slice A n c] w (TrimPost ds A c w) := by
  unfold maxLen at hm
  go_enter Try.func49, Try.ntmps49
  go_wp2
  go_loop [3] (fun v => ∃ k : Nat, k ≤ n ∧ Hid (tlen (ds.take k) = tlen ds) ∧ v = .int .i64 k) (fun v => (intOf v).toNat)
  case atStart => exact ⟨n, Nat.le_refl _, by show _ = _; rw [List.take_of_length_le (by have := hn.out; omega)], rfl⟩
  case round =>
    obtain ⟨k, hk, ht, rfl⟩ := hrel
    by_cases h0 : k = 0
    · subst h0
      go_wp2
      go_ret
      exact trim_end hr hd hn.out hk ht.out (by simp [tlen])
    · have hk1 : 0 < k := by omega
      have hk2 : k - 1 < ds.length := by have := hn.out; omega
      obtain ⟨d, hdd⟩ : ∃ d, ds[k-1]? = some d := ⟨_, List.getElem?_eq_getElem hk2⟩
      obtain ⟨ad, rfl, hcell⟩ := hr.at_ (B8_get hdd)
      have hs := tlen_take_succ hdd
      rw [show k - 1 + 1 = k by omega] at hs
      have HS := Lib.hid hs; clear hs
      have HD := Lib.hid hdd; clear hdd
      have e1 : ((k:Int) - 1).toNat = k - 1 := by omega
      have b1 : 0 ≤ (k:Int) - 1 := by omega
      have b2 : (k:Int) - 1 < n := by omega
      by_cases hz : d = 0
      · subst hz
        go_wp2
        go_round
        case rel =>
          refine ⟨k - 1, by omega, ?_, i64e (by omega)⟩
          have h1 := HS.out
          rw [if_pos rfl] at h1
          exact h1.symm.trans ht.out
        case measure => simp [intOf]; omega
      · have hz' : ((d : Int) == 0) = false := by simp; omega
        go_wp2
        go_ret
        have h1 := HS.out
        rw [if_neg hz] at h1
        exact trim_end hr hd hn.out hk ht.out (by omega)
end Go.Proofs.Ytgnddobonboloaa
