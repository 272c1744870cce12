/- The walks of known and digit of integer, base and digit of the reference. -/
import Derived.Test.YtgnddobonboloaaProg
import Derived.Test.YtgnddobonboloaaBase
namespace Go.Proofs.Ytgnddobonboloaa
open Go.RowKit

def knownB (b : Int) : Bool := decide (b = 2 ∨ b = 8 ∨ b = 10 ∨ b = 16)
theorem knownB_true {b : Int} : knownB b = true ↔ b = 2 ∨ b = 8 ∨ b = 10 ∨ b = 16 := by simp [knownB]
theorem knownB_false {b : Int} : knownB b = false ↔ ¬ (b = 2 ∨ b = 8 ∨ b = 10 ∨ b = 16) := by simp [knownB]

def digV (c : Nat) : Nat := if 48 ≤ c ∧ c ≤ 57 then c - 48 else if 97 ≤ c ∧ c ≤ 102 then c - 97 + 10 else if 65 ≤ c ∧ c ≤ 70 then c - 65 + 10 else 99
theorem digV_le (c : Nat) : digV c ≤ 99 := by unfold digV; (repeat' split) <;> omega

theorem ret_bool {a b : Bool} (h : a = b) : Ending.returned (.bool a) = .returned (.bool b) := by rw [h]
theorem ret_i64 {a b : Int} (h : a = b) : Ending.returned (.int .i64 a) = .returned (.int .i64 b) := by rw [h]

set_option maxHeartbeats 400000 in
theorem known_any (b : Int) (w : World) : Calls Try.prog 39 #[.int .i64 b] w fun e w' => e = .returned (.bool (knownB b)) ∧ w = w' := by
  by_cases h : b = 2 ∨ b = 8 ∨ b = 10 ∨ b = 16
  · have hk := knownB_true.2 h
    have HK := Lib.hid hk; clear hk
    rcases h with rfl | rfl | rfl | rfl
    all_goals
      go_enter Try.func39, Try.ntmps39
      go_wp2
      go_ret
      exact ⟨ret_bool HK.out.symm, rfl⟩
  · have hk := knownB_false.2 h
    have HK := Lib.hid hk; clear hk
    have h2 : (b == 2) = false := by simp; omega
    have h8 : (b == 8) = false := by simp; omega
    have h10 : (b == 10) = false := by simp; omega
    have h16 : (b == 16) = false := by simp; omega
    clear h
    go_enter Try.func39, Try.ntmps39
    go_wp2
    go_ret
    exact ⟨ret_bool HK.out.symm, rfl⟩

set_option maxHeartbeats 400000 in
theorem base_any (b : Int) (w : World) : Calls Try.prog 43 #[.int .i64 b] w fun e w' => e = .returned (.bool (knownB b)) ∧ w = w' := by
  by_cases h : b = 2 ∨ b = 8 ∨ b = 10 ∨ b = 16
  · have hk := knownB_true.2 h
    have HK := Lib.hid hk; clear hk
    rcases h with rfl | rfl | rfl | rfl
    all_goals
      go_enter Try.func43, Try.ntmps43
      go_wp2
      go_ret
      exact ⟨ret_bool HK.out.symm, rfl⟩
  · have hk := knownB_false.2 h
    have HK := Lib.hid hk; clear hk
    have h2 : (b == 2) = false := by simp; omega
    have h8 : (b == 8) = false := by simp; omega
    have h10 : (b == 10) = false := by simp; omega
    have h16 : (b == 16) = false := by simp; omega
    clear h
    go_enter Try.func43, Try.ntmps43
    go_wp2
    go_ret
    exact ⟨ret_bool HK.out.symm, rfl⟩

set_option maxHeartbeats 1000000 in
theorem digit_any (c : Int) (h0 : 0 ≤ c) (h1 : c < 256) (w : World) : Calls Try.prog 40 #[.int .u8 c] w fun e w' => e = .returned (.int .i64 (digV c.toNat : Nat)) ∧ w = w' := by
  go_enter Try.func40, Try.ntmps40
  go_wp2
  all_goals
    go_ret
    refine ⟨ret_i64 ?_, rfl⟩
    unfold digV
    (repeat' split) <;> omega

set_option maxHeartbeats 1000000 in
theorem rdigit_any (c : Int) (h0 : 0 ≤ c) (h1 : c < 256) (w : World) : Calls Try.prog 44 #[.int .u8 c] w fun e w' => e = .returned (.int .i64 (digV c.toNat : Nat)) ∧ w = w' := by
  go_enter Try.func44, Try.ntmps44
  go_wp2
  all_goals
    go_ret
    refine ⟨ret_i64 ?_, rfl⟩
    unfold digV
    (repeat' split) <;> omega
end Go.Proofs.Ytgnddobonboloaa
