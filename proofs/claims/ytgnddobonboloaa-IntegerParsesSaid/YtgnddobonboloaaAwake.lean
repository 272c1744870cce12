/- The chapter's examples. -/
import Derived.Test.YtgnddobonboloaaPlain
namespace Go.Proofs.Ytgnddobonboloaa
open Go.RowKit

theorem aw_1 (w : World) : Calls Try.prog 12 #[.string ⟨#[45, 48, 120, 49]⟩, .int .i64 16] w fun e w' => e = .returned (.tuple #[.string ⟨#[]⟩, .int .i64 3]) ∧ Below w.heap.size w w' := by
  have h := parse_any [45, 48, 120, 49] 16 w (by unfold By; decide) (by decide)
  rw [parR_a] at h
  rw [show (⟨#[45, 48, 120, 49]⟩ : ByteArray) = mks [45, 48, 120, 49] from by simp [mks]]
  rw [show (⟨#[]⟩ : ByteArray) = mks [] from rfl]
  exact h
theorem aw_2 (w : World) : Calls Try.prog 12 #[.string ⟨#[43, 48, 48, 102, 102]⟩, .int .i64 16] w fun e w' => e = .returned (.tuple #[.string ⟨#[50, 53, 53]⟩, .int .i64 0]) ∧ Below w.heap.size w w' := by
  have h := parse_any [43, 48, 48, 102, 102] 16 w (by unfold By; decide) (by decide)
  rw [parR_b] at h
  rw [show (⟨#[43, 48, 48, 102, 102]⟩ : ByteArray) = mks [43, 48, 48, 102, 102] from by simp [mks]]
  rw [show (⟨#[50, 53, 53]⟩ : ByteArray) = mks [50, 53, 53] from by simp [mks]]
  exact h
theorem aw_3 (w : World) : Calls Try.prog 26 #[.string ⟨#[45, 55]⟩, .string ⟨#[50]⟩] w fun e w' => e = .returned (.tuple #[.string ⟨#[45, 52]⟩, .string ⟨#[49]⟩, .int .i64 0]) ∧ Below w.heap.size w w' := by
  have h := divmod_ok [45, 55] [50] (true, 7) (false, 2) w (by unfold By; decide) (by unfold By; decide) par_7 par_2 (by decide)
  rw [show dmQN (true, 7) (false, 2) = (true, 4) from by decide, show dmRN (true, 7) (false, 2) = (false, 1) from by decide, tS_m4, tS_1] at h
  rw [show (⟨#[45, 52]⟩ : ByteArray) = mks [45, 52] from by simp [mks]]
  rw [show (⟨#[45, 55]⟩ : ByteArray) = mks [45, 55] from by simp [mks]]
  rw [show (⟨#[49]⟩ : ByteArray) = mks [49] from by simp [mks]]
  rw [show (⟨#[50]⟩ : ByteArray) = mks [50] from by simp [mks]]
  exact h
theorem aw_4 (w : World) : Calls Try.prog 21 #[.string ⟨#[45, 49, 50, 56]⟩, .int .i64 8] w fun e w' => e = .returned (.bool true) ∧ Below w.heap.size w w' := by
  have h := fits_any [45, 49, 50, 56] 8 w (by unfold By; decide)
  rw [par_m128, show fitsP (some (true, 128)) 8 = true from by decide] at h
  rw [show (⟨#[45, 49, 50, 56]⟩ : ByteArray) = mks [45, 49, 50, 56] from by simp [mks]]
  exact h
theorem aw_5 (w : World) : Calls Try.prog 21 #[.string ⟨#[49, 50, 56]⟩, .int .i64 8] w fun e w' => e = .returned (.bool false) ∧ Below w.heap.size w w' := by
  have h := fits_any [49, 50, 56] 8 w (by unfold By; decide)
  rw [par_128, show fitsP (some (false, 128)) 8 = false from by decide] at h
  rw [show (⟨#[49, 50, 56]⟩ : ByteArray) = mks [49, 50, 56] from by simp [mks]]
  exact h
theorem aw_6 (w : World) : Calls Try.prog 19 #[.string ⟨#[45, 50, 53, 54]⟩] w fun e w' => e = .returned (.string ⟨#[1, 0]⟩) ∧ Below w.heap.size w w' := by
  have h := mag_ok [45, 50, 53, 54] true 256 w (by unfold By; decide) par_m256
  rw [dgb_256] at h
  rw [show (⟨#[1, 0]⟩ : ByteArray) = mks [1, 0] from by simp [mks]]
  rw [show (⟨#[45, 50, 53, 54]⟩ : ByteArray) = mks [45, 50, 53, 54] from by simp [mks]]
  exact h

set_option maxHeartbeats 4000000 in
theorem awake_any (w : World) : Calls Try.prog 11 #[] w fun e w' => e = .returned (.bool true) ∧ Below w.heap.size w w' := by
  go_enter Try.func11, Try.ntmps11
  go_upto_region 2 with (go_at_call 12; go_loud ((with_reducible refine (aw_1 _).mono ?_); rintro e w1 ⟨rfl, hb1⟩))
  go_upto_region 3 with (go_at_call 12; go_loud ((with_reducible refine (aw_2 _).mono ?_); rintro e w2 ⟨rfl, hb2⟩))
  go_upto_region 4 with (go_at_call 26; go_loud ((with_reducible refine (aw_3 _).mono ?_); rintro e w3 ⟨rfl, hb3⟩))
  have c1 := hb1.size
  have c2 := hb2.size
  have c3 := hb3.size
  have hb := (hb1.trans (hb2.mono c1)).trans (hb3.mono (by omega))
  clear hb1 hb2 hb3

  go_wp2_with (first
    | (go_at_call 21; (with_reducible refine (aw_4 _).mono ?_); rintro e w4 ⟨rfl, hb4⟩)
    | (go_at_call 21; (with_reducible refine (aw_5 _).mono ?_); rintro e w5 ⟨rfl, hb5⟩)
    | (go_at_call 19; go_loud ((with_reducible refine (aw_6 _).mono ?_); rintro e w6 ⟨rfl, hb6⟩)))
  go_ret
  refine ⟨rfl, ?_⟩
  have c4 := hb4.size
  have c5 := hb5.size
  exact ((hb.trans (hb4.mono (by omega))).trans (hb5.mono (by omega))).trans (hb6.mono (by omega))
end Go.Proofs.Ytgnddobonboloaa
