/- IntegerRefuses: the walk. -/
import Derived.Test.YtgnddobonboloaaRDigits
import Derived.Test.YtgnddobonboloaaOpen
namespace Go.Proofs.Ytgnddobonboloaa
open Go.RowKit

set_option maxRecDepth 100000 in
set_option maxHeartbeats 8000000 in
theorem refuses_long (b1 : Bool) (s l1 : List Nat) (n1 : Nat) (w : World) (_hs0 : By s) (hs : 1500 < s.length) :
    Calls Try.prog 10 #[.string (mks s), .agg #[.bool b1, .string (mks l1), .int .u16 (n1 : Int)]] w fun e w' => e = .returned (.bool true) ∧ Below w.heap.size w w' := by
  have HBd : Below w.heap.size w (w.alloc (.cells #[.bool b1, .string (mks l1), .int .u16 (n1 : Int)] 36)) := (Below.refl _ _).alloc (Nat.le_refl _) _
  have hs' : 1500 < (s.length : Int) := by omega
  skip
  go_enter Try.func10, Try.ntmps10
  go_wp2_with (first | (fail) | (go_at_call 11; ((with_reducible refine (awake_any _).mono ?_)); rintro e wn ⟨rfl, hbn⟩; replace HBd := HBd.trans (hbn.mono HBd.size); clear hbn))
  exact bodyPost_ret (v := .bool true) (by simp [results, Try.results10, go_sem]) rfl ⟨rfl, HBd⟩
set_option maxRecDepth 100000 in
set_option maxHeartbeats 8000000 in
theorem refuses_valid (b1 : Bool) (s l1 : List Nat) (n1 : Nat) (w : World) (hs0 : By s) (hs : s.length ≤ 1500) (hv : (parseC s).isSome = true) :
    Calls Try.prog 10 #[.string (mks s), .agg #[.bool b1, .string (mks l1), .int .u16 (n1 : Int)]] w fun e w' => e = .returned (.bool true) ∧ Below w.heap.size w w' := by
  have HBd : Below w.heap.size w (w.alloc (.cells #[.bool b1, .string (mks l1), .int .u16 (n1 : Int)] 36)) := (Below.refl _ _).alloc (Nat.le_refl _) _
  have hs' : ¬ 1500 < (s.length : Int) := by omega
  have CV := fun w => rvalid_any s w hs0 (by omega); rw [hv] at CV; have DV := Lib.hid CV; clear CV hv
  go_enter Try.func10, Try.ntmps10
  go_wp2_with (first | (go_at_call 16; ((with_reducible refine (DV.out _).mono ?_)); rintro e wn ⟨rfl, rfl⟩) | (go_at_call 11; ((with_reducible refine (awake_any _).mono ?_)); rintro e wn ⟨rfl, hbn⟩; replace HBd := HBd.trans (hbn.mono HBd.size); clear hbn))
  exact bodyPost_ret (v := .bool true) (by simp [results, Try.results10, go_sem]) rfl ⟨rfl, HBd⟩
set_option maxRecDepth 100000 in
set_option maxHeartbeats 16000000 in
theorem refuses_bad (b1 : Bool) (s l1 : List Nat) (n1 : Nat) (w : World) (hs0 : By s) (h1 : By l1) (k1 : n1 < 65536) (hs : s.length ≤ 1500) (hv : parseC s = none) :
    Calls Try.prog 10 #[.string (mks s), .agg #[.bool b1, .string (mks l1), .int .u16 (n1 : Int)]] w fun e w' => e = .returned (.bool true) ∧ Below w.heap.size w w' := by
  obtain ⟨HX, HBd, HZ⟩ := boxes1 w 36 [.bool b1, .string (mks l1), .int .u16 (n1 : Int)]
  have hs' : ¬ 1500 < (s.length : Int) := by omega
  have CV := fun w => rvalid_any s w hs0 (by omega)
  rw [hv] at CV
  dsimp only [Option.isSome_none] at CV
  have DV := Lib.hid CV
  clear CV
  go_enter Try.func10, Try.ntmps10
  go_upto_region 4 with (first | (go_at_call 16; ((with_reducible refine (DV.out _).mono ?_)); rintro e wn ⟨rfl, rfl⟩) | (go_at_call 17; (with_reducible refine (lawtext_any b1 l1 n1 _ h1 k1).mono ?_); rintro e wn ⟨m1, ⟨⟩, hm1, hbn⟩; replace HBd := HBd.trans (hbn.mono HBd.size); clear hbn))
  have P1 := parseC_ntx b1 m1 hm1
  have hva : (parseC s).isSome = false := by rw [hv]; rfl
  have C1 := fun w => add_bad _ _ w hs0 (by_ntx b1 m1) (.inl hva)
  have C2 := fun w => sub_bad _ _ w (by_ntx b1 m1) hs0 (.inr hva)
  have C3 := fun w => mul_bad _ _ w hs0 (by_ntx b1 m1) (.inl hva)
  have C4 := fun w => divmod_bad _ _ w (by_ntx b1 m1) hs0 (.inr hva)
  have C5 := fun w => itext_bad s 10 w (by decide) hs0 hv
  have C6 := fun w => itext_unknown s 3 w (by decide)
  have C7 := fun w => cmp_bad1 _ _ w hs0 (by_ntx b1 m1) hv
  have C8 := fun w => cmp_bad2 _ _ _ w (by_ntx b1 m1) hs0 P1 hv
  have C9 := fun w => neg_bad s w hs0 hv
  have C10 := fun w => fits_bad s 64 w hs0 hv
  have C11 := fun w => mag_bad s w hs0 hv
  simp only [show (⟨#[]⟩ : ByteArray) = mks [] from rfl] at C5 C6
  have he : ((mks ([] : List Nat)).toList == []) = true := by rw [toList_mks]; rfl
  generalize mks (ntx b1 m1) = A at *
  generalize mks s = S at *
  have D1 := Lib.hid C1
  have D2 := Lib.hid C2
  have D3 := Lib.hid C3
  have D4 := Lib.hid C4
  have D5 := Lib.hid C5
  have D6 := Lib.hid C6
  have D7 := Lib.hid C7
  have D8 := Lib.hid C8
  have D9 := Lib.hid C9
  have D10 := Lib.hid C10
  have D11 := Lib.hid C11
  clear C1 C2 C3 C4 C5 C6 C7 C8 C9 C10 C11 hva hv P1 DV HX HZ
  go_wp2_with (first | (go_at_call 32; ((with_reducible refine (D1.out _).mono ?_)); rintro e wn ⟨rfl, hbn⟩; replace HBd := HBd.trans (hbn.mono HBd.size); clear hbn) | (go_at_call 33; ((with_reducible refine (D2.out _).mono ?_)); rintro e wn ⟨rfl, hbn⟩; replace HBd := HBd.trans (hbn.mono HBd.size); clear hbn) | (go_at_call 25; ((with_reducible refine (D3.out _).mono ?_)); rintro e wn ⟨rfl, hbn⟩; replace HBd := HBd.trans (hbn.mono HBd.size); clear hbn) | (go_at_call 26; ((with_reducible refine (D4.out _).mono ?_)); rintro e wn ⟨rfl, hbn⟩; replace HBd := HBd.trans (hbn.mono HBd.size); clear hbn) | (go_at_call 30; ((with_reducible refine (D5.out _).mono ?_)); rintro e wn ⟨rfl, hbn⟩; replace HBd := HBd.trans (hbn.mono HBd.size); clear hbn) | (go_at_call 30; ((with_reducible refine (D6.out _).mono ?_)); rintro e wn ⟨rfl, rfl⟩) | (go_at_call 34; ((with_reducible refine (D7.out _).mono ?_)); rintro e wn ⟨rfl, hbn⟩; replace HBd := HBd.trans (hbn.mono HBd.size); clear hbn) | (go_at_call 34; ((with_reducible refine (D8.out _).mono ?_)); rintro e wn ⟨rfl, hbn⟩; replace HBd := HBd.trans (hbn.mono HBd.size); clear hbn) | (go_at_call 36; ((with_reducible refine (D9.out _).mono ?_)); rintro e wn ⟨rfl, hbn⟩; replace HBd := HBd.trans (hbn.mono HBd.size); clear hbn) | (go_at_call 21; ((with_reducible refine (D10.out _).mono ?_)); rintro e wn ⟨rfl, hbn⟩; replace HBd := HBd.trans (hbn.mono HBd.size); clear hbn) | (go_at_call 19; ((with_reducible refine (D11.out _).mono ?_)); rintro e wn ⟨rfl, hbn⟩; replace HBd := HBd.trans (hbn.mono HBd.size); clear hbn) | (go_at_call 11; ((with_reducible refine (awake_any _).mono ?_)); rintro e wn ⟨rfl, hbn⟩; replace HBd := HBd.trans (hbn.mono HBd.size); clear hbn))
  exact bodyPost_ret (v := .bool true) (by simp [results, Try.results10, go_sem]) rfl ⟨rfl, HBd⟩
theorem refuses_any (b1 : Bool) (s l1 : List Nat) (n1 : Nat) (w : World) (hs0 : By s) (h1 : By l1) (k1 : n1 < 65536) :
    Calls Try.prog 10 #[.string (mks s), .agg #[.bool b1, .string (mks l1), .int .u16 (n1 : Int)]] w fun e w' => e = .returned (.bool true) ∧ Below w.heap.size w w' := by
  by_cases hs : 1500 < s.length
  · exact refuses_long b1 s l1 n1 w hs0 hs
  · cases hv : parseC s with
    | some x => exact refuses_valid b1 s l1 n1 w hs0 (by omega) (by rw [hv]; rfl)
    | none => exact refuses_bad b1 s l1 n1 w hs0 h1 k1 (by omega) hv
end Go.Proofs.Ytgnddobonboloaa
