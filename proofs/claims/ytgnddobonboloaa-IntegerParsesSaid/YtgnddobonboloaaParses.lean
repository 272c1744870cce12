/- IntegerParses: the walk. -/
import Derived.Test.YtgnddobonboloaaRParse
namespace Go.Proofs.Ytgnddobonboloaa
open Go.RowKit

set_option maxHeartbeats 2000000 in
theorem agree_no (b : Bool) (A : Option Addr) (n c : Nat) (no : Int) (w : World) (hno : no ≠ 0) :
    Calls Try.prog 14 #[.string (mks []), .int .i64 no, .agg #[.bool b, .slice A n c], .int .i64 no] w fun e w' => e = .returned (.bool true) ∧ Below w.heap.size w w' := by
  have HB : Below w.heap.size w (w.alloc (.cells #[.bool b, .slice A n c] 28)) := (Below.refl _ _).alloc (Nat.le_refl _) _
  have h1 : (no == 0) = false := by simpa using hno
  have h2 : (no != 0) = true := by simpa using hno
  have em : ((mks ([] : List Nat)).toList == []) = true := by rw [toList_mks]; rfl
  go_enter Try.func14, Try.ntmps14
  go_wp2
  go_ret
  exact ⟨rfl, HB⟩

set_option maxRecDepth 100000 in
set_option maxHeartbeats 8000000 in
theorem parses_long (l : List Nat) (base : Int) (w : World) (hs : 1500 < l.length) :
    Calls Try.prog 3 #[.string (mks l), .int .i64 base] w fun e w' => e = .returned (.bool true) ∧ Below w.heap.size w w' := by
  have HBd : Below w.heap.size w w := Below.refl _ _
  have hs' : 1500 < (l.length : Int) := by omega
  go_enter Try.func3, Try.ntmps3
  go_wp2_with (go_at_call 11; ((with_reducible refine (awake_any _).mono ?_)); rintro e wn ⟨rfl, hbn⟩; replace HBd := HBd.trans (hbn.mono HBd.size); clear hbn)
  exact bodyPost_ret (v := .bool true) (by simp [results, Try.results3, go_sem]) rfl ⟨rfl, HBd⟩

theorem parse_ntx_some (neg : Bool) (m : Nat) (h : (dg m).length ≤ 400) : (parseC (ntx neg m)).isSome = true := by rw [parseC_ntx neg m h]; rfl
set_option maxRecDepth 100000 in
set_option maxHeartbeats 8000000 in
theorem parses_main (l : List Nat) (base : Int) (w : World) (hl : By l) (hs : l.length ≤ 1500) :
    Calls Try.prog 3 #[.string (mks l), .int .i64 base] w fun e w' => e = .returned (.bool true) ∧ Below w.heap.size w w' := by
  have HBd : Below w.heap.size w w := Below.refl _ _
  have hs' : ¬ 1500 < (l.length : Int) := by omega
  have C1 := fun w => parse_any l base w hl (by omega)
  have C2 := fun w => rparse_any l base w hl (by omega)
  unfold RP at C2
  generalize parR l base = pr at C1 C2
  have C3 := fun w => valid_any l w hl
  have C4 := fun w => rvalid_any l w hl (by omega)
  generalize (parseC l).isSome = vb at C3 C4
  have D1 := Lib.hid C1
  have D2 := Lib.hid C2
  have D3 := Lib.hid C3
  have D4 := Lib.hid C4
  clear C1 C2 C3 C4
  go_enter Try.func3, Try.ntmps3
  go_upto_region 5 with (first | (go_at_call 12; ((with_reducible refine (D1.out _).mono ?_)); rintro e wn ⟨rfl, hbn⟩; replace HBd := HBd.trans (hbn.mono HBd.size); clear hbn) | (go_at_call 13; ((with_reducible refine (D2.out _).mono ?_)); rintro e w6 ⟨x, no, A, n, c, rfl, hcase, hn, hr, hb6⟩))
  obtain ⟨HX, hb7, hz7⟩ := boxes1 w6 28 [.bool x.1, .slice A n c]
  have hr7 := hr.keep hb7
  replace HBd := (HBd.trans (hb6.mono HBd.size)).trans (hb7.mono (Nat.le_trans HBd.size hb6.size))
  generalize (w6.alloc (.cells #[.bool x.1, .slice A n c] 28)) = W at *
  have x0 := r0_of HX.out
  have x1 := r1_of HX.out
  rcases hcase.out with ⟨rfl, hp, hx⟩ | ⟨hno, hp⟩
  · have C5 := fun w hr => agree_any x A n c w hn hr
    have C6 := fun w => valid_any (tS x) w (by_tS x)
    rw [tE_le hx] at C5
    rw [show (parseC (tS x)).isSome = true from by rw [tS_le hx]; exact parse_ntx_some _ _ hx] at C6
    have e1 : pr.1 = tS x := by rw [hp]
    have e2 : pr.2 = 0 := by rw [hp]
    rw [e1, e2]
    have D5 := Lib.hid C5
    have D6 := Lib.hid C6
    generalize mks (tS x) = S at *
    clear C5 C6 hp e1 e2 D1 D2 hcase
    go_wp2_with (first | (go_at_call 14; ((with_reducible refine (D5.out _ hr7).mono ?_)); rintro e wn ⟨rfl, hbn⟩; replace HBd := HBd.trans (hbn.mono HBd.size); clear hbn) | (go_at_call 15; ((with_reducible refine (D3.out _).mono ?_)); rintro e wn ⟨rfl, hbn⟩; replace HBd := HBd.trans (hbn.mono HBd.size); clear hbn) | (go_at_call 16; ((with_reducible refine (D4.out _).mono ?_)); rintro e wn ⟨rfl, rfl⟩) | (go_at_call 15; ((with_reducible refine (D6.out _).mono ?_)); rintro e wn ⟨rfl, hbn⟩; replace HBd := HBd.trans (hbn.mono HBd.size); clear hbn) | (go_at_call 11; ((with_reducible refine (awake_any _).mono ?_)); rintro e wn ⟨rfl, hbn⟩; replace HBd := HBd.trans (hbn.mono HBd.size); clear hbn))
    exact bodyPost_ret (v := .bool true) (by simp [results, Try.results3, go_sem]) rfl ⟨rfl, HBd⟩
  · have C5 := fun w => agree_no x.1 A n c no w hno
    have e1 : pr.1 = [] := by rw [hp]
    have e2 : pr.2 = no := by rw [hp]
    rw [e1, e2]
    have h2 : (no != 0) = true := by simpa using hno
    have h1 : (no == 0) = false := by simpa using hno
    have D5 := Lib.hid C5
    clear C5 hp e1 e2 D1 D2 hcase hno
    go_wp2_with (first | (go_at_call 14; ((with_reducible refine (D5.out _).mono ?_)); rintro e wn ⟨rfl, hbn⟩; replace HBd := HBd.trans (hbn.mono HBd.size); clear hbn) | (go_at_call 15; ((with_reducible refine (D3.out _).mono ?_)); rintro e wn ⟨rfl, hbn⟩; replace HBd := HBd.trans (hbn.mono HBd.size); clear hbn) | (go_at_call 16; ((with_reducible refine (D4.out _).mono ?_)); rintro e wn ⟨rfl, rfl⟩) | (go_at_call 11; ((with_reducible refine (awake_any _).mono ?_)); rintro e wn ⟨rfl, hbn⟩; replace HBd := HBd.trans (hbn.mono HBd.size); clear hbn))
    exact bodyPost_ret (v := .bool true) (by simp [results, Try.results3, go_sem]) rfl ⟨rfl, HBd⟩
theorem parses_any (l : List Nat) (base : Int) (w : World) (hl : By l) :
    Calls Try.prog 3 #[.string (mks l), .int .i64 base] w fun e w' => e = .returned (.bool true) ∧ Below w.heap.size w w' := by
  by_cases hs : 1500 < l.length
  · exact parses_long l base w hs
  · exact parses_main l base w hl (by omega)
end Go.Proofs.Ytgnddobonboloaa
