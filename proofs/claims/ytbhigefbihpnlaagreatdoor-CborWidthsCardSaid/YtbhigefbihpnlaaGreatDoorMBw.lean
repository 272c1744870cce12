/- The walk of the law on widths. -/
import Derived.Test.YtbhigefbihpnlaaGreatDoorMBv
set_option linter.unusedVariables false
set_option linter.unusedSimpArgs false
set_option linter.defProp false
set_option linter.constructorNameAsVariable false
namespace Go.Proofs.YtbhigefbihpnlaaGreatDoor
open Go.RowKit
def strV (ps : List (List Nat)) : List Value := ps.map fun p => .string (mks p)
theorem strV_get {ps : List (List Nat)} {i : Nat} {p : List Nat} (h : ps[i]? = some p) : (strV ps)[i]? = some (.string (mks p)) := by unfold strV; rw [List.getElem?_map, h]; rfl
@[go_sem] theorem app_246 (a : List Nat) : mks a ++ (⟨#[246]⟩ : ByteArray) = mks (a ++ [246]) := append_mks a [246]
@[go_sem] theorem app_95 (a : List Nat) : mks a ++ (⟨#[95]⟩ : ByteArray) = mks (a ++ [95]) := append_mks a [95]
@[go_sem] theorem app_255 (a : List Nat) : mks a ++ (⟨#[255]⟩ : ByteArray) = mks (a ++ [255]) := append_mks a [255]
@[go_sem] theorem app_191 (a : List Nat) : mks a ++ (⟨#[191]⟩ : ByteArray) = mks (a ++ [191]) := append_mks a [191]
@[go_sem] theorem app_two (a : List Nat) : mks a ++ (⟨#[246, 255]⟩ : ByteArray) = mks (a ++ [246, 255]) := append_mks a [246, 255]
@[go_sem] theorem app_159 (a : List Nat) : (⟨#[159]⟩ : ByteArray) ++ mks a = mks (159 :: a) := append_mks [159] a
theorem take_snoc {α : Type} {l : List α} {i : Nat} {x : α} (h : l[i]? = some x) : l.take (i + 1) = l.take i ++ [x] := by rw [List.take_add_one, h]; rfl
set_option maxRecDepth 20000 in
set_option maxHeartbeats 16000000 in
theorem widths_law {n d c : Nat} {A : Option Addr} {ps : List (List Nat)} (hn : n < 18446744073709551616) (hd : d < 256) (hps : ∀ p ∈ ps, By p) (w : World) (hw : LibF w) (hR : Rd w A (strV ps)) (hlen : ps.length ≤ maxLen) :
  Calls Tryz.prog 4 #[.int .u64 (n : Int), .slice A ps.length c, .int .u8 (d : Int)] w fun e w' => e = .returned (.bool true) ∧ Below w.heap.size w w' := by
 obtain ⟨L, hL⟩ : ∃ L, ps.length = L := ⟨_, rfl⟩
 have HW := Lib.hid hw
 have HR := Lib.hid hR
 have HP := Lib.hid hps
 have HL := Lib.hid hL
 have HB := Lib.hid (Below.refl w.heap.size w)
 rw [hL] at hlen ⊢
 unfold maxLen at hlen
 clear hw hR hps hL
 by_cases h5 : 5 < L
 ·have h5' : (L : Int) > 5 := by omega
  go_enter Tryz.func4, Tryz.ntmps4
  go_wp2_with (go_at_call 6; ((with_reducible refine (bawake_true w HW.out).mono ?_)); rintro e w1 ⟨rfl, hb1⟩)
  go_ret
  exact ⟨rfl, hb1⟩
 ·have h5' : ¬ (L : Int) > 5 := by omega
  go_enter Tryz.func4, Tryz.ntmps4
  go_upto_region 5 with (fail)
  have HU : Hid ((⟨#[]⟩ : ByteArray) = mks (piecesV 0 (ps.take 0)) ∧ (⟨#[]⟩ : ByteArray) = mks (ps.take 0).flatten) := ⟨rfl, rfl⟩
  go_wp2_with (fail)
  go_loopw [7, 8, 9] (fun tv uv iv wr => ∃ i : Nat, i ≤ L ∧ iv = .int .i64 (i : Int) ∧ Hid (tv = .string (mks (ps.take i).flatten)) ∧ Hid (uv = .string (mks (piecesV 0 (ps.take i)))) ∧ Hid (∀ p ∈ ps.take i, p.length ≤ 30) ∧ Hid (Below w.heap.size w wr)) (fun _ _ iv _ => L - (intOf iv).toNat)
  case atStart => exact ⟨0, Nat.zero_le _, rfl, congrArg Value.string HU.out.2, congrArg Value.string HU.out.1, Lib.hid (fun p hp => by simp at hp), HB⟩
  case round =>
   obtain ⟨i, hi, rfl, ht, hu, hq, hB⟩ := hrel
   obtain ⟨T, hT⟩ : ∃ x, (ps.take i).flatten = x := ⟨_, rfl⟩
   obtain ⟨U, hU⟩ : ∃ x, piecesV 0 (ps.take i) = x := ⟨_, rfl⟩
   have HT := Lib.hid hT
   have HU := Lib.hid hU
   rw [hT] at ht
   rw [hU] at hu
   obtain rfl := ht.out
   obtain rfl := hu.out
   have hTl : T.length ≤ 150 := by
    have h := flat_len _ hq.out
    have h2 : (ps.take i).length ≤ i := by simp; omega
    rw [hT] at h
    omega
   have hUl : U.length ≤ 200 := by
    have h := pieces_len2 _ 0 hq.out
    have h2 : (ps.take i).length ≤ i := by simp; omega
    rw [hU] at h
    omega
   clear hT hU ht hu
   by_cases hlt : i < L
   ·have hlt' : (i : Int) < L := by omega
    have hi0 : (0 : Int) ≤ i := by omega
    obtain ⟨p, hp⟩ : ∃ p, ps[i]? = some p := ⟨_, List.getElem?_eq_getElem (by have := HL.out; omega)⟩
    have HPi := Lib.hid hp
    obtain ⟨a, rfl, ha⟩ := (HR.out.keep hB.out).at_ (strV_get hp)
    clear hp
    by_cases h30 : p.length ≤ 30
    ·have h30' : ¬ (p.length : Int) > 30 := by omega
     go_upto_region 10 with (fail)
     obtain ⟨k, hk⟩ : ∃ k, i % 4 = k := ⟨_, rfl⟩
     have e4 : (i : Int) % 4 = (k : Int) := by omega
     have hk4 : k < 4 := by omega
     obtain ⟨X, hX⟩ : ∃ x, wideV 2 p.length k = x := ⟨_, rfl⟩
     have hXl : X.length ≤ 9 := by rw [← hX]; exact wide_len hk4
     have DX : Hid (∀ W', Calls Tryz.prog 7 #[.int .i64 2, .int .u64 (IntKind.u64.wrap (p.length : Int)), .int .i64 ((i : Int).tmod 4)] W' fun e w' => e = .returned (.string (mks X)) ∧ Below W'.heap.size W' w') := fun W' => by
      have e5 : (i : Int).tmod 4 = (k : Int) := by rw [← hk]; rfl
      have e6 : IntKind.u64.wrap (p.length : Int) = (p.length : Int) := by rw [IntKind.wrap_u64]; omega
      rw [← hX, e5, e6]
      exact wide_cb (major := 2) (by omega) hk4 W'
     have HX := Lib.hid hX
     have HK := Lib.hid hk
     have hX1 : ¬ 9223372036854775807 < X.length + p.length := by omega
     have hX2 : ¬ 9223372036854775807 < U.length + (X.length + p.length) := by omega
     have hS0 : Below wr.heap.size wr wr := Below.refl _ _
     have hS1 : Below wr.heap.size wr wr.drew := Below.drew (Below.refl _ _)
     have HC : ∀ w', Below wr.heap.size wr w' → w'.cell? (a.add i) = some (.string (mks p)) := fun w' h => (h.cell (block_lt_of_cell ha)).trans ha
     clear hk hX
     go_region_held3 (fun w' => Below wr.heap.size wr w') (repeat (first | assumption | refine Below.drew ?_)) (first | (go_at_call 7; ((with_reducible refine (DX.out _).mono ?_)); rintro e w1 ⟨rfl, hb1⟩; have hS2 := Below.trans (by assumption : Below wr.heap.size wr _) (hb1.mono (by first | assumption | omega | (simp; done) | (simp; omega)))))
     go_wp2
     go_roundw
     case rel =>
      refine ⟨i + 1, by omega, i64e (by omega), Lib.hid (congrArg Value.string (congrArg mks ?_)), Lib.hid (congrArg Value.string (congrArg mks ?_)), Lib.hid (fun p' hp' => ?_), Lib.hid (hB.out.trans ((by assumption : Below wr.heap.size wr _).mono hB.out.size))⟩
      ·rw [take_snoc HPi.out, ← HT.out]; simp
      ·rw [take_snoc HPi.out, pieces_snoc, show 0 + (ps.take i).length = i by (have := HL.out; simp; omega), HU.out, HK.out, HX.out]
      ·rw [take_snoc HPi.out] at hp'
       rcases List.mem_append.1 hp' with h | h
       ·exact hq.out p' h
       ·rw [List.mem_singleton.1 h]; exact h30
     case measure => simp [intOf]; omega
    ·have h30' : (p.length : Int) > 30 := by omega
     go_wp2_with (go_at_call 6; ((with_reducible refine (bawake_true _ (HW.out.keep hB.out)).mono ?_)); rintro e w1 ⟨rfl, hb1⟩)
     go_ret
     exact ⟨rfl, hB.out.trans (hb1.mono hB.out.size)⟩
   ·have hlt' : ¬ (i : Int) < L := by omega
    obtain rfl : i = L := by omega
    rw [← HL.out, List.take_length] at HT HU
    have hq' := hq.out
    rw [← HL.out, List.take_length] at hq'
    have HQ := Lib.hid hq'
    obtain ⟨w9, hw9⟩ : ∃ x : World, x = wr := ⟨_, rfl⟩
    subst hw9
    have HB9 := Lib.hid hB.out
    clear hq hq' HR hlt hi hB
    obtain ⟨k, hk⟩ : ∃ k, d % 4 = k := ⟨_, rfl⟩
    have hk4 : k < 4 := by omega
    have e4 : (d : Int) % 4 = (k : Int) := by omega
    clear hk
    by_cases hk3 : k < 3
    have hk3' : (k : Int) < 3 := by omega
    obtain ⟨s, B, m, hs, hs64, hB, hB0, hm, hmB⟩ : ∃ s B m : Nat, IntKind.u64.wrap (8 * 2 ^ k) = (s : Int) ∧ s ≤ 32 ∧ IntKind.u64.wrap (2 ^ s) = (B : Int) ∧ ¬ (B : Int) = 0 ∧ (n : Int) % (B : Int) = (m : Int) ∧ m < 256 ^ 2 ^ k := by
     rcases (show k = 0 ∨ k = 1 ∨ k = 2 by omega) with rfl | rfl | rfl
     ·exact ⟨8, 256, n % 256, by decide, by decide, by decide, by decide, by omega, by show n % 256 < 256; omega⟩
     ·exact ⟨16, 65536, n % 65536, by decide, by decide, by decide, by decide, by omega, by show n % 65536 < 65536; omega⟩
     ·exact ⟨32, 4294967296, n % 4294967296, by decide, by decide, by decide, by decide, by omega, by show n % 4294967296 < 4294967296; omega⟩
    have HM := Lib.hid (show m < 256 ^ 2 ^ k ∧ m < 18446744073709551616 by
     refine ⟨hmB, ?_⟩
     rcases (show k = 0 ∨ k = 1 ∨ k = 2 by omega) with rfl | rfl | rfl
     ·have h : m < 256 := hmB; omega
     ·have h : m < 65536 := hmB; omega
     ·have h : m < 4294967296 := hmB; omega)
    clear hmB
    rotate_left
    have hk3' : ¬ (k : Int) < 3 := by omega
    obtain ⟨m, hm⟩ : ∃ m, m = n := ⟨_, rfl⟩
    have HM := Lib.hid (show m < 256 ^ 2 ^ k ∧ m < 18446744073709551616 by
     obtain rfl : k = 3 := by omega
     exact ⟨by rw [hm]; exact hn, by omega⟩)
    subst hm
    rotate_left
    all_goals
     go_upto_region 15 with (fail)
     try rw [hm]
     try clear hm
     try clear hs hs64 hB hB0
     clear hk3'
     have hm64 := HM.out.2
     have hT64 : T.length < 18446744073709551616 := by omega
     obtain ⟨k2, hk2⟩ : ∃ x, max k 1 = x := ⟨_, rfl⟩
     have HK2 := Lib.hid hk2
     have hk24 : k2 < 4 := by omega
     obtain ⟨S44, hS44⟩ : ∃ x, startV 4 4 = x := ⟨_, rfl⟩
     have l44 : S44.length ≤ 9 := by rw [← hS44]; exact start_len
     have y44 := Lib.hid (show By S44 by rw [← hS44]; exact start_by (by decide))
     have D44 : Hid (∀ W', Calls Tryz.prog 8 #[.int .i64 4, .int .u64 4] W' fun e w' => e = .returned (.string (mks S44)) ∧ Below W'.heap.size W' w') := fun W' => by rw [← hS44]; exact start_cb (major := 4) (n := 4) (by omega) (by omega) W'
     replace hS44 := Lib.hid hS44
     obtain ⟨S0, hS0⟩ : ∃ x, startV 0 m = x := ⟨_, rfl⟩
     have l0 : S0.length ≤ 9 := by rw [← hS0]; exact start_len
     have y0 := Lib.hid (show By S0 by rw [← hS0]; exact start_by (by decide))
     have D0 : Hid (∀ W', Calls Tryz.prog 8 #[.int .i64 0, .int .u64 (m : Int)] W' fun e w' => e = .returned (.string (mks S0)) ∧ Below W'.heap.size W' w') := fun W' => by rw [← hS0]; exact start_cb (major := 0) (n := m) (by omega) (by omega) W'
     replace hS0 := Lib.hid hS0
     obtain ⟨S1, hS1⟩ : ∃ x, startV 1 m = x := ⟨_, rfl⟩
     have l1 : S1.length ≤ 9 := by rw [← hS1]; exact start_len
     have y1 := Lib.hid (show By S1 by rw [← hS1]; exact start_by (by decide))
     have D1 : Hid (∀ W', Calls Tryz.prog 8 #[.int .i64 1, .int .u64 (m : Int)] W' fun e w' => e = .returned (.string (mks S1)) ∧ Below W'.heap.size W' w') := fun W' => by rw [← hS1]; exact start_cb (major := 1) (n := m) (by omega) (by omega) W'
     replace hS1 := Lib.hid hS1
     obtain ⟨S2, hS2⟩ : ∃ x, startV 2 T.length = x := ⟨_, rfl⟩
     have l2 : S2.length ≤ 9 := by rw [← hS2]; exact start_len
     have y2 := Lib.hid (show By S2 by rw [← hS2]; exact start_by (by decide))
     have D2 : Hid (∀ W', Calls Tryz.prog 8 #[.int .i64 2, .int .u64 (T.length : Int)] W' fun e w' => e = .returned (.string (mks S2)) ∧ Below W'.heap.size W' w') := fun W' => by rw [← hS2]; exact start_cb (major := 2) (n := T.length) (by omega) (by omega) W'
     replace hS2 := Lib.hid hS2
     obtain ⟨S5, hS5⟩ : ∃ x, startV 5 1 = x := ⟨_, rfl⟩
     have l5 : S5.length ≤ 9 := by rw [← hS5]; exact start_len
     have y5 := Lib.hid (show By S5 by rw [← hS5]; exact start_by (by decide))
     have D5 : Hid (∀ W', Calls Tryz.prog 8 #[.int .i64 5, .int .u64 1] W' fun e w' => e = .returned (.string (mks S5)) ∧ Below W'.heap.size W' w') := fun W' => by rw [← hS5]; exact start_cb (major := 5) (n := 1) (by omega) (by omega) W'
     replace hS5 := Lib.hid hS5
     obtain ⟨W4, hW4⟩ : ∃ x, wideV 4 4 k = x := ⟨_, rfl⟩
     have lw4 : W4.length ≤ 9 := by rw [← hW4]; exact wide_len (by omega)
     have yw4 := Lib.hid (show By W4 by rw [← hW4]; exact wide_by (by decide) (by omega))
     have E4 : Hid (∀ W', Calls Tryz.prog 7 #[.int .i64 4, .int .u64 4, .int .i64 (k : Int)] W' fun e w' => e = .returned (.string (mks W4)) ∧ Below W'.heap.size W' w') := fun W' => by rw [← hW4]; exact wide_cb (major := 4) (n := 4) (by omega) (by omega) W'
     replace hW4 := Lib.hid hW4
     obtain ⟨W0, hW0⟩ : ∃ x, wideV 0 m k = x := ⟨_, rfl⟩
     have lw0 : W0.length ≤ 9 := by rw [← hW0]; exact wide_len (by omega)
     have yw0 := Lib.hid (show By W0 by rw [← hW0]; exact wide_by (by decide) (by omega))
     have E0 : Hid (∀ W', Calls Tryz.prog 7 #[.int .i64 0, .int .u64 (m : Int), .int .i64 (k : Int)] W' fun e w' => e = .returned (.string (mks W0)) ∧ Below W'.heap.size W' w') := fun W' => by rw [← hW0]; exact wide_cb (major := 0) (n := m) (by omega) (by omega) W'
     replace hW0 := Lib.hid hW0
     obtain ⟨W1, hW1⟩ : ∃ x, wideV 1 m k = x := ⟨_, rfl⟩
     have lw1 : W1.length ≤ 9 := by rw [← hW1]; exact wide_len (by omega)
     have yw1 := Lib.hid (show By W1 by rw [← hW1]; exact wide_by (by decide) (by omega))
     have E1 : Hid (∀ W', Calls Tryz.prog 7 #[.int .i64 1, .int .u64 (m : Int), .int .i64 (k : Int)] W' fun e w' => e = .returned (.string (mks W1)) ∧ Below W'.heap.size W' w') := fun W' => by rw [← hW1]; exact wide_cb (major := 1) (n := m) (by omega) (by omega) W'
     replace hW1 := Lib.hid hW1
     obtain ⟨W2, hW2⟩ : ∃ x, wideV 2 T.length k2 = x := ⟨_, rfl⟩
     have lw2 : W2.length ≤ 9 := by rw [← hW2]; exact wide_len (by omega)
     have yw2 := Lib.hid (show By W2 by rw [← hW2]; exact wide_by (by decide) (by omega))
     have E2 : Hid (∀ W', Calls Tryz.prog 7 #[.int .i64 2, .int .u64 (T.length : Int), .int .i64 (max (k : Int) 1)] W' fun e w' => e = .returned (.string (mks W2)) ∧ Below W'.heap.size W' w') := fun W' => by rw [← hW2, show max (k : Int) 1 = (k2 : Int) by omega]; exact wide_cb (major := 2) (n := T.length) (by omega) (by omega) W'
     replace hW2 := Lib.hid hW2
     obtain ⟨W5, hW5⟩ : ∃ x, wideV 5 1 k = x := ⟨_, rfl⟩
     have lw5 : W5.length ≤ 9 := by rw [← hW5]; exact wide_len (by omega)
     have yw5 := Lib.hid (show By W5 by rw [← hW5]; exact wide_by (by decide) (by omega))
     have E5 : Hid (∀ W', Calls Tryz.prog 7 #[.int .i64 5, .int .u64 1, .int .i64 (k : Int)] W' fun e w' => e = .returned (.string (mks W5)) ∧ Below W'.heap.size W' w') := fun W' => by rw [← hW5]; exact wide_cb (major := 5) (n := 1) (by omega) (by omega) W'
     replace hW5 := Lib.hid hW5
     clear hk2
     go_upto_region 16 with (first | (go_at_call 8; first | (((with_reducible refine (D44.out _).mono ?_)); rintro e wn ⟨rfl, hbn⟩; have HB9 := Lib.hid (HB9.out.trans (hbn.mono HB9.out.size)); clear hbn) | (((with_reducible refine (D0.out _).mono ?_)); rintro e wn ⟨rfl, hbn⟩; have HB9 := Lib.hid (HB9.out.trans (hbn.mono HB9.out.size)); clear hbn) | (((with_reducible refine (D1.out _).mono ?_)); rintro e wn ⟨rfl, hbn⟩; have HB9 := Lib.hid (HB9.out.trans (hbn.mono HB9.out.size)); clear hbn) | (((with_reducible refine (D2.out _).mono ?_)); rintro e wn ⟨rfl, hbn⟩; have HB9 := Lib.hid (HB9.out.trans (hbn.mono HB9.out.size)); clear hbn) | (((with_reducible refine (D5.out _).mono ?_)); rintro e wn ⟨rfl, hbn⟩; have HB9 := Lib.hid (HB9.out.trans (hbn.mono HB9.out.size)); clear hbn)) | (go_at_call 7; first | (((with_reducible refine (E4.out _).mono ?_)); rintro e wn ⟨rfl, hbn⟩; have HB9 := Lib.hid (HB9.out.trans (hbn.mono HB9.out.size)); clear hbn) | (((with_reducible refine (E0.out _).mono ?_)); rintro e wn ⟨rfl, hbn⟩; have HB9 := Lib.hid (HB9.out.trans (hbn.mono HB9.out.size)); clear hbn) | (((with_reducible refine (E1.out _).mono ?_)); rintro e wn ⟨rfl, hbn⟩; have HB9 := Lib.hid (HB9.out.trans (hbn.mono HB9.out.size)); clear hbn) | (((with_reducible refine (E2.out _).mono ?_)); rintro e wn ⟨rfl, hbn⟩; have HB9 := Lib.hid (HB9.out.trans (hbn.mono HB9.out.size)); clear hbn) | (((with_reducible refine (E5.out _).mono ?_)); rintro e wn ⟨rfl, hbn⟩; have HB9 := Lib.hid (HB9.out.trans (hbn.mono HB9.out.size)); clear hbn)))
     go_upto_region 17 with (first | (go_at_call 8; first | (((with_reducible refine (D44.out _).mono ?_)); rintro e wn ⟨rfl, hbn⟩; have HB9 := Lib.hid (HB9.out.trans (hbn.mono HB9.out.size)); clear hbn) | (((with_reducible refine (D0.out _).mono ?_)); rintro e wn ⟨rfl, hbn⟩; have HB9 := Lib.hid (HB9.out.trans (hbn.mono HB9.out.size)); clear hbn) | (((with_reducible refine (D1.out _).mono ?_)); rintro e wn ⟨rfl, hbn⟩; have HB9 := Lib.hid (HB9.out.trans (hbn.mono HB9.out.size)); clear hbn) | (((with_reducible refine (D2.out _).mono ?_)); rintro e wn ⟨rfl, hbn⟩; have HB9 := Lib.hid (HB9.out.trans (hbn.mono HB9.out.size)); clear hbn) | (((with_reducible refine (D5.out _).mono ?_)); rintro e wn ⟨rfl, hbn⟩; have HB9 := Lib.hid (HB9.out.trans (hbn.mono HB9.out.size)); clear hbn)) | (go_at_call 7; first | (((with_reducible refine (E4.out _).mono ?_)); rintro e wn ⟨rfl, hbn⟩; have HB9 := Lib.hid (HB9.out.trans (hbn.mono HB9.out.size)); clear hbn) | (((with_reducible refine (E0.out _).mono ?_)); rintro e wn ⟨rfl, hbn⟩; have HB9 := Lib.hid (HB9.out.trans (hbn.mono HB9.out.size)); clear hbn) | (((with_reducible refine (E1.out _).mono ?_)); rintro e wn ⟨rfl, hbn⟩; have HB9 := Lib.hid (HB9.out.trans (hbn.mono HB9.out.size)); clear hbn) | (((with_reducible refine (E2.out _).mono ?_)); rintro e wn ⟨rfl, hbn⟩; have HB9 := Lib.hid (HB9.out.trans (hbn.mono HB9.out.size)); clear hbn) | (((with_reducible refine (E5.out _).mono ?_)); rintro e wn ⟨rfl, hbn⟩; have HB9 := Lib.hid (HB9.out.trans (hbn.mono HB9.out.size)); clear hbn)))
     go_upto_region 18 with (first | (go_at_call 8; first | (((with_reducible refine (D44.out _).mono ?_)); rintro e wn ⟨rfl, hbn⟩; have HB9 := Lib.hid (HB9.out.trans (hbn.mono HB9.out.size)); clear hbn) | (((with_reducible refine (D0.out _).mono ?_)); rintro e wn ⟨rfl, hbn⟩; have HB9 := Lib.hid (HB9.out.trans (hbn.mono HB9.out.size)); clear hbn) | (((with_reducible refine (D1.out _).mono ?_)); rintro e wn ⟨rfl, hbn⟩; have HB9 := Lib.hid (HB9.out.trans (hbn.mono HB9.out.size)); clear hbn) | (((with_reducible refine (D2.out _).mono ?_)); rintro e wn ⟨rfl, hbn⟩; have HB9 := Lib.hid (HB9.out.trans (hbn.mono HB9.out.size)); clear hbn) | (((with_reducible refine (D5.out _).mono ?_)); rintro e wn ⟨rfl, hbn⟩; have HB9 := Lib.hid (HB9.out.trans (hbn.mono HB9.out.size)); clear hbn)) | (go_at_call 7; first | (((with_reducible refine (E4.out _).mono ?_)); rintro e wn ⟨rfl, hbn⟩; have HB9 := Lib.hid (HB9.out.trans (hbn.mono HB9.out.size)); clear hbn) | (((with_reducible refine (E0.out _).mono ?_)); rintro e wn ⟨rfl, hbn⟩; have HB9 := Lib.hid (HB9.out.trans (hbn.mono HB9.out.size)); clear hbn) | (((with_reducible refine (E1.out _).mono ?_)); rintro e wn ⟨rfl, hbn⟩; have HB9 := Lib.hid (HB9.out.trans (hbn.mono HB9.out.size)); clear hbn) | (((with_reducible refine (E2.out _).mono ?_)); rintro e wn ⟨rfl, hbn⟩; have HB9 := Lib.hid (HB9.out.trans (hbn.mono HB9.out.size)); clear hbn) | (((with_reducible refine (E5.out _).mono ?_)); rintro e wn ⟨rfl, hbn⟩; have HB9 := Lib.hid (HB9.out.trans (hbn.mono HB9.out.size)); clear hbn)))
     have hN := Lib.hid (nodesW_norm (m := m) (t := T))
     have HF : Hid (ps.flatten = T) := HT
     obtain ⟨SA, hSA⟩ : ∃ x, aV m T = x := ⟨_, rfl⟩
     obtain ⟨SB, hSB⟩ : ∃ x, bV m ps k = x := ⟨_, rfl⟩
     obtain ⟨SC, hSC⟩ : ∃ x, cV m T k = x := ⟨_, rfl⟩
     have yT : By T := by rw [← HF.out]; exact flat_by ps HP.out
     have PA := Lib.hid (fun W' hW' => parse_a (m := m) (t := T) hm64 yT hTl W' hW')
     have PB := Lib.hid (fun W' hW' => parse_b (m := m) (k := k) (ps := ps) hm64 HM.out.1 hk4 HP.out HQ.out (by have := HL.out; omega) W' hW')
     have PC := Lib.hid (fun W' hW' => parse_c (m := m) (k := k) (t := T) hm64 HM.out.1 hk4 yT hTl W' hW')
     have eA : S44 ++ (S0 ++ (S1 ++ (S2 ++ (T ++ (S5 ++ (S0 ++ [246])))))) = SA := by rw [← hSA, ← hS44.out, ← hS0.out, ← hS1.out, ← hS2.out, ← hS5.out]; rfl
     have eB : 159 :: (W0 ++ (W1 ++ 95 :: (U ++ 255 :: 191 :: (W0 ++ [246, 255, 255])))) = SB := by rw [← hSB, ← hW0.out, ← hW1.out, ← HU.out]; unfold bV; simp
     have eC : W4 ++ (W0 ++ (W1 ++ (W2 ++ (T ++ (W5 ++ (W0 ++ [246])))))) = SC := by rw [← hSC, ← hW4.out, ← hW0.out, ← hW1.out, ← hW2.out, ← hW5.out, ← HK2.out]; rfl
     rw [eA, eB, eC]
     rw [hSA] at PA
     rw [hSB, HF.out] at PB
     rw [hSC] at PC
     clear eA eB eC hSA hSB hSC
     go_upto_region 19 with (go_at_call 5; ((with_reducible refine (PA.out _ (HW.out.keep HB9.out)).mono ?_)); rintro e w1A ⟨gA, cA, AA, qA, rA, rfl, hb1, hg1, hG1⟩)
     have hb2 : Below w1A.heap.size w1A (w1A.alloc (.cells #[.int .i64 6, .string (mks SA), .slice (some ⟨gA, 0, none⟩) 7 cA, .int .i64 0, .slice AA rA qA, .slice none 0 0] 30)) := (Below.refl _ _).alloc (Nat.le_refl _) _
     have hb3 := hb1.trans (hb2.mono hb1.size)
     have HB9 := Lib.hid (HB9.out.trans (hb3.mono HB9.out.size))
     have GA : Hid (GRd (w1A.alloc (.cells #[.int .i64 6, .string (mks SA), .slice (some ⟨gA, 0, none⟩) 7 cA, .int .i64 0, .slice AA rA qA, .slice none 0 0] 30)) (w1A.alloc (.cells #[.int .i64 6, .string (mks SA), .slice (some ⟨gA, 0, none⟩) 7 cA, .int .i64 0, .slice AA rA qA, .slice none 0 0] 30)).heap.size gA 0 (nodesW m T)) := (hG1.below hb2 (Nat.le_refl _)).up hb2.size (Nat.le_refl _)
     have QA : Hid (Arr (w1A.alloc (.cells #[.int .i64 6, .string (mks SA), .slice (some ⟨gA, 0, none⟩) 7 cA, .int .i64 0, .slice AA rA qA, .slice none 0 0] 30)) w1A.heap.size 30 [.int .i64 6, .string (mks SA), .slice (some ⟨gA, 0, none⟩) 7 cA, .int .i64 0, .slice AA rA qA, .slice none 0 0]) := Arr.new w1A _ _
     clear hb1 hb2 hb3 hg1 hG1
     generalize (w1A.alloc (.cells #[.int .i64 6, .string (mks SA), .slice (some ⟨gA, 0, none⟩) 7 cA, .int .i64 0, .slice AA rA qA, .slice none 0 0] 30)) = w2A at *
     obtain ⟨bA, hbA⟩ : ∃ x, w1A.heap.size = x := ⟨_, rfl⟩
     rw [hbA] at QA ⊢
     clear hbA
     go_upto_region 20 with (go_at_call 5; ((with_reducible refine (PB.out _ (HW.out.keep HB9.out)).mono ?_)); rintro e w1B ⟨gB, cB, AB, qB, rB, rfl, hb1, hg1, hG1⟩)
     have hb2 : Below w1B.heap.size w1B (w1B.alloc (.cells #[.int .i64 6, .string (mks SB), .slice (some ⟨gB, 0, none⟩) 7 cB, .int .i64 0, .slice AB rB qB, .slice none 0 0] 30)) := (Below.refl _ _).alloc (Nat.le_refl _) _
     have hb3 := hb1.trans (hb2.mono hb1.size)
     have HB9 := Lib.hid (HB9.out.trans (hb3.mono HB9.out.size))
     have GB : Hid (GRd (w1B.alloc (.cells #[.int .i64 6, .string (mks SB), .slice (some ⟨gB, 0, none⟩) 7 cB, .int .i64 0, .slice AB rB qB, .slice none 0 0] 30)) (w1B.alloc (.cells #[.int .i64 6, .string (mks SB), .slice (some ⟨gB, 0, none⟩) 7 cB, .int .i64 0, .slice AB rB qB, .slice none 0 0] 30)).heap.size gB 0 (nodesW m T)) := (hG1.below hb2 (Nat.le_refl _)).up hb2.size (Nat.le_refl _)
     have QB : Hid (Arr (w1B.alloc (.cells #[.int .i64 6, .string (mks SB), .slice (some ⟨gB, 0, none⟩) 7 cB, .int .i64 0, .slice AB rB qB, .slice none 0 0] 30)) w1B.heap.size 30 [.int .i64 6, .string (mks SB), .slice (some ⟨gB, 0, none⟩) 7 cB, .int .i64 0, .slice AB rB qB, .slice none 0 0]) := Arr.new w1B _ _
     have GA := Lib.hid ((GA.out.below hb3 (Nat.le_refl _)).up hb3.size (Nat.le_refl _))
     have QA := Lib.hid (QA.out.keep hb3)
     clear hb1 hb2 hb3 hg1 hG1
     generalize (w1B.alloc (.cells #[.int .i64 6, .string (mks SB), .slice (some ⟨gB, 0, none⟩) 7 cB, .int .i64 0, .slice AB rB qB, .slice none 0 0] 30)) = w2B at *
     obtain ⟨bB, hbB⟩ : ∃ x, w1B.heap.size = x := ⟨_, rfl⟩
     rw [hbB] at QB ⊢
     clear hbB
     go_upto_region 21 with (go_at_call 5; ((with_reducible refine (PC.out _ (HW.out.keep HB9.out)).mono ?_)); rintro e w1C ⟨gC, cC, AC, qC, rC, rfl, hb1, hg1, hG1⟩)
     have hb2 : Below w1C.heap.size w1C (w1C.alloc (.cells #[.int .i64 6, .string (mks SC), .slice (some ⟨gC, 0, none⟩) 7 cC, .int .i64 0, .slice AC rC qC, .slice none 0 0] 30)) := (Below.refl _ _).alloc (Nat.le_refl _) _
     have hb3 := hb1.trans (hb2.mono hb1.size)
     have HB9 := Lib.hid (HB9.out.trans (hb3.mono HB9.out.size))
     have GC : Hid (GRd (w1C.alloc (.cells #[.int .i64 6, .string (mks SC), .slice (some ⟨gC, 0, none⟩) 7 cC, .int .i64 0, .slice AC rC qC, .slice none 0 0] 30)) (w1C.alloc (.cells #[.int .i64 6, .string (mks SC), .slice (some ⟨gC, 0, none⟩) 7 cC, .int .i64 0, .slice AC rC qC, .slice none 0 0] 30)).heap.size gC 0 (nodesW m T)) := (hG1.below hb2 (Nat.le_refl _)).up hb2.size (Nat.le_refl _)
     have QC : Hid (Arr (w1C.alloc (.cells #[.int .i64 6, .string (mks SC), .slice (some ⟨gC, 0, none⟩) 7 cC, .int .i64 0, .slice AC rC qC, .slice none 0 0] 30)) w1C.heap.size 30 [.int .i64 6, .string (mks SC), .slice (some ⟨gC, 0, none⟩) 7 cC, .int .i64 0, .slice AC rC qC, .slice none 0 0]) := Arr.new w1C _ _
     have GA := Lib.hid ((GA.out.below hb3 (Nat.le_refl _)).up hb3.size (Nat.le_refl _))
     have QA := Lib.hid (QA.out.keep hb3)
     have GB := Lib.hid ((GB.out.below hb3 (Nat.le_refl _)).up hb3.size (Nat.le_refl _))
     have QB := Lib.hid (QB.out.keep hb3)
     clear hb1 hb2 hb3 hg1 hG1
     generalize (w1C.alloc (.cells #[.int .i64 6, .string (mks SC), .slice (some ⟨gC, 0, none⟩) 7 cC, .int .i64 0, .slice AC rC qC, .slice none 0 0] 30)) = w2C at *
     obtain ⟨bC, hbC⟩ : ∃ x, w1C.heap.size = x := ⟨_, rfl⟩
     rw [hbC] at QC ⊢
     clear hbC
     have D1 := Lib.hid (fun W' (hb : Below w2C.heap.size w2C W') => csameW (ca := cA) (cb := cB) hm64 yT (by omega) W' (HW.out.keep (HB9.out.trans (hb.mono HB9.out.size))).1 ((GA.out.below hb (Nat.le_refl _)).up hb.size (Nat.le_refl _)) ((GB.out.below hb (Nat.le_refl _)).up hb.size (Nat.le_refl _)))
     have D2 := Lib.hid (fun W' (hb : Below w2C.heap.size w2C W') => csameW (ca := cA) (cb := cC) hm64 yT (by omega) W' (HW.out.keep (HB9.out.trans (hb.mono HB9.out.size))).1 ((GA.out.below hb (Nat.le_refl _)).up hb.size (Nat.le_refl _)) ((GC.out.below hb (Nat.le_refl _)).up hb.size (Nat.le_refl _)))
     have D3 := Lib.hid (fun W' (hb : Below w2C.heap.size w2C W') => bawake_true W' (HW.out.keep (HB9.out.trans (hb.mono HB9.out.size))))
     have kA2 := QA.out.cell' (i := 2) rfl
     have kA3 := QA.out.cell' (i := 3) rfl
     have kB2 := QB.out.cell' (i := 2) rfl
     have kB3 := QB.out.cell' (i := 3) rfl
     clear PA PB PC GA GB GC HQ HM
     go_wp2_with (first | (go_at_call 9; first | (((with_reducible refine (D1.out _ (Below.refl _ _)).mono ?_)); rintro e w31 ⟨rfl, hb31⟩; have jA2 := (QA.out.keep hb31).cell' (i := 2) rfl; have jA3 := (QA.out.keep hb31).cell' (i := 3) rfl; have jC2 := (QC.out.keep hb31).cell' (i := 2) rfl; have jC3 := (QC.out.keep hb31).cell' (i := 3) rfl) | (((with_reducible refine (D2.out _ hb31).mono ?_)); rintro e w32 ⟨rfl, hb32⟩; have hb33 := hb31.trans (hb32.mono hb31.size))) | (go_at_call 6; ((with_reducible refine (D3.out _ hb33).mono ?_)); rintro e w34 ⟨rfl, hb34⟩))
     go_ret
     exact ⟨rfl, HB9.out.trans ((hb33.trans (hb34.mono hb33.size)).mono HB9.out.size)⟩
end Go.Proofs.YtbhigefbihpnlaaGreatDoor
