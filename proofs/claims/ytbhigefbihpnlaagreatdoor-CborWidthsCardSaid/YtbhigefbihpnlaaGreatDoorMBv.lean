/- rosettalaw36.awake is true. -/
import Derived.Test.YtbhigefbihpnlaaGreatDoorMBm
import Derived.Test.YtbhigefbihpnlaaGreatDoorMBs
import Derived.Test.YtbhigefbihpnlaaGreatDoorMAp
import Derived.Test.YtbhigefbihpnlaaGreatDoorMBu
import Derived.Test.YtbhigefbihpnlaaGreatDoorMBn
set_option linter.unusedVariables false
set_option linter.unusedSimpArgs false
set_option linter.defProp false
set_option linter.constructorNameAsVariable false
namespace Go.Proofs.YtbhigefbihpnlaaGreatDoor
open Go.RowKit
def aN1 : List GNode := [⟨10, [], false, [1], [2]⟩, ⟨5, [97], false, [], []⟩, ⟨9, [], false, [], [3, 4]⟩, ⟨2, [49], false, [], []⟩, ⟨0, [], false, [], []⟩]
def aS1 : List JSpan := [⟨0, -1, 0, 0, 6, 0, 0, false, true⟩, ⟨2, 0, 0, 3, 6, 1, 3, false, true⟩, ⟨3, 1, 0, 4, 5, 0, 0, false, true⟩, ⟨4, 1, 1, 5, 6, 0, 0, false, true⟩]
def aN2 : List GNode := [⟨9, [], false, [], [0]⟩]
def aS2 : List JSpan := [⟨0, -1, 0, 0, 6, 0, 0, false, false⟩, ⟨0, 0, 0, 3, 6, 0, 0, true, true⟩]
theorem aN1_ck : ChkOK aN1 0 := ck_ok (by kernel_rfl) (by kernel_rfl) (by kernel_rfl)
theorem aN2_ck : ChkOK aN2 0 := ck_ok (by kernel_rfl) (by kernel_rfl) (by kernel_rfl)
theorem aN1_z : chkV aN1 0 = 0 := by kernel_rfl
theorem aN2_z : chkV aN2 0 = 0 := by kernel_rfl
theorem cparse_ok {f : Nat} {s : List Nat} {N : List GNode} {S : List JSpan} (hs : By s) (hl : s.length ≤ 65536) (hr : sourceC f s = .ok (N, S)) (hck : ChkOK N 0) (h5 : chkV N 0 ≠ 5) (hS : 0 < S.length) (w : World) (hw : LibF w) :
  Calls Tryz.prog 5 #[.string (mks s)] w fun e w' => ∃ gn cn gv cv, e = .returned (.tuple #[.agg #[.int .i64 6, .string (mks s), .slice (some ⟨gn, 0, none⟩) N.length cn, .int .i64 0, .slice (some ⟨gv, 0, none⟩) S.length cv, .slice none 0 0], .int .i64 0, .int .i64 0]) ∧
   Below w.heap.size w w' ∧ w.heap.size ≤ gn ∧ GRd w' w'.heap.size gn 0 N ∧ gv < w'.heap.size ∧ (∀ i u, (spansC S)[i]? = some u → w'.cell? ⟨gv, i, none⟩ = some u) := by
 refine (cparse_cb f s hs hl (by rw [hr]; intro h; cases h) (fun N' S' h => by rw [hr] at h; cases h; exact hck) w hw).mono fun e w' h => ?_
 rw [hr] at h
 obtain ⟨hb, _, h2⟩ := h
 obtain ⟨gn, cn, vs, he, h3, h4, h6⟩ := h2 h5
 obtain ⟨gv, cv, hv, _, _⟩ := own_some h6 hS
 subst hv
 exact ⟨gn, cn, gv, cv, he, hb, h3, h4, (h6.lt gv rfl).2, fun i u hu => (own_cell1 h6 hu).1⟩
theorem cparse_err {f : Nat} {s : List Nat} {a c : Nat} (hs : By s) (hl : s.length ≤ 65536) (hr : sourceC f s = .err a c) (w : World) (hw : LibF w) :
  Calls Tryz.prog 5 #[.string (mks s)] w fun e w' => e = .returned (.tuple #[.agg zDocB.toArray, .int .i64 (a : Int), .int .i64 (c : Int)]) ∧ Below w.heap.size w w' := by
 refine (cparse_cb f s hs hl (by rw [hr]; intro h; cases h) (fun N' S' h => by rw [hr] at h; cases h) w hw).mono fun e w' h => ?_
 rw [hr] at h
 exact ⟨h.2, h.1⟩
set_option maxRecDepth 20000 in
set_option maxHeartbeats 8000000 in
theorem bawake_true (w : World) (hw : LibF w) : Calls Tryz.prog 6 #[] w fun e w' => e = .returned (.bool true) ∧ Below w.heap.size w w' := by
 have D1 : Hid (∀ W, LibF W → Calls Tryz.prog 5 #[.string ⟨#[161, 97, 97, 130, 1, 246]⟩] W fun e w' => ∃ gn cn gv cv, e = .returned (.tuple #[.agg #[.int .i64 6, .string ⟨#[161, 97, 97, 130, 1, 246]⟩, .slice (some ⟨gn, 0, none⟩) 5 cn, .int .i64 0, .slice (some ⟨gv, 0, none⟩) 4 cv, .slice none 0 0], .int .i64 0, .int .i64 0]) ∧
   Below W.heap.size W w' ∧ w'.cell? ⟨gv, 12, none⟩ = some (.int .i64 3) ∧ w'.cell? ⟨gv, 13, none⟩ = some (.int .i64 6) ∧ gv < w'.heap.size) := fun W hW => by
  have h := cparse_ok (f := 40) (s := aw1) (N := aN1) (S := aS1) (by_dec (by kernel_rfl)) (by decide) aw1_ok aN1_ck (by rw [aN1_z]; decide) (by decide) W hW
  rw [show mks aw1 = ⟨#[161, 97, 97, 130, 1, 246]⟩ by kernel_rfl] at h
  exact h.mono fun e w' ⟨gn, cn, gv, cv, he, hb, _, _, hl, hc⟩ => ⟨gn, cn, gv, cv, he, hb, hc 12 _ rfl, hc 13 _ rfl, hl⟩
 have D2 : Hid (∀ W, LibF W → Calls Tryz.prog 5 #[.string ⟨#[216, 28, 129, 216, 29, 0]⟩] W fun e w' => ∃ gn cn gv cv, e = .returned (.tuple #[.agg #[.int .i64 6, .string ⟨#[216, 28, 129, 216, 29, 0]⟩, .slice (some ⟨gn, 0, none⟩) 1 cn, .int .i64 0, .slice (some ⟨gv, 0, none⟩) 2 cv, .slice none 0 0], .int .i64 0, .int .i64 0]) ∧
   Below W.heap.size W w' ∧ w'.cell? ⟨gv, 8, none⟩ = some (.bool false) ∧ w'.cell? ⟨gv, 16, none⟩ = some (.bool true) ∧ gv < w'.heap.size) := fun W hW => by
  have h := cparse_ok (f := 40) (s := aw2) (N := aN2) (S := aS2) (by_dec (by kernel_rfl)) (by decide) aw2_ok aN2_ck (by rw [aN2_z]; decide) (by decide) W hW
  rw [show mks aw2 = ⟨#[216, 28, 129, 216, 29, 0]⟩ by kernel_rfl] at h
  exact h.mono fun e w' ⟨gn, cn, gv, cv, he, hb, _, _, hl, hc⟩ => ⟨gn, cn, gv, cv, he, hb, hc 8 _ rfl, hc 16 _ rfl, hl⟩
 have D3 : Hid (∀ W, LibF W → Calls Tryz.prog 5 #[.string ⟨#[129, 255]⟩] W fun e w' => e = .returned (.tuple #[.agg zDocB.toArray, .int .i64 1, .int .i64 4]) ∧ Below W.heap.size W w') := fun W hW => by
  have h := cparse_err (f := 40) (s := aw3) (by_dec (by kernel_rfl)) (by decide) aw3_err W hW
  rw [show mks aw3 = ⟨#[129, 255]⟩ by kernel_rfl] at h
  exact h
 have D4 : Hid (∀ W, LibF W → Calls Tryz.prog 5 #[.string ⟨#[216, 29, 0]⟩] W fun e w' => e = .returned (.tuple #[.agg zDocB.toArray, .int .i64 0, .int .i64 24]) ∧ Below W.heap.size W w') := fun W hW => by
  have h := cparse_err (f := 40) (s := aw4) (by_dec (by kernel_rfl)) (by decide) aw4_err W hW
  rw [show mks aw4 = ⟨#[216, 29, 0]⟩ by kernel_rfl] at h
  exact h
 have HW := Lib.hid hw
 clear hw
 go_enter Tryz.func6, Tryz.ntmps6
 go_upto_region 2 with (go_at_call 5; ((with_reducible refine (D1.out _ HW.out).mono ?_)); rintro e w1 ⟨gn1, cn1, gv1, cv1, rfl, hb1, s12, s13, hl1⟩)
 have A1 := (Below.refl w1.heap.size w1).alloc (Nat.le_refl _) (.cells #[.int .i64 6, .string ⟨#[161, 97, 97, 130, 1, 246]⟩, .slice (some ⟨gn1, 0, none⟩) 5 cn1, .int .i64 0, .slice (some ⟨gv1, 0, none⟩) 4 cv1, .slice none 0 0] 30)
 have X1 : Hid (Arr (w1.alloc (.cells #[.int .i64 6, .string ⟨#[161, 97, 97, 130, 1, 246]⟩, .slice (some ⟨gn1, 0, none⟩) 5 cn1, .int .i64 0, .slice (some ⟨gv1, 0, none⟩) 4 cv1, .slice none 0 0] 30)) w1.heap.size 30 [.int .i64 6, .string ⟨#[161, 97, 97, 130, 1, 246]⟩, .slice (some ⟨gn1, 0, none⟩) 5 cn1, .int .i64 0, .slice (some ⟨gv1, 0, none⟩) 4 cv1, .slice none 0 0]) := Arr.new w1 _ _
 have HB1 := Lib.hid (hb1.trans (A1.mono hb1.size))
 have SC1 := Lib.hid (fun (W : World) (h : Below w1.heap.size w1 W) => (show W.cell? ⟨gv1, 12, none⟩ = some (.int .i64 3) ∧ W.cell? ⟨gv1, 13, none⟩ = some (.int .i64 6) from by
  unfold World.cell? at s12 s13 ⊢
  rw [h.block gv1 hl1]
  exact ⟨s12, s13⟩))
 have A1' := Lib.hid A1
 clear s12 s13 A1 hb1 D1
 generalize (w1.alloc (.cells #[.int .i64 6, .string ⟨#[161, 97, 97, 130, 1, 246]⟩, .slice (some ⟨gn1, 0, none⟩) 5 cn1, .int .i64 0, .slice (some ⟨gv1, 0, none⟩) 4 cv1, .slice none 0 0] 30)) = W1 at *
 obtain ⟨b1, hb1⟩ : ∃ x, w1.heap.size = x := ⟨_, rfl⟩
 have HZ1 := Lib.hid hb1
 rw [hb1] at X1 ⊢
 clear hb1
 have L1 := Lib.hid (HW.out.keep HB1.out)
 go_upto_region 3 with (go_at_call 5; ((with_reducible refine (D2.out _ L1.out).mono ?_)); rintro e w2 ⟨gn2, cn2, gv2, cv2, rfl, hb2, s8, s16, hl2⟩)
 have A2 := (Below.refl w2.heap.size w2).alloc (Nat.le_refl _) (.cells #[.int .i64 6, .string ⟨#[216, 28, 129, 216, 29, 0]⟩, .slice (some ⟨gn2, 0, none⟩) 1 cn2, .int .i64 0, .slice (some ⟨gv2, 0, none⟩) 2 cv2, .slice none 0 0] 30)
 have X2 : Hid (Arr (w2.alloc (.cells #[.int .i64 6, .string ⟨#[216, 28, 129, 216, 29, 0]⟩, .slice (some ⟨gn2, 0, none⟩) 1 cn2, .int .i64 0, .slice (some ⟨gv2, 0, none⟩) 2 cv2, .slice none 0 0] 30)) w2.heap.size 30 [.int .i64 6, .string ⟨#[216, 28, 129, 216, 29, 0]⟩, .slice (some ⟨gn2, 0, none⟩) 1 cn2, .int .i64 0, .slice (some ⟨gv2, 0, none⟩) 2 cv2, .slice none 0 0]) := Arr.new w2 _ _
 have X12 := Lib.hid ((X1.out.keep hb2).keep A2)
 have HB2 := Lib.hid (HB1.out.trans ((hb2.trans (A2.mono hb2.size)).mono HB1.out.size))
 have A12 := Lib.hid (A1'.out.trans ((hb2.trans (A2.mono hb2.size)).mono A1'.out.size))
 have SC2 := Lib.hid (fun (W : World) (h : Below w2.heap.size w2 W) => (show W.cell? ⟨gv2, 8, none⟩ = some (.bool false) ∧ W.cell? ⟨gv2, 16, none⟩ = some (.bool true) from by
  unfold World.cell? at s8 s16 ⊢
  rw [h.block gv2 hl2]
  exact ⟨s8, s16⟩))
 have A2' := Lib.hid A2
 clear s8 s16 A2 hb2 D2 X1 HB1 A1' L1
 generalize (w2.alloc (.cells #[.int .i64 6, .string ⟨#[216, 28, 129, 216, 29, 0]⟩, .slice (some ⟨gn2, 0, none⟩) 1 cn2, .int .i64 0, .slice (some ⟨gv2, 0, none⟩) 2 cv2, .slice none 0 0] 30)) = W2 at *
 obtain ⟨b2, hb2⟩ : ∃ x, w2.heap.size = x := ⟨_, rfl⟩
 have HZ2 := Lib.hid hb2
 rw [hb2] at X2 ⊢
 clear hb2
 have L2 := Lib.hid (HW.out.keep HB2.out)
 go_upto_region 4 with (go_at_call 5; ((with_reducible refine (D3.out _ L2.out).mono ?_)); rintro e w3 ⟨rfl, hb3⟩)
 have A3 := (Below.refl w3.heap.size w3).alloc (Nat.le_refl _) (.cells zDocB.toArray 30)
 have X13 := Lib.hid ((X12.out.keep hb3).keep A3)
 have X23 := Lib.hid ((X2.out.keep hb3).keep A3)
 have HB3 := Lib.hid (HB2.out.trans ((hb3.trans (A3.mono hb3.size)).mono HB2.out.size))
 have A13 := Lib.hid (A12.out.trans ((hb3.trans (A3.mono hb3.size)).mono A12.out.size))
 have A23 := Lib.hid (A2'.out.trans ((hb3.trans (A3.mono hb3.size)).mono A2'.out.size))
 clear hb3 A3 X12 X2 HB2 A12 A2' L2 D3
 generalize (w3.alloc (.cells zDocB.toArray 30)) = W3 at *
 have L3 := Lib.hid (HW.out.keep HB3.out)
 go_wp2_with (go_at_call 5; ((with_reducible refine (D4.out _ L3.out).mono ?_)); rintro e w4 ⟨rfl, hb4⟩; have A4 := (Below.refl w4.heap.size w4).alloc (Nat.le_refl _) (.cells zDocB.toArray 30); have X14 := Lib.hid ((X13.out.keep hb4).keep A4); have X24 := Lib.hid ((X23.out.keep hb4).keep A4); have HB4 := Lib.hid (HB3.out.trans ((hb4.trans (A4.mono hb4.size)).mono HB3.out.size)); have A14 := (A13.out.trans ((hb4.trans (A4.mono hb4.size)).mono A13.out.size)); have A24 := (A23.out.trans ((hb4.trans (A4.mono hb4.size)).mono A23.out.size)); obtain ⟨q12, q13⟩ := SC1.out _ A14; obtain ⟨q8, q16⟩ := SC2.out _ A24; have d14 := X14.out.cell' (i := 4) rfl; have d22 := X24.out.cell' (i := 2) rfl; have d24 := X24.out.cell' (i := 4) rfl)
 go_ret
 exact ⟨rfl, HB4.out⟩
end Go.Proofs.YtbhigefbihpnlaaGreatDoor
namespace Go.Proofs.YtbhigefbihpnlaaGreatDoor
open Go.RowKit
/-! ### Nested lists -/
/-! ### A list of itself and of lists of it -/
/-! ### A list of nulls -/
theorem cparse_ok2 {f : Nat} {s : List Nat} {N : List GNode} {S : List JSpan} (hs : By s) (hl : s.length ≤ 65536) (hr : sourceC f s = .ok (N, S)) (hck : ChkOK N 0) (h5 : chkV N 0 ≠ 5) (w : World) (hw : LibF w) :
  Calls Tryz.prog 5 #[.string (mks s)] w fun e w' => ∃ gn cn As cs, e = .returned (.tuple #[.agg #[.int .i64 6, .string (mks s), .slice (some ⟨gn, 0, none⟩) N.length cn, .int .i64 0, .slice As S.length cs, .slice none 0 0], .int .i64 0, .int .i64 0]) ∧
   Below w.heap.size w w' ∧ w.heap.size ≤ gn ∧ GRd w' w'.heap.size gn 0 N := by
 refine (cparse_cb f s hs hl (by rw [hr]; intro h; cases h) (fun N' S' h => by rw [hr] at h; cases h; exact hck) w hw).mono fun e w' h => ?_
 rw [hr] at h
 obtain ⟨hb, _, h2⟩ := h
 obtain ⟨gn, cn, vs, he, h3, h4, h6⟩ := h2 h5
 obtain ⟨As, cs, hv, _, _⟩ := own_slice h6
 subst hv
 exact ⟨gn, cn, As, cs, he, hb, h3, h4⟩
end Go.Proofs.YtbhigefbihpnlaaGreatDoor
namespace Go.Proofs.YtbhigefbihpnlaaGreatDoor
open Go.RowKit
theorem own_rda {w : World} {b g c n : Nat} {e : TypeId} {xs : List Value} (h : w.ownsRow b e 1 (.slice (some ⟨g, 0, none⟩) n c) n xs) : Rd w (some ⟨g, 0, none⟩) xs := fun j u hj => ⟨_, rfl, h.cells rfl j u hj⟩
theorem B8_snoc (l : List Nat) (x : Nat) : B8 (l ++ [x]) = B8 l ++ [.int .u8 (x : Int)] := by rw [B8_append]; rfl
end Go.Proofs.YtbhigefbihpnlaaGreatDoor
namespace Go.Proofs.YtbhigefbihpnlaaGreatDoor
open Go.RowKit
theorem beV_get (n : Nat) : ∀ (k j : Nat), j < k → (beV k n)[j]? = some (n / 256 ^ (k - 1 - j) % 256) := by
 intro k
 induction k with
 | zero => intro j h; omega
 | succ k ih =>
  intro j h
  cases j with
  | zero => rfl
  | succ j => rw [show k + 1 - 1 - (j + 1) = k - 1 - j by omega]; exact ih j (by omega)
theorem beV_take (n k j e : Nat) (h : j + (e + 1) = k) : (beV k n).take (j + 1) = (beV k n).take j ++ [n / 256 ^ e % 256] := by
 rw [List.take_add_one, beV_get n k j (by omega), show k - 1 - j = e by omega]
 rfl
theorem pow8 (e : Nat) : ((256 ^ e : Nat) : Int) = (2 : Int) ^ (8 * e) := by
 rw [show (256 : Nat) ^ e = 2 ^ (8 * e) by rw [Nat.pow_mul]]
 exact Int.natCast_pow 2 (8 * e)
theorem byte_of {n e y : Nat} (h : n / 256 ^ e % 256 = y) : (n : Int) / 2 ^ (8 * e) % 256 = (y : Int) := by
 rw [← pow8, ← h]
 generalize 256 ^ e = m
 rfl
set_option maxRecDepth 20000 in
set_option maxHeartbeats 4000000 in
theorem wide_cb {major n w : Nat} (hm : major ≤ 7) (hw : w < 4) (W : World) : Calls Tryz.prog 7 #[.int .i64 (major : Int), .int .u64 (n : Int), .int .i64 (w : Int)] W fun e w' => e = .returned (.string (mks (wideV major n w))) ∧ Below W.heap.size W w' := by
 obtain ⟨h, hh⟩ : ∃ h, 32 * major + 24 + w = h := ⟨_, rfl⟩
 have e1 : (32 : Int) * (major : Int) + 24 + (w : Int) = (h : Int) := by omega
 have hwh : IntKind.u8.wrap (h : Int) = (h : Int) := by rw [IntKind.wrap_u8]; omega
 obtain ⟨K, hK⟩ : ∃ K, 2 ^ w = K := ⟨_, rfl⟩
 unfold wideV
 rw [hh, hK]
 have HH := Lib.hid hh
 have e2 : (2 : Int) ^ w - 1 = (K : Int) - 1 := by rw [← hK]; norm_cast
 have hK8 : 1 ≤ K ∧ K ≤ 8 := by rcases (show w = 0 ∨ w = 1 ∨ w = 2 ∨ w = 3 by omega) with rfl | rfl | rfl | rfl <;> (subst hK; decide)
 have HB := Lib.hid (Below.refl W.heap.size W)
 obtain ⟨z, hz⟩ : ∃ z, W.heap.size = z := ⟨_, rfl⟩
 have HZ := Lib.hid hz
 rw [hz] at HB ⊢
 clear hh hK hz
 go_enter Tryz.func7, Tryz.ntmps7
 go_upto_region 3 with (fail)
 have hb1 : Below z W (W.alloc (.cells #[.int .u8 (h : Int)] 5)) := HB.out.alloc (by rw [HZ.out]; exact Nat.le_refl _) _
 have hO1 : (W.alloc (.cells #[.int .u8 (h : Int)] 5)).ownsRow z 5 1 (.slice (some ⟨W.heap.size, 0, none⟩) 1 1) 1 (B8 [h]) := by
  refine ⟨rfl, .inr ⟨W.heap.size, 1, #[.int .u8 (h : Int)], rfl, by rw [HZ.out]; exact Nat.le_refl _, Arr.new W _ _, Nat.le_refl _, by unfold maxLen; omega, rfl, rfl⟩⟩
 have HB1 := Lib.hid hb1
 have HO1 : Hid (World.ownsRow (W.alloc (.cells #[.int .u8 (h : Int)] 5)) z 5 1 (.slice (some ⟨W.heap.size, 0, none⟩) 1 1) 1 (B8 (h :: (beV K n).take 0))) := hO1
 generalize (W.alloc (.cells #[.int .u8 (h : Int)] 5)) = W1 at *
 have hz1 := HB1.out.size
 obtain ⟨hK1, hK2⟩ := hK8
 clear hO1 hb1
 go_wp2_with (fail)
 go_loopw [7, 8] (fun bv iv wr => ∃ j e : Nat, j + e = K ∧ iv = .int .i64 ((e : Int) - 1) ∧ Hid (wr.ownsRow z 5 1 bv (j + 1) (B8 (h :: (beV K n).take j))) ∧ Hid (Below z W wr)) (fun _ iv _ => (intOf iv + 1).toNat)
 case atStart => exact ⟨0, K, Nat.zero_add _, rfl, HO1, HB1⟩
 case round =>
  clear HO1 HB1
  obtain ⟨j, e, hje, rfl, hO, hB⟩ := hrel
  obtain ⟨Ao, co, hvs, _, _⟩ := own_some hO.out (by omega)
  subst hvs
  have hBz := Nat.le_trans (Nat.le_of_eq HZ.out.symm) hB.out.size
  rcases e with _ | e
  ·obtain rfl : j = K := by omega
   have hcv := run_str (P := Tryz.prog) wr 23 9 5 Tryz.underlying23 Tryz.underlying5 Tryz.underlying9 (some ⟨Ao, 0, none⟩) (j + 1) co (h :: beV j n) (by have h := own_rda hO.out; rw [List.take_of_length_le (by rw [len_beV]; exact Nat.le_refl _)] at h; exact h) (by simp [len_beV])
   go_wp2_with (fail)
   go_ret
   exact ⟨rfl, hB.out⟩
  ·have he : ((e + 1 : Nat) : Int) - 1 = (e : Int) := by omega
   obtain ⟨y, hy⟩ : ∃ y, n / 256 ^ e % 256 = y := ⟨_, rfl⟩
   have hby := byte_of hy
   have HY : Hid (B8 (h :: (beV K n).take (j + 1)) = B8 (h :: (beV K n).take j) ++ [.int .u8 (y : Int)]) := by show _ = _; rw [beV_take n K j e (by omega), hy, ← List.cons_append, B8_snoc]
   clear hy
   generalize ((e + 1 : Nat) : Int) - 1 = x at *
   subst he
   go_wp2_with (at_builtin; go_loud (refine wpList_ap1 rfl (.tmp 23) (.tmp 30) 23 rfl z 5 _ _ Tryz.underlying23 Tryz.info5 rfl _ (j + 1) (B8 (h :: (beV K n).take j)) rfl (hO.out.alloc _) ⟨wr.heap.size, 0, none⟩ _ (.int .u8 (y : Int)) rfl (cell_new _ _ _) rfl (by unfold maxLen; omega) (by omega) (by have := hB.out.size; simp; omega) ?_; intro v3 w3 hown3 hgr3))
   go_roundw
   case rel => exact ⟨j + 1, e, by omega, rfl, by show World.ownsRow _ _ _ _ _ _ _; rw [HY.out]; exact hown3, (hB.out.alloc (by omega) _).grown hgr3 (by simp; omega) (fun g e => (hO.out.lt g e).1)⟩
   case measure => simp [intOf]
set_option maxRecDepth 20000 in
set_option maxHeartbeats 8000000 in
theorem start_cb {major n : Nat} (hm : major ≤ 7) (hn : n < 18446744073709551616) (W : World) : Calls Tryz.prog 8 #[.int .i64 (major : Int), .int .u64 (n : Int)] W fun e w' => e = .returned (.string (mks (startV major n))) ∧ Below W.heap.size W w' := by
 obtain ⟨g, hg⟩ : ∃ g, 32 * major = g := ⟨_, rfl⟩
 have e1 : (32 : Int) * (major : Int) = (g : Int) := by omega
 have hg9 : g ≤ 224 := by omega
 have hwg : IntKind.u8.wrap (g : Int) = (g : Int) := by rw [IntKind.wrap_u8]; omega
 have HB := Lib.hid (Below.refl W.heap.size W)
 obtain ⟨z, hz⟩ : ∃ z, W.heap.size = z := ⟨_, rfl⟩
 have HZ := Lib.hid hz
 unfold startV wideV
 rw [hg]
 rw [hz] at HB ⊢
 clear hg hz
 by_cases h24 : n < 24
 ·rw [if_pos h24]
  have h24' : (n : Int) < 24 := by omega
  have e3 : ((g + n : Nat) : Int) = (g : Int) + (n : Int) := by omega
  have hw1 : IntKind.u8.wrap ((g : Int) + (n : Int)) = (g : Int) + (n : Int) := by rw [IntKind.wrap_u8]; omega
  have hw2 : IntKind.u8.wrap (n : Int) = (n : Int) := by rw [IntKind.wrap_u8]; omega
  go_enter Tryz.func8, Tryz.ntmps8
  go_upto_region 5 with (fail)
  have hb1 : Below z W (W.alloc (.cells #[.int .u8 ((g : Int) + (n : Int))] 5)) := HB.out.alloc (by rw [HZ.out]; exact Nat.le_refl _) _
  have hcv := run_str (P := Tryz.prog) (W.alloc (.cells #[.int .u8 ((g : Int) + (n : Int))] 5)) 23 9 5 Tryz.underlying23 Tryz.underlying5 Tryz.underlying9 (some ⟨W.heap.size, 0, none⟩) 1 1 [g + n] (by rw [show B8 [g + n] = [.int .u8 ((g : Int) + (n : Int))] by rw [← e3]; rfl]; exact (Arr.new W _ _).rd) rfl
  go_wp2_with (fail)
  go_ret
  exact ⟨rfl, hb1⟩
 ·rw [if_neg h24]
  have h24' : ¬ (n : Int) < 24 := by omega
  rcases (show (n < 256) ∨ (¬ n < 256 ∧ n < 65536) ∨ (¬ n < 256 ∧ ¬ n < 65536 ∧ n < 4294967296) ∨ (¬ n < 256 ∧ ¬ n < 65536 ∧ ¬ n < 4294967296) by omega) with c1 | ⟨c1, c2⟩ | ⟨c1, c2, c3⟩ | ⟨c1, c2, c3⟩
  rw [if_pos c1]
  have d1 : (n : Int) < 256 := by omega
  obtain ⟨K, hK⟩ : ∃ K : Nat, 1 = K := ⟨_, rfl⟩
  obtain ⟨h, hh⟩ : ∃ h : Nat, g + 24 + 0 = h := ⟨_, rfl⟩
  have e2 : (g : Int) + 24 = (h : Int) := by omega
  have hwh : IntKind.u8.wrap (h : Int) = (h : Int) := by rw [IntKind.wrap_u8]; omega
  rw [hh, show 2 ^ 0 = K from hK]
  have HK := Lib.hid hK
  clear hK hh
  rotate_left
  rw [if_neg c1, if_pos c2]
  have d1 : ¬ (n : Int) < 256 := by omega
  have d2 : (n : Int) < 65536 := by omega
  obtain ⟨K, hK⟩ : ∃ K : Nat, 2 = K := ⟨_, rfl⟩
  obtain ⟨h, hh⟩ : ∃ h : Nat, g + 24 + 1 = h := ⟨_, rfl⟩
  have e2 : (g : Int) + 25 = (h : Int) := by omega
  have hwh : IntKind.u8.wrap (h : Int) = (h : Int) := by rw [IntKind.wrap_u8]; omega
  rw [hh, show 2 ^ 1 = K from hK]
  have HK := Lib.hid hK
  clear hK hh
  rotate_left
  rw [if_neg c1, if_neg c2, if_pos c3]
  have d1 : ¬ (n : Int) < 256 := by omega
  have d2 : ¬ (n : Int) < 65536 := by omega
  have d3 : (n : Int) < 4294967296 := by omega
  obtain ⟨K, hK⟩ : ∃ K : Nat, 4 = K := ⟨_, rfl⟩
  obtain ⟨h, hh⟩ : ∃ h : Nat, g + 24 + 2 = h := ⟨_, rfl⟩
  have e2 : (g : Int) + 26 = (h : Int) := by omega
  have hwh : IntKind.u8.wrap (h : Int) = (h : Int) := by rw [IntKind.wrap_u8]; omega
  rw [hh, show 2 ^ 2 = K from hK]
  have HK := Lib.hid hK
  clear hK hh
  rotate_left
  rw [if_neg c1, if_neg c2, if_neg c3]
  have d1 : ¬ (n : Int) < 256 := by omega
  have d2 : ¬ (n : Int) < 65536 := by omega
  have d3 : ¬ (n : Int) < 4294967296 := by omega
  obtain ⟨K, hK⟩ : ∃ K : Nat, 8 = K := ⟨_, rfl⟩
  obtain ⟨h, hh⟩ : ∃ h : Nat, g + 24 + 3 = h := ⟨_, rfl⟩
  have e2 : (g : Int) + 27 = (h : Int) := by omega
  have hwh : IntKind.u8.wrap (h : Int) = (h : Int) := by rw [IntKind.wrap_u8]; omega
  rw [hh, show 2 ^ 3 = K from hK]
  have HK := Lib.hid hK
  clear hK hh
  rotate_left
  all_goals
   go_enter Tryz.func8, Tryz.ntmps8
   go_upto_region 14 with (fail)
   have hK8 : 1 ≤ K ∧ K ≤ 8 := by have := HK.out; omega
   have hb1 : Below z W (W.alloc (.cells #[.int .u8 (h : Int)] 5)) := HB.out.alloc (by rw [HZ.out]; exact Nat.le_refl _) _
   have hO1 : (W.alloc (.cells #[.int .u8 (h : Int)] 5)).ownsRow z 5 1 (.slice (some ⟨W.heap.size, 0, none⟩) 1 1) 1 (B8 [h]) := by
    refine ⟨rfl, .inr ⟨W.heap.size, 1, #[.int .u8 (h : Int)], rfl, by rw [HZ.out]; exact Nat.le_refl _, Arr.new W _ _, Nat.le_refl _, by unfold maxLen; omega, rfl, rfl⟩⟩
   have HB1 := Lib.hid hb1
   have HO1 : Hid (World.ownsRow (W.alloc (.cells #[.int .u8 (h : Int)] 5)) z 5 1 (.slice (some ⟨W.heap.size, 0, none⟩) 1 1) 1 (B8 (h :: (beV K n).take 0))) := hO1
   generalize (W.alloc (.cells #[.int .u8 (h : Int)] 5)) = W1 at *
   have hz1 := HB1.out.size
   obtain ⟨hK1, hK2⟩ := hK8
   clear hO1 hb1
   go_wp2_with (fail)
   go_loopw [7, 8] (fun bv iv wr => ∃ j e : Nat, j + e = K ∧ iv = .int .i64 ((e : Int) - 1) ∧ Hid (wr.ownsRow z 5 1 bv (j + 1) (B8 (h :: (beV K n).take j))) ∧ Hid (Below z W wr)) (fun _ iv _ => (intOf iv + 1).toNat)
   case atStart => exact ⟨0, K, Nat.zero_add _, by rw [← HK.out]; rfl, HO1, HB1⟩
   case round =>
    clear HO1 HB1
    obtain ⟨j, e, hje, rfl, hO, hB⟩ := hrel
    obtain ⟨Ao, co, hvs, _, _⟩ := own_some hO.out (by omega)
    subst hvs
    have hBz := Nat.le_trans (Nat.le_of_eq HZ.out.symm) hB.out.size
    rcases e with _ | e
    ·obtain rfl : j = K := by omega
     have hcv := run_str (P := Tryz.prog) wr 23 9 5 Tryz.underlying23 Tryz.underlying5 Tryz.underlying9 (some ⟨Ao, 0, none⟩) (j + 1) co (h :: beV j n) (by have h := own_rda hO.out; rw [List.take_of_length_le (by rw [len_beV]; exact Nat.le_refl _)] at h; exact h) (by simp [len_beV])
     go_wp2_with (fail)
     go_ret
     exact ⟨rfl, hB.out⟩
    ·have he : ((e + 1 : Nat) : Int) - 1 = (e : Int) := by omega
     obtain ⟨y, hy⟩ : ∃ y, n / 256 ^ e % 256 = y := ⟨_, rfl⟩
     have hby := byte_of hy
     have HY : Hid (B8 (h :: (beV K n).take (j + 1)) = B8 (h :: (beV K n).take j) ++ [.int .u8 (y : Int)]) := by show _ = _; rw [beV_take n K j e (by omega), hy, ← List.cons_append, B8_snoc]
     clear hy
     generalize ((e + 1 : Nat) : Int) - 1 = x at *
     subst he
     go_wp2_with (at_builtin; go_loud (refine wpList_ap1 rfl (.tmp 46) (.tmp 53) 23 rfl z 5 _ _ Tryz.underlying23 Tryz.info5 rfl _ (j + 1) (B8 (h :: (beV K n).take j)) rfl (hO.out.alloc _) ⟨wr.heap.size, 0, none⟩ _ (.int .u8 (y : Int)) rfl (cell_new _ _ _) rfl (by unfold maxLen; omega) (by omega) (by have := hB.out.size; simp; omega) ?_; intro v3 w3 hown3 hgr3))
     go_roundw
     case rel => exact ⟨j + 1, e, by omega, rfl, by show World.ownsRow _ _ _ _ _ _ _; rw [HY.out]; exact hown3, (hB.out.alloc (by omega) _).grown hgr3 (by simp; omega) (fun g e => (hO.out.lt g e).1)⟩
     case measure => simp [intOf]
end Go.Proofs.YtbhigefbihpnlaaGreatDoor
namespace Go.Proofs.YtbhigefbihpnlaaGreatDoor
open Go.RowKit
theorem nodesW_vis2 (m : Nat) (t : List Nat) : ∃ v s', visitN (nodesW m t) (entV (nodesW m t)) ((nodesW m t).length + 1) ((0 : Nat) : Int) ⟨List.replicate (nodesW m t).length (-1), 0, List.replicate (nodesW m t).length nd0⟩ = some (v, s') ∧ s'.out.length = 7 ∧ NL 65536 s'.out := by
 have h : (match visitN (nodesW m t) (entV (nodesW m t)) ((nodesW m t).length + 1) ((0 : Nat) : Int) ⟨List.replicate (nodesW m t).length (-1), 0, List.replicate (nodesW m t).length nd0⟩ with | none => false | some x => x.2.out.length == 7 && x.2.out.all fun nd => Nat.ble nd.keys.length 65536 && Nat.ble nd.items.length 65536) = true := by kernel_rfl
 split at h
 ·cases h
 ·next x hx =>
  simp only [Bool.and_eq_true, beq_iff_eq] at h
  refine ⟨x.1, x.2, hx, h.1, fun i hi => ?_⟩
  have h2 := List.all_eq_true.1 h.2 (ndAt x.2.out i) (by unfold ndAt; rw [List.getD_eq_getElem?_getD, List.getElem?_eq_getElem hi]; exact List.getElem_mem hi)
  simp only [Bool.and_eq_true] at h2
  exact ⟨Nat.le_of_ble_eq_true h2.1, Nat.le_of_ble_eq_true h2.2⟩
theorem csameW {m a b ca cb : Nat} {t : List Nat} (hm : m < 18446744073709551616) (hb : By t) (hl : t.length ≤ 1000) (w : World) (hw : LibE w) (hA : GRd w w.heap.size a 0 (nodesW m t)) (hB : GRd w w.heap.size b 0 (nodesW m t)) :
  Calls Tryz.prog 9 #[.agg #[.slice (some ⟨a, 0, none⟩) 7 ca, .int .i64 0], .agg #[.slice (some ⟨b, 0, none⟩) 7 cb, .int .i64 0]] w fun e w' => e = .returned (.bool true) ∧ Below w.heap.size w w' := by
 obtain ⟨v, s', hv, h7, hN⟩ := nodesW_vis2 m t
 exact csame_cb (ca := ca) (cb := cb) nodesW_norm (nodesW_ck hm hb hl) (nodesW_chk hm) hv h7 hN w hw hA hB
theorem wide_by {M n w : Nat} (hM : M ≤ 7) (hw : w < 4) : By (wideV M n w) := By.cons (by omega) (beV_by _ _)
theorem start_by {M n : Nat} (hM : M ≤ 7) : By (startV M n) := by
 unfold startV
 split
 ·exact By.cons (by omega) By.nil
 ·split
  ·exact wide_by hM (by omega)
  ·split
   ·exact wide_by hM (by omega)
   ·split
    ·exact wide_by hM (by omega)
    ·exact wide_by hM (by omega)
theorem wide_len {M n w : Nat} (hw : w < 4) : (wideV M n w).length ≤ 9 := by
 unfold wideV
 rw [List.length_cons, len_beV]
 rcases (show w = 0 ∨ w = 1 ∨ w = 2 ∨ w = 3 by omega) with rfl | rfl | rfl | rfl <;> decide
theorem start_len {M n : Nat} : (startV M n).length ≤ 9 := by
 unfold startV
 split
 ·exact Nat.le_of_ble_eq_true rfl
 ·split
  ·exact wide_len (by omega)
  ·split
   ·exact wide_len (by omega)
   ·split
    ·exact wide_len (by omega)
    ·exact wide_len (by omega)
theorem pieces_snoc (p : List Nat) : ∀ (ps : List (List Nat)) (k : Nat), piecesV k (ps ++ [p]) = piecesV k ps ++ (wideV 2 p.length ((k + ps.length) % 4) ++ p) := by
 intro ps
 induction ps with
 | nil => intro k; simp [piecesV]
 | cons q ps ih => intro k; simp [piecesV, ih, Nat.add_assoc, Nat.add_comm 1 ps.length]
theorem pieces_by : ∀ (ps : List (List Nat)) (k : Nat), (∀ p ∈ ps, By p) → By (piecesV k ps) := by
 intro ps
 induction ps with
 | nil => intro k _; exact By.nil
 | cons q ps ih => intro k h; exact ((wide_by (by decide) (Nat.mod_lt _ (by decide))).append (h q (by simp))).append (ih (k + 1) fun p hp => h p (by simp [hp]))
theorem pieces_len2 : ∀ (ps : List (List Nat)) (k : Nat), (∀ p ∈ ps, p.length ≤ 30) → (piecesV k ps).length ≤ 39 * ps.length := by
 intro ps
 induction ps with
 | nil => intro k _; exact Nat.le_refl _
 | cons q ps ih =>
  intro k h
  have h1 := ih (k + 1) fun p hp => h p (by simp [hp])
  have h2 := h q (by simp)
  have h3 := wide_len (M := 2) (n := q.length) (w := k % 4) (Nat.mod_lt _ (by decide))
  simp [piecesV]
  omega
theorem flat_by : ∀ (ps : List (List Nat)), (∀ p ∈ ps, By p) → By ps.flatten := fun ps h c hc => by
 obtain ⟨p, hp, hcp⟩ := List.mem_flatten.1 hc
 exact h p hp c hcp
theorem flat_len : ∀ (ps : List (List Nat)), (∀ p ∈ ps, p.length ≤ 30) → ps.flatten.length ≤ 30 * ps.length := by
 intro ps
 induction ps with
 | nil => intro _; exact Nat.le_refl _
 | cons q ps ih =>
  intro h
  have h1 := ih fun p hp => h p (by simp [hp])
  have h2 := h q (by simp)
  simp only [List.flatten_cons, List.length_append, List.length_cons]
  omega
theorem aV_len {m : Nat} {t : List Nat} (hl : t.length ≤ 150) : (aV m t).length ≤ 65536 := by
 have h1 := start_len (M := 4) (n := 4)
 have h2 := start_len (M := 0) (n := m)
 have h3 := start_len (M := 1) (n := m)
 have h4 := start_len (M := 2) (n := t.length)
 have h5 := start_len (M := 5) (n := 1)
 unfold aV
 simp only [List.length_append, List.length_cons, List.length_nil]
 omega
theorem bV_len {m k : Nat} {ps : List (List Nat)} (hk : k < 4) (hp : ∀ p ∈ ps, p.length ≤ 30) (hl : ps.length ≤ 5) : (bV m ps k).length ≤ 65536 := by
 have h1 := wide_len (M := 0) (n := m) hk
 have h2 := wide_len (M := 1) (n := m) hk
 have h3 := pieces_len2 ps 0 hp
 unfold bV
 simp only [List.length_append, List.length_cons, List.length_nil]
 omega
theorem cV_len {m k : Nat} {t : List Nat} (hk : k < 4) (hl : t.length ≤ 150) : (cV m t k).length ≤ 65536 := by
 have h1 := wide_len (M := 4) (n := 4) hk
 have h2 := wide_len (M := 0) (n := m) hk
 have h3 := wide_len (M := 1) (n := m) hk
 have h4 := wide_len (M := 2) (n := t.length) (w := max k 1) (by omega)
 have h5 := wide_len (M := 5) (n := 1) hk
 unfold cV
 simp only [List.length_append, List.length_cons, List.length_nil]
 omega
theorem aV_by {m : Nat} {t : List Nat} (ht : By t) : By (aV m t) :=
 (start_by (by decide)).append ((start_by (by decide)).append ((start_by (by decide)).append ((start_by (by decide)).append (ht.append ((start_by (by decide)).append ((start_by (by decide)).append (By.cons (by decide) By.nil)))))))
theorem bV_by {m k : Nat} {ps : List (List Nat)} (hk : k < 4) (hp : ∀ p ∈ ps, By p) : By (bV m ps k) :=
 (By.cons (by decide) By.nil).append ((wide_by (by decide) hk).append ((wide_by (by decide) hk).append ((By.cons (by decide) By.nil).append ((pieces_by ps 0 hp).append ((By.cons (by decide) By.nil).append ((By.cons (by decide) By.nil).append ((wide_by (by decide) hk).append ((By.cons (by decide) By.nil).append ((By.cons (by decide) By.nil).append (By.cons (by decide) By.nil))))))))))
theorem cV_by {m k : Nat} {t : List Nat} (hk : k < 4) (ht : By t) : By (cV m t k) :=
 (wide_by (by decide) hk).append ((wide_by (by decide) hk).append ((wide_by (by decide) hk).append ((wide_by (by decide) (by omega)).append (ht.append ((wide_by (by decide) hk).append ((wide_by (by decide) hk).append (By.cons (by decide) By.nil)))))))
theorem parse_a {m : Nat} {t : List Nat} (hm : m < 18446744073709551616) (ht : By t) (hl : t.length ≤ 150) (W : World) (hW : LibF W) : Calls Tryz.prog 5 #[.string (mks (aV m t))] W fun e w' => ∃ (gn cn : Nat) (As : Option Addr) (cs ls : Nat), e = .returned (.tuple #[.agg #[.int .i64 6, .string (mks (aV m t)), .slice (some ⟨gn, 0, none⟩) 7 cn, .int .i64 0, .slice As ls cs, .slice none 0 0], .int .i64 0, .int .i64 0]) ∧ Below W.heap.size W w' ∧ W.heap.size ≤ gn ∧ GRd w' w'.heap.size gn 0 (nodesW m t) := by
 obtain ⟨S, hS⟩ := a_doc (t := t) hm (by omega)
 exact (cparse_ok2 (aV_by ht) (aV_len hl) hS (nodesW_ck hm ht (by omega)) (by rw [nodesW_chk hm]; decide) W hW).mono fun e w' ⟨gn, cn, As, cs, he, hb, hg, hr⟩ => ⟨gn, cn, As, cs, _, he, hb, hg, hr⟩
theorem parse_b {m k : Nat} {ps : List (List Nat)} (hm : m < 18446744073709551616) (hmk : m < 256 ^ 2 ^ k) (hk : k < 4) (hp : ∀ p ∈ ps, By p) (h30 : ∀ p ∈ ps, p.length ≤ 30) (hl : ps.length ≤ 5) (W : World) (hW : LibF W) : Calls Tryz.prog 5 #[.string (mks (bV m ps k))] W fun e w' => ∃ (gn cn : Nat) (As : Option Addr) (cs ls : Nat), e = .returned (.tuple #[.agg #[.int .i64 6, .string (mks (bV m ps k)), .slice (some ⟨gn, 0, none⟩) 7 cn, .int .i64 0, .slice As ls cs, .slice none 0 0], .int .i64 0, .int .i64 0]) ∧ Below W.heap.size W w' ∧ W.heap.size ≤ gn ∧ GRd w' w'.heap.size gn 0 (nodesW m ps.flatten) := by
 obtain ⟨S, hS⟩ := b_doc (ps := ps) hk hmk (fun p hp => Nat.lt_of_le_of_lt (h30 p hp) (by decide))
 exact (cparse_ok2 (bV_by hk hp) (bV_len hk h30 hl) hS (nodesW_ck hm (flat_by ps hp) (by have := flat_len ps h30; omega)) (by rw [nodesW_chk hm]; decide) W hW).mono fun e w' ⟨gn, cn, As, cs, he, hb, hg, hr⟩ => ⟨gn, cn, As, cs, _, he, hb, hg, hr⟩
theorem parse_c {m k : Nat} {t : List Nat} (hm : m < 18446744073709551616) (hmk : m < 256 ^ 2 ^ k) (hk : k < 4) (ht : By t) (hl : t.length ≤ 150) (W : World) (hW : LibF W) : Calls Tryz.prog 5 #[.string (mks (cV m t k))] W fun e w' => ∃ (gn cn : Nat) (As : Option Addr) (cs ls : Nat), e = .returned (.tuple #[.agg #[.int .i64 6, .string (mks (cV m t k)), .slice (some ⟨gn, 0, none⟩) 7 cn, .int .i64 0, .slice As ls cs, .slice none 0 0], .int .i64 0, .int .i64 0]) ∧ Below W.heap.size W w' ∧ W.heap.size ≤ gn ∧ GRd w' w'.heap.size gn 0 (nodesW m t) := by
 obtain ⟨S, hS⟩ := c_doc (t := t) hk hmk (by omega)
 exact (cparse_ok2 (cV_by hk ht) (cV_len hk hl) hS (nodesW_ck hm ht (by omega)) (by rw [nodesW_chk hm]; decide) W hW).mono fun e w' ⟨gn, cn, As, cs, he, hb, hg, hr⟩ => ⟨gn, cn, As, cs, _, he, hb, hg, hr⟩
end Go.Proofs.YtbhigefbihpnlaaGreatDoor
