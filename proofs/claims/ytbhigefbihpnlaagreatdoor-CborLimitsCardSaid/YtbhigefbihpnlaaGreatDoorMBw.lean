/- The law on limits. -/
import Derived.Test.YtbhigefbihpnlaaGreatDoorMBv
set_option linter.unusedVariables false
set_option linter.unusedSimpArgs false
set_option linter.defProp false
set_option linter.constructorNameAsVariable false
namespace Go.Proofs.YtbhigefbihpnlaaGreatDoor
open Go.RowKit
theorem B8_rep (N : Nat) : B8 (List.replicate N 0) = List.replicate N (.int .u8 0) := by unfold B8; rw [List.map_replicate]; rfl
theorem B8_four (l : List Nat) (a b c d : Nat) : B8 (l ++ [a, b, c, d]) = B8 l ++ [.int .u8 (a : Int), .int .u8 (b : Int), .int .u8 (c : Int), .int .u8 (d : Int)] := by rw [B8_append]; rfl
theorem own_rda {w : World} {b g c n : Nat} {e : TypeId} {xs : List Value} (h : w.ownsRow b e 1 (.slice (some ⟨g, 0, none⟩) n c) n xs) : Rd w (some ⟨g, 0, none⟩) xs := fun j u hj => ⟨_, rfl, h.cells rfl j u hj⟩
theorem one4 (a b c d : Int) : ∀ u ∈ [Value.int .u8 a, .int .u8 b, .int .u8 c, .int .u8 d], u.oneCell' = true := by intro u hu; simp at hu; rcases hu with rfl | rfl | rfl | rfl <;> rfl
theorem B8_snoc (l : List Nat) (x : Nat) : B8 (l ++ [x]) = B8 l ++ [.int .u8 (x : Int)] := by rw [B8_append]; rfl
theorem lim_a {k : Nat} (hk : k < 10) (W : World) (hW : LibF W) : Calls Tryz.prog 5 #[.string (mks (srcA (28 + k)))] W fun e w' =>
  ((33 < 28 + k ∧ e = .returned (.tuple #[.agg zDocB.toArray, .int .i64 33, .int .i64 5])) ∨ (¬ 33 < 28 + k ∧ ∃ (gn cn : Nat) (As : Option Addr) (cs ls : Nat), e = .returned (.tuple #[.agg #[.int .i64 6, .string (mks (srcA (28 + k))), .slice (some ⟨gn, 0, none⟩) (nestA (28 + k)).length cn, .int .i64 0, .slice As ls cs, .slice none 0 0], .int .i64 0, .int .i64 0]))) ∧ Below W.heap.size W w' := by
 have hl : (srcA (28 + k)).length ≤ 65536 := by unfold srcA; simp; omega
 by_cases h : 33 < 28 + k
 ·exact (cparse_err (srcA_by _) hl (a_src_err hk h) W hW).mono fun e w' ⟨he, hb⟩ => ⟨.inl ⟨h, he⟩, hb⟩
 ·obtain ⟨S, hS⟩ := a_src_ok hk h
  exact (cparse_ok2 (srcA_by _) hl hS (a_ckok hk) (a_chk0 hk h) W hW).mono fun e w' ⟨gn, cn, As, cs, he, hb, _⟩ => ⟨.inr ⟨h, gn, cn, As, cs, _, he⟩, hb⟩
theorem lim_b {m : Nat} (hm : m ≤ 4200) (W : World) (hW : LibF W) : Calls Tryz.prog 5 #[.string (mks (srcB m))] W fun e w' =>
  ((4095 < m ∧ e = .returned (.tuple #[.agg zDocB.toArray, .int .i64 4096, .int .i64 7])) ∨ (¬ 4095 < m ∧ ∃ D, e = .returned (.tuple #[D, .int .i64 0, .int .i64 0]))) ∧ Below W.heap.size W w' := by
 have hl : (srcB m).length ≤ 65536 := by rw [len_srcB]; omega
 by_cases h : 4095 < m
 ·exact (cparse_err (srcB_by _) hl (b_src_many h) W hW).mono fun e w' ⟨he, hb⟩ => ⟨.inl ⟨h, he⟩, hb⟩
 ·obtain ⟨S, hS⟩ := b_src_ok (by omega : m ≤ 4095)
  exact (cparse_ok2 (srcB_by _) hl hS (nodesB_ck (by omega)) (nodesB_deep (by omega)) W hW).mono fun e w' ⟨gn, cn, As, cs, he, hb, _⟩ => ⟨.inr ⟨h, _, he⟩, hb⟩
theorem lim_l {k : Nat} (hk : k < 10) (W : World) (hW : LibF W) : Calls Tryz.prog 5 #[.string (mks (srcLj (28 + k) (28 + k)))] W fun e w' =>
  ((32 < 28 + k ∧ e = .returned (.tuple #[.agg zDocB.toArray, .int .i64 0, .int .i64 5])) ∨ (¬ 32 < 28 + k ∧ ∃ D, e = .returned (.tuple #[D, .int .i64 0, .int .i64 0]))) ∧ Below W.heap.size W w' := by
 have hl : (srcL (28 + k)).length ≤ 65536 := by rw [← srcLj_all, srcLj_len]; omega
 have hb : By (srcL (28 + k)) := by rw [← srcLj_all]; exact srcLj_by (by omega) _
 obtain ⟨S, hS⟩ := l_src hk
 rw [srcLj_all]
 by_cases h : 32 < 28 + k
 ·exact (cparse_deep hb hl hS (l_ckok hk) (by rw [l_chk5 hk, if_pos h]) W hW).mono fun e w' ⟨he, hb⟩ => ⟨.inl ⟨h, he⟩, hb⟩
 ·exact (cparse_ok2 hb hl hS (l_ckok hk) (by rw [l_chk5 hk, if_neg h]; decide) W hW).mono fun e w' ⟨gn, cn, As, cs, he, hb, _⟩ => ⟨.inr ⟨h, _, he⟩, hb⟩
def zeroS (N : Nat) : ByteArray := mks (List.replicate N 0)
theorem run_zero (ob : Nat) (w : World) (h : Arr w ob 5 (List.replicate 65537 (.int .u8 0))) : (convert 23 9 (.slice (some ⟨ob, 0, none⟩) 65537 65537)).run Tryz.prog w = .ok (.string (zeroS 65537)) w :=
 run_str (P := Tryz.prog) w 23 9 5 Tryz.underlying23 Tryz.underlying5 Tryz.underlying9 (some ⟨ob, 0, none⟩) 65537 65537 (List.replicate 65537 0) (by rw [B8_rep]; exact h.rd) (by rw [List.length_replicate])
theorem lim_z (w : World) (_ : LibF w) : Calls Tryz.prog 5 #[.string (zeroS 65537)] w fun e w' => e = .returned (.tuple #[.agg zDocB.toArray, .int .i64 0, .int .i64 6]) ∧ Below w.heap.size w w' :=
 cparse_long (List.replicate 65537 0) (by rw [List.length_replicate]; decide) w
set_option maxRecDepth 20000 in
set_option maxHeartbeats 16000000 in
theorem limits_law (d q : Nat) (w : World) (hw : LibF w) : Calls Tryz.prog 3 #[.int .u8 (d : Int), .int .u16 (q : Int)] w fun e w' => e = .returned (.bool true) ∧ Below w.heap.size w w' := by
 have HW := Lib.hid hw
 obtain ⟨k, hk⟩ : ∃ k, d % 10 = k := ⟨_, rfl⟩
 obtain ⟨m, hm⟩ : ∃ m, 4090 + q % 12 = m := ⟨_, rfl⟩
 obtain ⟨n, hn⟩ : ∃ n, 28 + k = n := ⟨_, rfl⟩
 have hk10 : k < 10 := by omega
 have hm42 : m ≤ 4200 := by omega
 have e1 : (28 : Int) + (d : Int) % 10 = (n : Int) := by omega
 have e2 : (4090 : Int) + (q : Int) % 12 = (m : Int) := by omega
 have DA := Lib.hid (fun W hW => lim_a hk10 W hW)
 have DB := Lib.hid (fun W hW => lim_b hm42 W hW)
 have DL := Lib.hid (fun W hW => lim_l hk10 W hW)
 rw [hn] at DA DL
 have hn37 : n ≤ 37 := by omega
 have hn28 : 28 ≤ n := by omega
 have hwn : IntKind.u8.wrap (n : Int) = (n : Int) := by rw [IntKind.wrap_u8]; omega
 have HLA := Lib.hid (show srcA n = List.replicate (n - 1) 129 ++ [128] from rfl)
 clear hw hk hm hn hk10
 go_enter Tryz.func3, Tryz.ntmps3
 go_upto_region 2 with (fail)
 clear e1 e2
 obtain ⟨z, hz⟩ : ∃ x, w.heap.size = x := ⟨_, rfl⟩
 have HZ := Lib.hid hz
 have hzw : z ≤ w.heap.size := by omega
 have HB0 : Hid (Below z w w) := Below.refl _ _
 have HO0 : Hid (w.ownsRow z 5 1 (.slice none 0 0) 0 (B8 (List.replicate 0 129))) := World.ownsRow_nil _ _ _ _
 clear hz
 go_upto_region 3 with (fail)
 go_wp2_with (fail)
 go_loopw [7, 21] (fun bv iv wr => ∃ j : Nat, j ≤ n - 1 ∧ iv = .int .i64 (j : Int) ∧ Hid (wr.ownsRow z 5 1 bv j (B8 (List.replicate j 129))) ∧ Hid (Below z w wr)) (fun _ iv _ => n - (intOf iv).toNat)
 case atStart => exact ⟨0, Nat.zero_le _, rfl, HO0, HB0⟩
 case round =>
  clear HO0 HB0
  obtain ⟨j, hj, rfl, hO, hB⟩ := hrel
  obtain ⟨Ao, co, hvs, _, _⟩ := own_slice hO.out
  subst hvs
  have hBz := hB.out.size
  by_cases hlt : j < n - 1
  ·have hlt' : (j : Int) < (n : Int) - 1 := by omega
   go_wp2_with (at_builtin; go_loud (refine wpList_ap1 rfl (.tmp 23) (.tmp 24) 23 rfl z 5 _ _ Tryz.underlying23 Tryz.info5 rfl _ (j) (B8 (List.replicate j 129)) rfl (hO.out.alloc _) ⟨wr.heap.size, 0, none⟩ _ (.int .u8 129) rfl (cell_new _ _ _) rfl (by unfold maxLen; omega) (by omega) (by have := hB.out.size; simp; omega) ?_; intro v3 w3 hown3 hgr3))
   go_roundw
   case rel => exact ⟨j + 1, by omega, i64e (by omega), by show World.ownsRow _ _ _ _ _ _ (B8 (List.replicate (j + 1) 129)); rw [List.replicate_succ', B8_snoc]; exact hown3, (hB.out.alloc (by omega) _).grown hgr3 (by simp; omega) (fun g e => (hO.out.lt g e).1)⟩
   case measure => simp [intOf]; omega
  ·have hlt' : ¬ (j : Int) < (n : Int) - 1 := by omega
   have hjn : j = n - 1 := by omega
   subst hjn
   have hrA : Hid (B8 (srcA n) = B8 (List.replicate (n - 1) 129) ++ [.int .u8 128]) := by show _ = _; rw [HLA.out, B8_append]; rfl
   clear hlt hj
   go_upto_region 8 with (at_builtin; go_loud (refine wpList_ap1 rfl (.tmp 27) (.tmp 28) 23 rfl z 5 _ _ Tryz.underlying23 Tryz.info5 rfl _ (n - 1) (B8 (List.replicate (n - 1) 129)) rfl (hO.out.alloc _) ⟨wr.heap.size, 0, none⟩ _ (.int .u8 128) rfl (cell_new _ _ _) rfl (by unfold maxLen; omega) (by omega) (by have := hB.out.size; simp; omega) ?_; intro v7 w7 hown7 hgr7))
   have HB7 := Lib.hid ((hB.out.alloc (by omega) (.cells #[.int .u8 128] 5)).grown hgr7 (by simp; omega) (fun g e => (hO.out.lt g e).1))
   have hO7 : w7.ownsRow z 5 1 v7 n (B8 (srcA n)) := by rw [hrA.out]; have := hown7; rw [show n - 1 + 1 = n by omega] at this; exact this
   obtain ⟨g7, c7, hv7, _, _⟩ := own_some hO7 (by omega)
   subst hv7
   have hrd7 := own_rda hO7
   have hcv := run_str (P := Tryz.prog) w7 23 9 5 Tryz.underlying23 Tryz.underlying5 Tryz.underlying9 (some ⟨g7, 0, none⟩) n c7 (srcA n) hrd7 (by rw [HLA.out]; simp; omega)
   have HO7 := Lib.hid hO7
   have L7 := Lib.hid (HW.out.keep (by rw [HZ.out]; exact HB7.out))
   have hz7 : z ≤ w7.heap.size := by have := HB7.out.size; omega
   clear hO7 hrd7 hown7 hgr7 hO hB hlt' hBz hrA HLA
   go_upto_region 9 with (go_at_call 5; ((with_reducible refine (DA.out _ L7.out).mono ?_)); rintro e w8 ⟨(⟨h33, rfl⟩ | ⟨h33, gn, cn, As, cs, ls, rfl⟩), hb8⟩)
   have hb9 := hb8.trans (((Below.refl w8.heap.size w8).alloc (Nat.le_refl _) (.cells zDocB.toArray 30)).mono hb8.size)
   have h33a : (n : Int) > 33 := by omega
   have h33b : ¬ (n : Int) ≤ 33 := by omega
   generalize (w8.alloc (.cells zDocB.toArray 30)) = w9 at *
   rotate_left
   have hb9 := hb8.trans (((Below.refl w8.heap.size w8).alloc (Nat.le_refl _) (.cells #[.int .i64 6, .string (mks (srcA n)), .slice (some ⟨gn, 0, none⟩) (nestA n).length cn, .int .i64 0, .slice As ls cs, .slice none 0 0] 30)).mono hb8.size)
   have h33a : ¬ (n : Int) > 33 := by omega
   have h33b : (n : Int) ≤ 33 := by omega
   generalize (w8.alloc (.cells #[.int .i64 6, .string (mks (srcA n)), .slice (some ⟨gn, 0, none⟩) (nestA n).length cn, .int .i64 0, .slice As ls cs, .slice none 0 0] 30)) = w9 at *
   rotate_left
   all_goals
    have HB9 := Lib.hid (HB7.out.trans (hb9.mono hz7))
    have HO9 := Lib.hid (own_zero (own_below HO7.out hb9))
    have hz9 : z ≤ w9.heap.size := Nat.le_trans hz7 hb9.size
    clear hb8 hb9 HB7 HO7 L7 hcv
    go_upto_region 11 with (fail)
    clear h33a h33b h33
    have hrB : Hid (∀ j, B8 (159 :: List.replicate j 246) ++ [.int .u8 246] = B8 (159 :: List.replicate (j + 1) 246)) := fun j => by rw [List.replicate_succ', ← List.cons_append, B8_append]; rfl
    go_upto_region 12 with (at_builtin; go_loud (refine wpList_ap1 rfl (.tmp 56) (.tmp 57) 23 rfl z 5 _ _ Tryz.underlying23 Tryz.info5 rfl _ (0) (B8 []) rfl (HO9.out.alloc _) ⟨w9.heap.size, 0, none⟩ _ (.int .u8 159) rfl (cell_new _ _ _) rfl (by unfold maxLen; omega) (by omega) (by have := HB9.out.size; simp; omega) ?_; intro v10 w10 hown10 hgr10))
    have HB10 := Lib.hid ((HB9.out.alloc hz9 (.cells #[.int .u8 159] 5)).grown hgr10 (by simp; omega) (fun g e => (HO9.out.lt g e).1))
    have HO10 : Hid (w10.ownsRow z 5 1 v10 1 (B8 (159 :: List.replicate 0 246))) := hown10
    clear hown10 hgr10 HO9 HB9
    go_upto_region 13 with (fail)
    go_wp2_with (fail)
    go_loopw [7, 60] (fun bv iv wr => ∃ j : Nat, j ≤ m ∧ iv = .int .i64 (j : Int) ∧ Hid (wr.ownsRow z 5 1 bv (j + 1) (B8 (159 :: List.replicate j 246))) ∧ Hid (Below z w wr)) (fun _ iv _ => m - (intOf iv).toNat)
    case atStart => exact ⟨0, Nat.zero_le _, rfl, HO10, HB10⟩
    case round =>
     clear HO10 HB10
     obtain ⟨j, hj, rfl, hO, hB⟩ := hrel
     obtain ⟨Ao, co, hvs, _, _⟩ := own_slice hO.out
     subst hvs
     have hBz := hB.out.size
     by_cases hlt : j < m
     ·have hlt' : (j : Int) < m := by omega
      go_wp2_with (at_builtin; go_loud (refine wpList_ap1 rfl (.tmp 62) (.tmp 63) 23 rfl z 5 _ _ Tryz.underlying23 Tryz.info5 rfl _ (j + 1) (B8 (159 :: List.replicate j 246)) rfl (hO.out.alloc _) ⟨wr.heap.size, 0, none⟩ _ (.int .u8 246) rfl (cell_new _ _ _) rfl (by unfold maxLen; omega) (by omega) (by have := hB.out.size; simp; omega) ?_; intro v3 w3 hown3 hgr3))
      go_roundw
      case rel => exact ⟨j + 1, by omega, i64e (by omega), by show World.ownsRow _ _ _ _ _ _ _; rw [← hrB.out j]; exact hown3, (hB.out.alloc (by omega) _).grown hgr3 (by simp; omega) (fun g e => (hO.out.lt g e).1)⟩
      case measure => simp [intOf]; omega
     ·have hlt' : ¬ (j : Int) < m := by omega
      obtain rfl : j = m := by omega
      have hrC : Hid (B8 (srcB j) = B8 (159 :: List.replicate j 246) ++ [.int .u8 255]) := by show _ = _; unfold srcB; rw [← List.cons_append, B8_append]; rfl
      clear hlt hj
      go_upto_region 17 with (at_builtin; go_loud (refine wpList_ap1 rfl (.tmp 66) (.tmp 67) 23 rfl z 5 _ _ Tryz.underlying23 Tryz.info5 rfl _ (j + 1) (B8 (159 :: List.replicate j 246)) rfl (hO.out.alloc _) ⟨wr.heap.size, 0, none⟩ _ (.int .u8 255) rfl (cell_new _ _ _) rfl (by unfold maxLen; omega) (by omega) (by have := hB.out.size; simp; omega) ?_; intro v11 w11 hown11 hgr11))
      have HB11 := Lib.hid ((hB.out.alloc (by omega) (.cells #[.int .u8 255] 5)).grown hgr11 (by simp; omega) (fun g e => (hO.out.lt g e).1))
      have hO11 : w11.ownsRow z 5 1 v11 (j + 2) (B8 (srcB j)) := by rw [hrC.out]; exact hown11
      obtain ⟨g11, c11, hv11, _, _⟩ := own_some hO11 (by omega)
      subst hv11
      have hcv := run_str (P := Tryz.prog) w11 23 9 5 Tryz.underlying23 Tryz.underlying5 Tryz.underlying9 (some ⟨g11, 0, none⟩) (j + 2) c11 (srcB j) (own_rda hO11) (len_srcB j).symm
      have HO11 := Lib.hid hO11
      have L11 := Lib.hid (HW.out.keep (by rw [HZ.out]; exact HB11.out))
      have hz11 : z ≤ w11.heap.size := by have := HB11.out.size; omega
      clear hO11 hown11 hgr11 hO hB hlt' hBz hrC hrB
      go_upto_region 18 with (go_at_call 5; ((with_reducible refine (DB.out _ L11.out).mono ?_)); rintro e w12 ⟨(⟨h95, rfl⟩ | ⟨h95, D12, rfl⟩), hb12⟩)
      have h95a : (j : Int) + 1 > 4096 := by omega
      have h95b : ¬ (j : Int) + 1 ≤ 4096 := by omega
      rotate_left
      have h95a : ¬ (j : Int) + 1 > 4096 := by omega
      have h95b : (j : Int) + 1 ≤ 4096 := by omega
      rotate_left
      all_goals
       have HB12 := Lib.hid (HB11.out.trans (hb12.mono hz11))
       have HO12 := Lib.hid (own_zero (own_below HO11.out hb12))
       have hz12 : z ≤ w12.heap.size := Nat.le_trans hz11 hb12.size
       clear hb12 HB11 HO11 L11 hcv
       go_upto_region 20 with (fail)
       clear h95a h95b h95
       have hba : Below w12.heap.size w12 (w12.alloc (.cells #[.int .u8 216, .int .u8 28, .int .u8 152, .int .u8 (n : Int)] 5)) := (Below.refl _ _).alloc (Nat.le_refl _) _
       have hN4 := (Arr.new w12 5 [.int .u8 216, .int .u8 28, .int .u8 152, .int .u8 (n : Int)]).rd
       have hOa := own_below HO12.out hba
       have hone := one4 216 28 152 (n : Int)
       have hsa := hba.size
       go_upto_region 21 with (at_builtin; go_loud (refine wpList_apl rfl (.tmp 97) (.tmp 100) 23 rfl z 5 _ 1 Tryz.underlying23 info8 rfl _ 0 (B8 []) rfl hOa (some ⟨w12.heap.size, 0, none⟩) 4 4 _ rfl hN4 rfl (fun e => nomatch e) hone (by unfold maxLen; omega) (by omega) (by omega) ?_; intro v13 w13 hown13 hgr13))
       have HB13 := Lib.hid ((HB12.out.trans (hba.mono hz12)).grown hgr13 (by omega) (fun g e => (hOa.lt g e).1))
       have HO13 : Hid (w13.ownsRow z 5 1 v13 (4 + 4 * 0) (B8 (srcLj n 0))) := hown13
       clear hba hN4 hOa hone hsa hown13 hgr13 HO12 HB12
       go_upto_region 22 with (fail)
       go_wp2_with (fail)
       go_loopw [7, 103] (fun bv iv wr => ∃ i : Nat, i ≤ n ∧ iv = .int .i64 (i : Int) ∧ Hid (wr.ownsRow z 5 1 bv (4 + 4 * i) (B8 (srcLj n i))) ∧ Hid (Below z w wr)) (fun _ iv _ => n - (intOf iv).toNat)
       case atStart => exact ⟨0, Nat.zero_le _, rfl, HO13, HB13⟩
       case round =>
        clear HO13 HB13
        obtain ⟨i, hi, rfl, hO, hB⟩ := hrel
        obtain ⟨Ao, co, hvs, _, _⟩ := own_slice hO.out
        subst hvs
        have hBz := hB.out.size
        by_cases hlt : i < n
        ·have hlt' : (i : Int) < n := by omega
         have hba : Below wr.heap.size wr (wr.alloc (.cells #[.int .u8 129, .int .u8 216, .int .u8 29, .int .u8 0] 5)) := (Below.refl _ _).alloc (Nat.le_refl _) _
         have hN4 := (Arr.new wr 5 [.int .u8 129, .int .u8 216, .int .u8 29, .int .u8 0]).rd
         have hOa := own_below hO.out hba
         have hone := one4 129 216 29 0
         have hsa := hba.size
         have hLs : Hid (B8 (srcLj n (i + 1)) = B8 (srcLj n i) ++ [.int .u8 129, .int .u8 216, .int .u8 29, .int .u8 0]) := by show _ = _; rw [srcLj_succ, B8_four]; rfl
         go_wp2_with (at_builtin; go_loud (refine wpList_apl rfl (.tmp 105) (.tmp 106) 23 rfl z 5 _ 1 Tryz.underlying23 info8 rfl _ (4 + 4 * i) (B8 (srcLj n i)) rfl hOa (some ⟨wr.heap.size, 0, none⟩) 4 4 _ rfl hN4 rfl (fun e => nomatch e) hone (by unfold maxLen; omega) (by omega) (by omega) ?_; intro v14 w14 hown14 hgr14))
         go_roundw
         case rel => exact ⟨i + 1, by omega, i64e (by omega), by show World.ownsRow _ _ _ _ _ _ _; rw [hLs.out, show 4 + 4 * (i + 1) = 4 + 4 * i + 4 by omega]; exact hown14, (hB.out.trans (hba.mono (by omega))).grown hgr14 (by omega) (fun g e => (hOa.lt g e).1)⟩
         case measure => simp [intOf]; omega
        ·have hlt' : ¬ (i : Int) < n := by omega
         obtain rfl : i = n := by omega
         obtain ⟨g15, c15, hv15, _, _⟩ := own_some hO.out (by omega)
         injection hv15 with e1 _ e3
         subst e1 e3
         have hcv := run_str (P := Tryz.prog) wr 23 9 5 Tryz.underlying23 Tryz.underlying5 Tryz.underlying9 (some ⟨g15, 0, none⟩) (4 + 4 * i) co (srcLj i i) (own_rda hO.out) (srcLj_len i i).symm
         have L15 := Lib.hid (HW.out.keep (by rw [HZ.out]; exact hB.out))
         have hz15 : z ≤ wr.heap.size := by omega
         obtain ⟨w15, hw15⟩ : ∃ x : World, x = wr := ⟨_, rfl⟩
         subst hw15
         clear hlt hi hlt' hBz hO
         go_upto_region 26 with (go_at_call 5; ((with_reducible refine (DL.out _ L15.out).mono ?_)); rintro e w16 ⟨(⟨h32, rfl⟩ | ⟨h32, D16, rfl⟩), hb16⟩)
         have h32a : (i : Int) > 32 := by omega
         have h32b : ¬ (i : Int) ≤ 32 := by omega
         rotate_left
         have h32a : ¬ (i : Int) > 32 := by omega
         have h32b : (i : Int) ≤ 32 := by omega
         rotate_left
         all_goals
          have HB16 := Lib.hid (hB.out.trans (hb16.mono hz15))
          have hz16 : z ≤ w16.heap.size := Nat.le_trans hz15 hb16.size
          clear hb16 hB L15 hcv
          go_upto_region 28 with (fail)
          clear h32a h32b h32
          go_upto_region 28 with (fail)
          go_wp2_with (first | (at_make; go_loud (refine wpList_mk rfl _ _ 23 rfl 5 _ _ Tryz.underlying23 Tryz.info5 rfl _ _ _ _ rfl rfl (65537) (65537) (by omega) (by omega) (by omega) (by omega) (by unfold maxLen; omega) ?_; intro ob w17 hob hO17 hb17 hz17; have HB17 := Lib.hid (HB16.out.trans (hb17.mono hz16)); have L17 := Lib.hid (HW.out.keep (by rw [HZ.out]; exact HB17.out)); have hz17b := Nat.le_trans hz16 hb17.size; have hcz := run_zero ob w17 hO17.out; have D17 := Lib.hid (lim_z w17 L17.out); have A17 := Lib.hid (fun (W : World) (h : Below w17.heap.size w17 W) => bawake_true W (L17.out.keep h)))) | (go_at_call 5; ((with_reducible refine D17.out.mono ?_)); rintro e w18 ⟨rfl, hb18⟩) | (go_at_call 6; ((with_reducible refine (A17.out _ hb18).mono ?_)); rintro e w19 ⟨rfl, hb19⟩))
          go_ret
          exact ⟨rfl, by rw [HZ.out]; exact (HB17.out.trans (hb18.mono hz17b)).trans (hb19.mono (Nat.le_trans hz17b hb18.size))⟩
end Go.Proofs.YtbhigefbihpnlaaGreatDoor
