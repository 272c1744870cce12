/- The walk of scalar of the reference's parser. -/
import Derived.Test.YtbdnamcjhndpjaaGreatDoorMSa
import Derived.Test.YtbdnamcjhndpjaaGreatDoorMQc
import Derived.Deep.DeepCutAuto
set_option linter.unusedVariables false
set_option linter.unusedSimpArgs false
set_option linter.defProp false
set_option linter.constructorNameAsVariable false
namespace Go.Proofs.YtbdnamcjhndpjaaGreatDoor
open Go.RowKit
def RScalR (w : World) (o : Option GNode) (e : Ending) (w' : World) : Prop :=
 Below w.heap.size w w' ∧ match o with
 | some nd => e = .returned (.tuple #[.agg (leafC nd).toArray, .int .i64 0])
 | none => e = .returned (.tuple #[.agg zNode.toArray, .int .i64 12])
theorem scal_head (kd fr to_ : Nat) (tx : List Nat) (w : World) : ∃ W, W = ((w.alloc (.cells #[.int .i64 (kd : Int), .int .i64 (fr : Int), .int .i64 (to_ : Int), .string (mks tx)] 62)).alloc (.cells #[.int .i64 0, .string ⟨#[]⟩, .bool false, .slice none 0 0, .slice none 0 0] 41)) ∧ Hid (Arr W w.heap.size 62 [.int .i64 (kd : Int), .int .i64 (fr : Int), .int .i64 (to_ : Int), .string (mks tx)]) ∧ Hid (Arr W (w.heap.size + 1) 41 zNode) ∧ Below w.heap.size w W := by
 have HT := Lib.hid ((Arr.new w 62 [.int .i64 (kd : Int), .int .i64 (fr : Int), .int .i64 (to_ : Int), .string (mks tx)]).alloc (.cells #[.int .i64 0, .string ⟨#[]⟩, .bool false, .slice none 0 0, .slice none 0 0] 41))
 have hs1 : (w.alloc (.cells #[.int .i64 (kd : Int), .int .i64 (fr : Int), .int .i64 (to_ : Int), .string (mks tx)] 62)).heap.size = w.heap.size + 1 := by simp
 have HN0 := Arr.new (w.alloc (.cells #[.int .i64 (kd : Int), .int .i64 (fr : Int), .int .i64 (to_ : Int), .string (mks tx)] 62)) 41 zNode
 rw [hs1] at HN0
 have HN := Lib.hid HN0
 have HBd : Below w.heap.size w ((w.alloc (.cells #[.int .i64 (kd : Int), .int .i64 (fr : Int), .int .i64 (to_ : Int), .string (mks tx)] 62)).alloc (.cells #[.int .i64 0, .string ⟨#[]⟩, .bool false, .slice none 0 0, .slice none 0 0] 41)) := ((Below.refl _ _).alloc (Nat.le_refl _) _).alloc (by simp) _
 change Hid (Arr ((w.alloc (.cells #[.int .i64 (kd : Int), .int .i64 (fr : Int), .int .i64 (to_ : Int), .string (mks tx)] 62)).alloc (.cells #[.int .i64 0, .string ⟨#[]⟩, .bool false, .slice none 0 0, .slice none 0 0] 41)) (w.heap.size + 1) 41 zNode) at HN
 clear HN0 hs1
 change Hid (Arr ((w.alloc (.cells #[.int .i64 (kd : Int), .int .i64 (fr : Int), .int .i64 (to_ : Int), .string (mks tx)] 62)).alloc (.cells #[.int .i64 0, .string ⟨#[]⟩, .bool false, .slice none 0 0, .slice none 0 0] 41)) w.heap.size 62 [.int .i64 (kd : Int), .int .i64 (fr : Int), .int .i64 (to_ : Int), .string (mks tx)]) at HT
 exact ⟨_, rfl, HT, HN, HBd⟩
set_option maxRecDepth 8000 in
set_option maxHeartbeats 4000000 in
theorem rscal_s (kd fr to_ : Nat) (tx : List Nat) (w : World) (h2 : kd = 2) : Calls Tryz.prog 33 #[.agg #[.int .i64 (kd : Int), .int .i64 (fr : Int), .int .i64 (to_ : Int), .string (mks tx)]] w (RScalR w (some ⟨5, tx, false, [], []⟩)) := by
 obtain ⟨W, hWe, HT, HN, HBd⟩ := scal_head kd fr to_ tx w
 have HWE := Lib.hid hWe
 clear hWe
 have hk2 : ((kd : Int) == 2) = true := by simp; omega
 clear h2
 go_enter Tryz.func33, Tryz.ntmps33
 go_upto_region 1 with (fail)
 rw [← HWE.out]
 clear HWE
 have hlow : w.heap.size + 1 < W.heap.size := HN.out.lt
 have t0 := HT.out.cell' (i := 0) rfl
 have t3 := HT.out.cell' (i := 3) rfl
 go_wp2_with ((with_reducible show wpList _ _ _ (Oper.mk none (Op.store 41 (Operand.tmp 2) (Operand.tmp 16)) _ _ _ _ :: _) _ _); go_loud (refine wpList_sr rfl rfl 41 (.tmp 2) (.tmp 16) rfl (w.heap.size + 1) [.int .i64 5, .string (mks tx), .bool false, .slice none 0 0, .slice none 0 0] rfl rfl 41 _ HN.out _ Tryz.sz41 (by first | rfl | simp) (by first | rfl | simp) (by first | rfl | simp [Value.oneCell']) ?_; intro w9 hr9 hg9 hz9))
 have r0 := hr9.out.cell' (i := 0) rfl
 have r1 := hr9.out.cell' (i := 1) rfl
 have r2 := hr9.out.cell' (i := 2) rfl
 have r3 := hr9.out.cell' (i := 3) rfl
 have r4 := hr9.out.cell' (i := 4) rfl
 refine bodyPost_ret (v := .tuple #[.agg #[.int .i64 5, .string (mks tx), .bool false, .slice none 0 0, .slice none 0 0], .int .i64 0]) (by simp [results, Tryz.results33, go_sem, r0, r1, r2, r3, r4]) rfl ?_
 exact ⟨HBd.grown hg9 HBd.size (fun k e => by have := Option.some.inj e; omega), rfl⟩
set_option maxRecDepth 8000 in
set_option maxHeartbeats 4000000 in
theorem rscal_n (kd fr to_ : Nat) (tx : List Nat) (w : World) (h4 : kd = 4) (hby : By tx) (hnl : tx = litNull) : Calls Tryz.prog 33 #[.agg #[.int .i64 (kd : Int), .int .i64 (fr : Int), .int .i64 (to_ : Int), .string (mks tx)]] w (RScalR w (some ⟨0, [], false, [], []⟩)) := by
 obtain ⟨W, hWe, HT, HN, HBd⟩ := scal_head kd fr to_ tx w
 have HWE := Lib.hid hWe
 clear hWe
 have hk2 : ((kd : Int) == 2) = false := by simp; omega
 have hk4 : ((kd : Int) == 4) = true := by simp; omega
 have i1 := toL_iff hby [110, 117, 108, 108]
 have hq : ((mks tx).toList == [110, 117, 108, 108]) = true := beq_iff_eq.2 (i1.2 hnl)
 clear i1 hnl h4
 go_enter Tryz.func33, Tryz.ntmps33
 go_upto_region 1 with (fail)
 rw [← HWE.out]
 clear HWE
 have hlow : w.heap.size + 1 < W.heap.size := HN.out.lt
 have t0 := HT.out.cell' (i := 0) rfl
 have t3 := HT.out.cell' (i := 3) rfl
 go_wp2_with ((with_reducible show wpList _ _ _ (Oper.mk none (Op.store 41 (Operand.tmp 2) (Operand.tmp 26)) _ _ _ _ :: _) _ _); go_loud (refine wpList_sr rfl rfl 41 (.tmp 2) (.tmp 26) rfl (w.heap.size + 1) [.int .i64 0, .string ⟨#[]⟩, .bool false, .slice none 0 0, .slice none 0 0] rfl rfl 41 _ HN.out _ Tryz.sz41 (by first | rfl | simp) (by first | rfl | simp) (by first | rfl | simp [Value.oneCell']) ?_; intro w9 hr9 hg9 hz9))
 have r0 := hr9.out.cell' (i := 0) rfl
 have r1 := hr9.out.cell' (i := 1) rfl
 have r2 := hr9.out.cell' (i := 2) rfl
 have r3 := hr9.out.cell' (i := 3) rfl
 have r4 := hr9.out.cell' (i := 4) rfl
 refine bodyPost_ret (v := .tuple #[.agg #[.int .i64 0, .string ⟨#[]⟩, .bool false, .slice none 0 0, .slice none 0 0], .int .i64 0]) (by simp [results, Tryz.results33, go_sem, r0, r1, r2, r3, r4]) rfl ?_
 exact ⟨HBd.grown hg9 HBd.size (fun k e => by have := Option.some.inj e; omega), rfl⟩
set_option maxRecDepth 8000 in
set_option maxHeartbeats 4000000 in
theorem rscal_b (kd fr to_ : Nat) (tx : List Nat) (w : World) (h4 : kd = 4) (hby : By tx) (hnl : ¬ tx = litNull) : Calls Tryz.prog 33 #[.agg #[.int .i64 (kd : Int), .int .i64 (fr : Int), .int .i64 (to_ : Int), .string (mks tx)]] w (RScalR w (some ⟨1, tx, false, [], []⟩)) := by
 obtain ⟨W, hWe, HT, HN, HBd⟩ := scal_head kd fr to_ tx w
 have HWE := Lib.hid hWe
 clear hWe
 have hk2 : ((kd : Int) == 2) = false := by simp; omega
 have hk4 : ((kd : Int) == 4) = true := by simp; omega
 have i1 := toL_iff hby [110, 117, 108, 108]
 have hq : ((mks tx).toList == [110, 117, 108, 108]) = false := beq_eq_false_iff_ne.2 (fun e => hnl (i1.1 e))
 clear i1 hnl h4
 go_enter Tryz.func33, Tryz.ntmps33
 go_upto_region 1 with (fail)
 rw [← HWE.out]
 clear HWE
 have hlow : w.heap.size + 1 < W.heap.size := HN.out.lt
 have t0 := HT.out.cell' (i := 0) rfl
 have t3 := HT.out.cell' (i := 3) rfl
 go_wp2_with ((with_reducible show wpList _ _ _ (Oper.mk none (Op.store 41 (Operand.tmp 2) (Operand.tmp 33)) _ _ _ _ :: _) _ _); go_loud (refine wpList_sr rfl rfl 41 (.tmp 2) (.tmp 33) rfl (w.heap.size + 1) [.int .i64 1, .string (mks tx), .bool false, .slice none 0 0, .slice none 0 0] rfl rfl 41 _ HN.out _ Tryz.sz41 (by first | rfl | simp) (by first | rfl | simp) (by first | rfl | simp [Value.oneCell']) ?_; intro w9 hr9 hg9 hz9))
 have r0 := hr9.out.cell' (i := 0) rfl
 have r1 := hr9.out.cell' (i := 1) rfl
 have r2 := hr9.out.cell' (i := 2) rfl
 have r3 := hr9.out.cell' (i := 3) rfl
 have r4 := hr9.out.cell' (i := 4) rfl
 refine bodyPost_ret (v := .tuple #[.agg #[.int .i64 1, .string (mks tx), .bool false, .slice none 0 0, .slice none 0 0], .int .i64 0]) (by simp [results, Tryz.results33, go_sem, r0, r1, r2, r3, r4]) rfl ?_
 exact ⟨HBd.grown hg9 HBd.size (fun k e => by have := Option.some.inj e; omega), rfl⟩
set_option maxRecDepth 8000 in
set_option maxHeartbeats 4000000 in
theorem rscal_i (kd fr to_ : Nat) (tx : List Nat) (w : World) (h2 : kd ≠ 2) (h4 : kd ≠ 4) (hby : By tx) (htl : tx.length ≤ 65536) (hno : ∀ (j c : Nat), tx[j]? = some c → dotB c = false) (hp : (parR tx 10).2 = 0) : Calls Tryz.prog 33 #[.agg #[.int .i64 (kd : Int), .int .i64 (fr : Int), .int .i64 (to_ : Int), .string (mks tx)]] w (RScalR w (some ⟨2, (parR tx 10).1, false, [], []⟩)) := by
 obtain ⟨W, hWe, HT, HN, HBd⟩ := scal_head kd fr to_ tx w
 have HWE := Lib.hid hWe
 clear hWe
 have hk2 : ((kd : Int) == 2) = false := by simp; omega
 have hk4 : ((kd : Int) == 4) = false := by simp; omega
 clear h2 h4
 have DP : Hid (∀ w, Calls Tryz.prog 59 #[.string (mks tx), .int .i64 10] w (RP w tx 10)) := fun w => rparse_any tx 10 w hby (by omega)
 have HP := Lib.hid hp
 clear hp
 go_enter Tryz.func33, Tryz.ntmps33
 go_upto_region 1 with (fail)
 rw [← HWE.out]
 clear HWE
 have hlow : w.heap.size + 1 < W.heap.size := HN.out.lt
 have t0 := HT.out.cell' (i := 0) rfl
 have t3 := HT.out.cell' (i := 3) rfl
 go_wp2_with (fail)
 go_loopw [4] (fun jv wr => ∃ j : Nat, j ≤ tx.length ∧ jv = .int .i64 (j : Int) ∧ W = wr) (fun jv _ => tx.length - (intOf jv).toNat)
 case atStart => exact ⟨0, Nat.zero_le _, rfl, by first | rfl | trivial⟩
 case round =>
  obtain ⟨j, hj, rfl, rfl⟩ := hrel
  by_cases hlt : j < tx.length
  ·obtain ⟨c, hc⟩ : ∃ c, tx[j]? = some c := ⟨_, List.getElem?_eq_getElem hlt⟩
   have hcb := hby.get hc
   have hg0 := get_mks hc hcb (by rw [size_mks]; omega)
   have hlt' : (j : Int) < (tx.length : Int) := by omega
   have hne : dotB c = false := hno j c hc
   unfold dotB at hne
   have hne2 := of_decide_eq_false hne
   have g1 : ((c : Int) == 46) = false := by simp; omega
   have g2 : ((c : Int) == 101) = false := by simp; omega
   have g3 : ((c : Int) == 69) = false := by simp; omega
   clear hne hne2 hc
   go_wp2_with (fail)
   go_roundw
   case rel => exact ⟨j + 1, by omega, i64e (by omega), by first | rfl | trivial⟩
   case measure => simp [intOf]; omega
  ·have hge : ¬ (j : Int) < (tx.length : Int) := by omega
   go_upto_region 17 with (first | (go_at_call 59; ((with_reducible refine (DP.out _).mono ?_)); rintro e w5 hrp; obtain ⟨x, no, A, n, c, rfl, hcs, hn, hrd, hn4, hb5⟩ := rp_cases hrp; clear hrp; have hX0 := Lib.hid (Arr.new w5 114 [.bool false, .slice none 0 0]); have hB0 : Below w5.heap.size w5 (w5.alloc (.cells #[.bool false, .slice none 0 0] 114)) := (Below.refl _ _).alloc (Nat.le_refl _) _) | ((with_reducible show wpList _ _ _ (Oper.mk none (Op.store 114 (Operand.tmp 8) (Operand.tmp 76)) _ _ _ _ :: _) _ _); go_loud (refine wpList_sr rfl rfl 114 (.tmp 8) (.tmp 76) rfl (w5.heap.size) [.bool x.1, .slice A n c] rfl rfl 114 _ hX0.out _ Tryz.sz114 (by first | rfl | simp) (by first | rfl | simp) (by first | rfl | simp [Value.oneCell']) ?_; intro w6 hr6 hg6 hz6)))
   have hb6 : Below w5.heap.size w5 w6 := Below.grown hB0 hg6 (by simp) (fun k e => by have := Option.some.inj e; omega)
   have hB5 := HBd.trans (hb5.mono HBd.size)
   have hB6 := hB5.trans (hb6.mono hB5.size)
   have hN6 := Lib.hid ((HN.out.keep hb5).keep hb6)
   have hn0 : no = 0 ∧ parR tx 10 = (ntx x.1 x.2, 0) := by
    rcases hcs.out with h | ⟨_, h⟩
    ·exact h
    ·exact absurd HP.out h
   obtain ⟨rfl, hpr⟩ := hn0
   have HPR := Lib.hid hpr
   have h400 := hn4 rfl
   have hrd6 : Rd w6 A (B8 (dg x.2)) := hrd.keep hb6
   have DT : Hid (Calls Tryz.prog 60 #[.agg #[.bool x.1, .slice A n c]] w6 fun e w' => e = .returned (.string (mks (ntx x.1 x.2))) ∧ Below w6.heap.size w6 w') := rtext_any x.1 A n c x.2 w6 hn hrd6 (by omega)
   have hfin : (parR tx 10).1 = ntx x.1 x.2 := by rw [HPR.out]
   obtain ⟨tt, htt⟩ : ∃ tt, ntx x.1 x.2 = tt := ⟨_, rfl⟩
   rw [htt] at DT hfin
   have HFIN := Lib.hid hfin
   clear hpr hn4 hcs HPR htt hfin
   go_wp2_with (first | ((with_reducible show wpList _ _ _ (Oper.mk _ (Op.load 114 (Operand.tmp 8)) _ _ _ _ :: _) _ _); go_loud (refine wpList_lr rfl 114 (.tmp 8) rfl (w5.heap.size) [.bool x.1, .slice A n c] rfl 114 hr6.out _ Tryz.underlying114 (by simp) _ Tryz.sz114 (by first | rfl | simp) ?_)) | (go_at_call 60; ((with_reducible refine DT.out.mono ?_)); rintro e w7 ⟨rfl, hb7⟩; have hN7 := Lib.hid (hN6.out.keep hb7)) | ((with_reducible show wpList _ _ _ (Oper.mk none (Op.store 41 (Operand.tmp 2) (Operand.tmp 83)) _ _ _ _ :: _) _ _); go_loud (refine wpList_sr rfl rfl 41 (.tmp 2) (.tmp 83) rfl (w.heap.size + 1) [.int .i64 2, .string (mks tt), .bool false, .slice none 0 0, .slice none 0 0] rfl rfl 41 _ hN7.out _ Tryz.sz41 (by first | rfl | simp) (by first | rfl | simp) (by first | rfl | simp [Value.oneCell']) ?_; intro w9 hr9 hg9 hz9)))
   have hB7 := hB6.trans (hb7.mono hB6.size)
   have r0 := hr9.out.cell' (i := 0) rfl
   have r1 := hr9.out.cell' (i := 1) rfl
   have r2 := hr9.out.cell' (i := 2) rfl
   have r3 := hr9.out.cell' (i := 3) rfl
   have r4 := hr9.out.cell' (i := 4) rfl
   refine bodyPost_ret (v := .tuple #[.agg #[.int .i64 2, .string (mks tt), .bool false, .slice none 0 0, .slice none 0 0], .int .i64 0]) (by simp [results, Tryz.results33, go_sem, r0, r1, r2, r3, r4]) rfl ?_
   exact ⟨hB7.grown hg9 hB7.size (fun k e => by have := Option.some.inj e; omega), (by show _ = Ending.returned (.tuple #[.agg (leafC ⟨2, (parR tx 10).1, false, [], []⟩).toArray, .int .i64 0]); rw [HFIN.out]; rfl)⟩
set_option maxRecDepth 8000 in
set_option maxHeartbeats 4000000 in
theorem rscal_j (kd fr to_ : Nat) (tx : List Nat) (w : World) (h2 : kd ≠ 2) (h4 : kd ≠ 4) (hby : By tx) (htl : tx.length ≤ 65536) (hno : ∀ (j c : Nat), tx[j]? = some c → dotB c = false) (hp : (parR tx 10).2 ≠ 0) : Calls Tryz.prog 33 #[.agg #[.int .i64 (kd : Int), .int .i64 (fr : Int), .int .i64 (to_ : Int), .string (mks tx)]] w (RScalR w (none)) := by
 obtain ⟨W, hWe, HT, HN, HBd⟩ := scal_head kd fr to_ tx w
 have HWE := Lib.hid hWe
 clear hWe
 have hk2 : ((kd : Int) == 2) = false := by simp; omega
 have hk4 : ((kd : Int) == 4) = false := by simp; omega
 clear h2 h4
 have DP : Hid (∀ w, Calls Tryz.prog 59 #[.string (mks tx), .int .i64 10] w (RP w tx 10)) := fun w => rparse_any tx 10 w hby (by omega)
 have HP := Lib.hid hp
 clear hp
 go_enter Tryz.func33, Tryz.ntmps33
 go_upto_region 1 with (fail)
 rw [← HWE.out]
 clear HWE
 have hlow : w.heap.size + 1 < W.heap.size := HN.out.lt
 have t0 := HT.out.cell' (i := 0) rfl
 have t3 := HT.out.cell' (i := 3) rfl
 go_wp2_with (fail)
 go_loopw [4] (fun jv wr => ∃ j : Nat, j ≤ tx.length ∧ jv = .int .i64 (j : Int) ∧ W = wr) (fun jv _ => tx.length - (intOf jv).toNat)
 case atStart => exact ⟨0, Nat.zero_le _, rfl, by first | rfl | trivial⟩
 case round =>
  obtain ⟨j, hj, rfl, rfl⟩ := hrel
  by_cases hlt : j < tx.length
  ·obtain ⟨c, hc⟩ : ∃ c, tx[j]? = some c := ⟨_, List.getElem?_eq_getElem hlt⟩
   have hcb := hby.get hc
   have hg0 := get_mks hc hcb (by rw [size_mks]; omega)
   have hlt' : (j : Int) < (tx.length : Int) := by omega
   have hne : dotB c = false := hno j c hc
   unfold dotB at hne
   have hne2 := of_decide_eq_false hne
   have g1 : ((c : Int) == 46) = false := by simp; omega
   have g2 : ((c : Int) == 101) = false := by simp; omega
   have g3 : ((c : Int) == 69) = false := by simp; omega
   clear hne hne2 hc
   go_wp2_with (fail)
   go_roundw
   case rel => exact ⟨j + 1, by omega, i64e (by omega), by first | rfl | trivial⟩
   case measure => simp [intOf]; omega
  ·have hge : ¬ (j : Int) < (tx.length : Int) := by omega
   go_upto_region 17 with (first | (go_at_call 59; ((with_reducible refine (DP.out _).mono ?_)); rintro e w5 hrp; obtain ⟨x, no, A, n, c, rfl, hcs, hn, hrd, hn4, hb5⟩ := rp_cases hrp; clear hrp; have hX0 := Lib.hid (Arr.new w5 114 [.bool false, .slice none 0 0]); have hB0 : Below w5.heap.size w5 (w5.alloc (.cells #[.bool false, .slice none 0 0] 114)) := (Below.refl _ _).alloc (Nat.le_refl _) _) | ((with_reducible show wpList _ _ _ (Oper.mk none (Op.store 114 (Operand.tmp 8) (Operand.tmp 76)) _ _ _ _ :: _) _ _); go_loud (refine wpList_sr rfl rfl 114 (.tmp 8) (.tmp 76) rfl (w5.heap.size) [.bool x.1, .slice A n c] rfl rfl 114 _ hX0.out _ Tryz.sz114 (by first | rfl | simp) (by first | rfl | simp) (by first | rfl | simp [Value.oneCell']) ?_; intro w6 hr6 hg6 hz6)))
   have hb6 : Below w5.heap.size w5 w6 := Below.grown hB0 hg6 (by simp) (fun k e => by have := Option.some.inj e; omega)
   have hB5 := HBd.trans (hb5.mono HBd.size)
   have hB6 := hB5.trans (hb6.mono hB5.size)
   have hN6 := Lib.hid ((HN.out.keep hb5).keep hb6)
   have hn0 : no ≠ 0 := by
    rcases hcs.out with ⟨_, h⟩ | ⟨h, _⟩
    ·exact absurd (by rw [h]) HP.out
    ·exact h
   have hn1 : (no != 0) = true := by simpa using hn0
   clear hn4 hcs hn0
   go_wp2_with ((with_reducible show wpList _ _ _ (Oper.mk none (Op.store 41 (Operand.tmp 2) (Operand.tmp 80)) _ _ _ _ :: _) _ _); go_loud (refine wpList_sr rfl rfl 41 (.tmp 2) (.tmp 80) rfl (w.heap.size + 1) [.int .i64 0, .string ⟨#[]⟩, .bool false, .slice none 0 0, .slice none 0 0] rfl rfl 41 _ hN6.out _ Tryz.sz41 (by first | rfl | simp) (by first | rfl | simp) (by first | rfl | simp [Value.oneCell']) ?_; intro w9 hr9 hg9 hz9))
   have r0 := hr9.out.cell' (i := 0) rfl
   have r1 := hr9.out.cell' (i := 1) rfl
   have r2 := hr9.out.cell' (i := 2) rfl
   have r3 := hr9.out.cell' (i := 3) rfl
   have r4 := hr9.out.cell' (i := 4) rfl
   refine bodyPost_ret (v := .tuple #[.agg #[.int .i64 0, .string ⟨#[]⟩, .bool false, .slice none 0 0, .slice none 0 0], .int .i64 12]) (by simp [results, Tryz.results33, go_sem, r0, r1, r2, r3, r4]) rfl ?_
   exact ⟨hB6.grown hg9 hB6.size (fun k e => by have := Option.some.inj e; omega), rfl⟩
set_option maxRecDepth 8000 in
set_option maxHeartbeats 4000000 in
theorem rscal_d (kd fr to_ : Nat) (tx : List Nat) (w : World) (h2 : kd ≠ 2) (h4 : kd ≠ 4) (hby : By tx) (htl : tx.length ≤ 65536) (j0 c0 : Nat) (hj0 : tx[j0]? = some c0) (hd0 : dotB c0 = true) (hno : ∀ (j c : Nat), j < j0 → tx[j]? = some c → dotB c = false) (hy : rnumV tx = none) : Calls Tryz.prog 33 #[.agg #[.int .i64 (kd : Int), .int .i64 (fr : Int), .int .i64 (to_ : Int), .string (mks tx)]] w (RScalR w (none)) := by
 obtain ⟨W, hWe, HT, HN, HBd⟩ := scal_head kd fr to_ tx w
 have HWE := Lib.hid hWe
 clear hWe
 have hk2 : ((kd : Int) == 2) = false := by simp; omega
 have hk4 : ((kd : Int) == 4) = false := by simp; omega
 clear h2 h4
 have DN : Hid (∀ w, Calls Tryz.prog 56 #[.string (mks tx)] w (RNumO w none)) := fun w => by have := rnumeral_any tx hby (by omega) w; rw [hy] at this; exact this
 clear hy
 have hj0l := (List.getElem?_eq_some_iff.1 hj0).1
 go_enter Tryz.func33, Tryz.ntmps33
 go_upto_region 1 with (fail)
 rw [← HWE.out]
 clear HWE
 have hlow : w.heap.size + 1 < W.heap.size := HN.out.lt
 have t0 := HT.out.cell' (i := 0) rfl
 have t3 := HT.out.cell' (i := 3) rfl
 go_wp2_with (fail)
 go_loopw [4] (fun jv wr => ∃ j : Nat, j ≤ j0 ∧ jv = .int .i64 (j : Int) ∧ W = wr) (fun jv _ => tx.length - (intOf jv).toNat)
 case atStart => exact ⟨0, Nat.zero_le _, rfl, by first | rfl | trivial⟩
 case round =>
  obtain ⟨j, hj, rfl, rfl⟩ := hrel
  by_cases hlt : j < j0
  ·obtain ⟨c, hc⟩ : ∃ c, tx[j]? = some c := ⟨_, List.getElem?_eq_getElem (by omega)⟩
   have hcb := hby.get hc
   have hg0 := get_mks hc hcb (by rw [size_mks]; omega)
   have hlt' : (j : Int) < (tx.length : Int) := by omega
   have hne : dotB c = false := hno j c hlt hc
   unfold dotB at hne
   have hne2 := of_decide_eq_false hne
   have g1 : ((c : Int) == 46) = false := by simp; omega
   have g2 : ((c : Int) == 101) = false := by simp; omega
   have g3 : ((c : Int) == 69) = false := by simp; omega
   clear hne hne2 hc
   go_wp2_with (fail)
   go_roundw
   case rel => exact ⟨j + 1, by omega, i64e (by omega), by first | rfl | trivial⟩
   case measure => simp [intOf]; omega
  ·obtain rfl : j = j0 := by omega
   have hcb := hby.get hj0
   have hg0 := get_mks hj0 hcb (by rw [size_mks]; omega)
   have hlt' : (j : Int) < (tx.length : Int) := by omega
   unfold dotB at hd0
   have hd1 := of_decide_eq_true hd0
   clear hd0 hj0 hno
   rcases hd1 with rfl | rfl | rfl
   all_goals
    have hj2 := hj0l
    go_upto_region 13 with (first | (go_at_call 56; ((with_reducible refine (DN.out _).mono ?_)); rintro e w5 ⟨hb5, yb, A, n, c, yi, ok, rfl, rfl⟩; have hX0 := Lib.hid (Arr.new w5 108 [.bool false, .slice none 0 0, .int .i64 0]); have hB0 : Below w5.heap.size w5 (w5.alloc (.cells #[.bool false, .slice none 0 0, .int .i64 0] 108)) := (Below.refl _ _).alloc (Nat.le_refl _) _) | ((with_reducible show wpList _ _ _ (Oper.mk none (Op.store 108 (Operand.tmp 6) (Operand.tmp 59)) _ _ _ _ :: _) _ _); go_loud (refine wpList_sr rfl rfl 108 (.tmp 6) (.tmp 59) rfl (w5.heap.size) [.bool yb, .slice A n c, .int .i64 yi] rfl rfl 108 _ hX0.out _ Tryz.sz108 (by first | rfl | simp) (by first | rfl | simp) (by first | rfl | simp [Value.oneCell']) ?_; intro w6 hr6 hg6 hz6)))
    have hb6 : Below w5.heap.size w5 w6 := Below.grown hB0 hg6 (by simp) (fun k e => by have := Option.some.inj e; omega)
    have hB5 := HBd.trans (hb5.mono HBd.size)
    have hB6 := hB5.trans (hb6.mono hB5.size)
    have hN6 := Lib.hid ((HN.out.keep hb5).keep hb6)
    go_wp2_with ((with_reducible show wpList _ _ _ (Oper.mk none (Op.store 41 (Operand.tmp 2) (Operand.tmp 68)) _ _ _ _ :: _) _ _); go_loud (refine wpList_sr rfl rfl 41 (.tmp 2) (.tmp 68) rfl (w.heap.size + 1) [.int .i64 0, .string ⟨#[]⟩, .bool false, .slice none 0 0, .slice none 0 0] rfl rfl 41 _ hN6.out _ Tryz.sz41 (by first | rfl | simp) (by first | rfl | simp) (by first | rfl | simp [Value.oneCell']) ?_; intro w9 hr9 hg9 hz9))
    have r0 := hr9.out.cell' (i := 0) rfl
    have r1 := hr9.out.cell' (i := 1) rfl
    have r2 := hr9.out.cell' (i := 2) rfl
    have r3 := hr9.out.cell' (i := 3) rfl
    have r4 := hr9.out.cell' (i := 4) rfl
    refine bodyPost_ret (v := .tuple #[.agg #[.int .i64 0, .string ⟨#[]⟩, .bool false, .slice none 0 0, .slice none 0 0], .int .i64 12]) (by simp [results, Tryz.results33, go_sem, r0, r1, r2, r3, r4]) rfl ?_
    exact ⟨hB6.grown hg9 hB6.size (fun k e => by have := Option.some.inj e; omega), rfl⟩
set_option maxRecDepth 8000 in
set_option maxHeartbeats 4000000 in
theorem rscal_e (kd fr to_ : Nat) (tx : List Nat) (w : World) (h2 : kd ≠ 2) (h4 : kd ≠ 4) (hby : By tx) (htl : tx.length ≤ 65536) (j0 c0 : Nat) (hj0 : tx[j0]? = some c0) (hd0 : dotB c0 = true) (hno : ∀ (j c : Nat), j < j0 → tx[j]? = some c → dotB c = false) (y : Bool × List Nat × Int) (hy : rnumV tx = some y) (hlim : limV y ≠ 0) : Calls Tryz.prog 33 #[.agg #[.int .i64 (kd : Int), .int .i64 (fr : Int), .int .i64 (to_ : Int), .string (mks tx)]] w (RScalR w (none)) := by
 obtain ⟨W, hWe, HT, HN, HBd⟩ := scal_head kd fr to_ tx w
 have HWE := Lib.hid hWe
 clear hWe
 have hk2 : ((kd : Int) == 2) = false := by simp; omega
 have hk4 : ((kd : Int) == 4) = false := by simp; omega
 clear h2 h4
 have DN : Hid (∀ w, Calls Tryz.prog 56 #[.string (mks tx)] w (RNumO w (some y))) := fun w => by have := rnumeral_any tx hby (by omega) w; rw [hy] at this; exact this
 clear hy
 have hj0l := (List.getElem?_eq_some_iff.1 hj0).1
 obtain ⟨yn, yd, yx⟩ := y
 have DL : Hid (∀ A n c w, Hid (n = yd.length) → Calls Tryz.prog 57 #[.agg #[.bool yn, .slice A n c, .int .i64 yx]] w fun e w' => e = .returned (.int .i64 (limV (yn, yd, yx))) ∧ Below w.heap.size w w') := fun A n c w hn => rlimit_any (yn, yd, yx) A n c w hn
 generalize limV (yn, yd, yx) = lv at *
 have hlv : (lv != 0) = true := by simpa using hlim
 clear hlim
 go_enter Tryz.func33, Tryz.ntmps33
 go_upto_region 1 with (fail)
 rw [← HWE.out]
 clear HWE
 have hlow : w.heap.size + 1 < W.heap.size := HN.out.lt
 have t0 := HT.out.cell' (i := 0) rfl
 have t3 := HT.out.cell' (i := 3) rfl
 go_wp2_with (fail)
 go_loopw [4] (fun jv wr => ∃ j : Nat, j ≤ j0 ∧ jv = .int .i64 (j : Int) ∧ W = wr) (fun jv _ => tx.length - (intOf jv).toNat)
 case atStart => exact ⟨0, Nat.zero_le _, rfl, by first | rfl | trivial⟩
 case round =>
  obtain ⟨j, hj, rfl, rfl⟩ := hrel
  by_cases hlt : j < j0
  ·obtain ⟨c, hc⟩ : ∃ c, tx[j]? = some c := ⟨_, List.getElem?_eq_getElem (by omega)⟩
   have hcb := hby.get hc
   have hg0 := get_mks hc hcb (by rw [size_mks]; omega)
   have hlt' : (j : Int) < (tx.length : Int) := by omega
   have hne : dotB c = false := hno j c hlt hc
   unfold dotB at hne
   have hne2 := of_decide_eq_false hne
   have g1 : ((c : Int) == 46) = false := by simp; omega
   have g2 : ((c : Int) == 101) = false := by simp; omega
   have g3 : ((c : Int) == 69) = false := by simp; omega
   clear hne hne2 hc
   go_wp2_with (fail)
   go_roundw
   case rel => exact ⟨j + 1, by omega, i64e (by omega), by first | rfl | trivial⟩
   case measure => simp [intOf]; omega
  ·obtain rfl : j = j0 := by omega
   have hcb := hby.get hj0
   have hg0 := get_mks hj0 hcb (by rw [size_mks]; omega)
   have hlt' : (j : Int) < (tx.length : Int) := by omega
   unfold dotB at hd0
   have hd1 := of_decide_eq_true hd0
   clear hd0 hj0 hno
   rcases hd1 with rfl | rfl | rfl
   all_goals
    have hj2 := hj0l
    go_upto_region 13 with (first | (go_at_call 56; ((with_reducible refine (DN.out _).mono ?_)); rintro e w5 ⟨hb5, yb, A, n, c, yi, ok, rfl, rfl, rfl, rfl, hown⟩; have hX0 := Lib.hid (Arr.new w5 108 [.bool false, .slice none 0 0, .int .i64 0]); have hB0 : Below w5.heap.size w5 (w5.alloc (.cells #[.bool false, .slice none 0 0, .int .i64 0] 108)) := (Below.refl _ _).alloc (Nat.le_refl _) _) | ((with_reducible show wpList _ _ _ (Oper.mk none (Op.store 108 (Operand.tmp 6) (Operand.tmp 59)) _ _ _ _ :: _) _ _); go_loud (refine wpList_sr rfl rfl 108 (.tmp 6) (.tmp 59) rfl (w5.heap.size) [.bool yb, .slice A n c, .int .i64 yi] rfl rfl 108 _ hX0.out _ Tryz.sz108 (by first | rfl | simp) (by first | rfl | simp) (by first | rfl | simp [Value.oneCell']) ?_; intro w6 hr6 hg6 hz6)))
    have hb6 : Below w5.heap.size w5 w6 := Below.grown hB0 hg6 (by simp) (fun k e => by have := Option.some.inj e; omega)
    have hB5 := HBd.trans (hb5.mono HBd.size)
    have hB6 := hB5.trans (hb6.mono hB5.size)
    have hN6 := Lib.hid ((HN.out.keep hb5).keep hb6)
    obtain ⟨A', c', hv, hnn, _, _, hrd, _⟩ := own_rd hown
    injection hv with hv1 hv2 hv3
    subst hv1
    subst hv2
    have hnl : Hid (yd.length = yd.length) := rfl
    have q0 := hr6.out.cell' (i := 0) rfl
    have q1 := hr6.out.cell' (i := 1) rfl
    have q2 := hr6.out.cell' (i := 2) rfl
    go_wp2_with (first | (go_at_call 57; ((with_reducible refine (DL.out _ _ _ _ hnl).mono ?_)); rintro e w7 ⟨rfl, hb7⟩; have hN7 := Lib.hid (hN6.out.keep hb7)) | ((with_reducible show wpList _ _ _ (Oper.mk none (Op.store 41 (Operand.tmp 2) (Operand.tmp 68)) _ _ _ _ :: _) _ _); go_loud (refine wpList_sr rfl rfl 41 (.tmp 2) (.tmp 68) rfl (w.heap.size + 1) [.int .i64 0, .string ⟨#[]⟩, .bool false, .slice none 0 0, .slice none 0 0] rfl rfl 41 _ hN7.out _ Tryz.sz41 (by first | rfl | simp) (by first | rfl | simp) (by first | rfl | simp [Value.oneCell']) ?_; intro w9 hr9 hg9 hz9)))
    have hB7 := hB6.trans (hb7.mono hB6.size)
    have r0 := hr9.out.cell' (i := 0) rfl
    have r1 := hr9.out.cell' (i := 1) rfl
    have r2 := hr9.out.cell' (i := 2) rfl
    have r3 := hr9.out.cell' (i := 3) rfl
    have r4 := hr9.out.cell' (i := 4) rfl
    refine bodyPost_ret (v := .tuple #[.agg #[.int .i64 0, .string ⟨#[]⟩, .bool false, .slice none 0 0, .slice none 0 0], .int .i64 12]) (by simp [results, Tryz.results33, go_sem, r0, r1, r2, r3, r4]) rfl ?_
    exact ⟨hB7.grown hg9 hB7.size (fun k e => by have := Option.some.inj e; omega), rfl⟩
set_option maxRecDepth 8000 in
set_option maxHeartbeats 4000000 in
theorem rscal_f (kd fr to_ : Nat) (tx : List Nat) (w : World) (h2 : kd ≠ 2) (h4 : kd ≠ 4) (hby : By tx) (htl : tx.length ≤ 65536) (j0 c0 : Nat) (hj0 : tx[j0]? = some c0) (hd0 : dotB c0 = true) (hno : ∀ (j c : Nat), j < j0 → tx[j]? = some c → dotB c = false) (y : Bool × List Nat × Int) (hy : rnumV tx = some y) (hlim : limV y = 0) (hten : Ten y.2.1) : Calls Tryz.prog 33 #[.agg #[.int .i64 (kd : Int), .int .i64 (fr : Int), .int .i64 (to_ : Int), .string (mks tx)]] w (RScalR w (some ⟨3, textV y, false, [], []⟩)) := by
 obtain ⟨W, hWe, HT, HN, HBd⟩ := scal_head kd fr to_ tx w
 have HWE := Lib.hid hWe
 clear hWe
 have hk2 : ((kd : Int) == 2) = false := by simp; omega
 have hk4 : ((kd : Int) == 4) = false := by simp; omega
 clear h2 h4
 have DN : Hid (∀ w, Calls Tryz.prog 56 #[.string (mks tx)] w (RNumO w (some y))) := fun w => by have := rnumeral_any tx hby (by omega) w; rw [hy] at this; exact this
 clear hy
 have hj0l := (List.getElem?_eq_some_iff.1 hj0).1
 obtain ⟨yn, yd, yx⟩ := y
 have DL : Hid (∀ A n c w, Hid (n = yd.length) → Calls Tryz.prog 57 #[.agg #[.bool yn, .slice A n c, .int .i64 yx]] w fun e w' => e = .returned (.int .i64 (limV (yn, yd, yx))) ∧ Below w.heap.size w w') := fun A n c w hn => rlimit_any (yn, yd, yx) A n c w hn
 have hz := limV_zero hlim
 simp only at hz hten
 have hz1 := hz.1
 have hz2 := hz.2.1
 have hz3 := hz.2.2
 rw [hlim] at DL
 have DS : Hid (∀ A n c w, Hid (n = yd.length) → n ≤ 400 → Rd w A (IM yd) → Calls Tryz.prog 58 #[.agg #[.bool yn, .slice A n c, .int .i64 yx]] w fun e w' => e = .returned (.string (mks (textV (yn, yd, yx)))) ∧ Below w.heap.size w w') := fun A n c w hn h4 hr => rshow_any yn yd yx A n c w hn hr hten (by omega) (by omega) (by omega)
 clear hlim hz hten
 generalize textV (yn, yd, yx) = tt at *
 go_enter Tryz.func33, Tryz.ntmps33
 go_upto_region 1 with (fail)
 rw [← HWE.out]
 clear HWE
 have hlow : w.heap.size + 1 < W.heap.size := HN.out.lt
 have t0 := HT.out.cell' (i := 0) rfl
 have t3 := HT.out.cell' (i := 3) rfl
 go_wp2_with (fail)
 go_loopw [4] (fun jv wr => ∃ j : Nat, j ≤ j0 ∧ jv = .int .i64 (j : Int) ∧ W = wr) (fun jv _ => tx.length - (intOf jv).toNat)
 case atStart => exact ⟨0, Nat.zero_le _, rfl, by first | rfl | trivial⟩
 case round =>
  obtain ⟨j, hj, rfl, rfl⟩ := hrel
  by_cases hlt : j < j0
  ·obtain ⟨c, hc⟩ : ∃ c, tx[j]? = some c := ⟨_, List.getElem?_eq_getElem (by omega)⟩
   have hcb := hby.get hc
   have hg0 := get_mks hc hcb (by rw [size_mks]; omega)
   have hlt' : (j : Int) < (tx.length : Int) := by omega
   have hne : dotB c = false := hno j c hlt hc
   unfold dotB at hne
   have hne2 := of_decide_eq_false hne
   have g1 : ((c : Int) == 46) = false := by simp; omega
   have g2 : ((c : Int) == 101) = false := by simp; omega
   have g3 : ((c : Int) == 69) = false := by simp; omega
   clear hne hne2 hc
   go_wp2_with (fail)
   go_roundw
   case rel => exact ⟨j + 1, by omega, i64e (by omega), by first | rfl | trivial⟩
   case measure => simp [intOf]; omega
  ·obtain rfl : j = j0 := by omega
   have hcb := hby.get hj0
   have hg0 := get_mks hj0 hcb (by rw [size_mks]; omega)
   have hlt' : (j : Int) < (tx.length : Int) := by omega
   unfold dotB at hd0
   have hd1 := of_decide_eq_true hd0
   clear hd0 hj0 hno
   rcases hd1 with rfl | rfl | rfl
   all_goals
    have hj2 := hj0l
    go_upto_region 13 with (first | (go_at_call 56; ((with_reducible refine (DN.out _).mono ?_)); rintro e w5 ⟨hb5, yb, A, n, c, yi, ok, rfl, rfl, rfl, rfl, hown⟩; have hX0 := Lib.hid (Arr.new w5 108 [.bool false, .slice none 0 0, .int .i64 0]); have hB0 : Below w5.heap.size w5 (w5.alloc (.cells #[.bool false, .slice none 0 0, .int .i64 0] 108)) := (Below.refl _ _).alloc (Nat.le_refl _) _) | ((with_reducible show wpList _ _ _ (Oper.mk none (Op.store 108 (Operand.tmp 6) (Operand.tmp 59)) _ _ _ _ :: _) _ _); go_loud (refine wpList_sr rfl rfl 108 (.tmp 6) (.tmp 59) rfl (w5.heap.size) [.bool yb, .slice A n c, .int .i64 yi] rfl rfl 108 _ hX0.out _ Tryz.sz108 (by first | rfl | simp) (by first | rfl | simp) (by first | rfl | simp [Value.oneCell']) ?_; intro w6 hr6 hg6 hz6)))
    have hb6 : Below w5.heap.size w5 w6 := Below.grown hB0 hg6 (by simp) (fun k e => by have := Option.some.inj e; omega)
    have hB5 := HBd.trans (hb5.mono HBd.size)
    have hB6 := hB5.trans (hb6.mono hB5.size)
    have hN6 := Lib.hid ((HN.out.keep hb5).keep hb6)
    obtain ⟨A', c', hv, hnn, _, _, hrd, _⟩ := own_rd hown
    injection hv with hv1 hv2 hv3
    subst hv1
    subst hv2
    have hnl : Hid (yd.length = yd.length) := rfl
    have q0 := hr6.out.cell' (i := 0) rfl
    have q1 := hr6.out.cell' (i := 1) rfl
    have q2 := hr6.out.cell' (i := 2) rfl
    have hrd6 : Rd w6 A (IM yd) := hrd.keep hb6
    go_wp2_with (first | (go_at_call 57; ((with_reducible refine (DL.out _ _ _ _ hnl).mono ?_)); rintro e w7 ⟨rfl, hb7⟩; have hN7 := Lib.hid (hN6.out.keep hb7); have hrd7 := hrd6.keep hb7; have hr67 := hr6.out.keep hb7; have p0 := hr67.cell' (i := 0) rfl; have p1 := hr67.cell' (i := 1) rfl; have p2 := hr67.cell' (i := 2) rfl) | (go_at_call 58; go_loud (refine (DS.out _ _ _ _ (Lib.hid rfl) hz1 hrd7).mono ?_); rintro e w8 ⟨rfl, hb8⟩; have hN8 := Lib.hid (hN7.out.keep hb8)) | ((with_reducible show wpList _ _ _ (Oper.mk none (Op.store 41 (Operand.tmp 2) (Operand.tmp 71)) _ _ _ _ :: _) _ _); go_loud (refine wpList_sr rfl rfl 41 (.tmp 2) (.tmp 71) rfl (w.heap.size + 1) [.int .i64 3, .string (mks tt), .bool false, .slice none 0 0, .slice none 0 0] rfl rfl 41 _ hN8.out _ Tryz.sz41 (by first | rfl | simp) (by first | rfl | simp) (by first | rfl | simp [Value.oneCell']) ?_; intro w9 hr9 hg9 hz9)))
    have hB7 := hB6.trans (hb7.mono hB6.size)
    have hB8 := hB7.trans (hb8.mono hB7.size)
    have r0 := hr9.out.cell' (i := 0) rfl
    have r1 := hr9.out.cell' (i := 1) rfl
    have r2 := hr9.out.cell' (i := 2) rfl
    have r3 := hr9.out.cell' (i := 3) rfl
    have r4 := hr9.out.cell' (i := 4) rfl
    refine bodyPost_ret (v := .tuple #[.agg #[.int .i64 3, .string (mks tt), .bool false, .slice none 0 0, .slice none 0 0], .int .i64 0]) (by simp [results, Tryz.results33, go_sem, r0, r1, r2, r3, r4]) rfl ?_
    exact ⟨hB8.grown hg9 hB8.size (fun k e => by have := Option.some.inj e; omega), rfl⟩
theorem rscal_any (t : JTok) (hok : TokOK t) (htl : t.kind ≠ 2 → t.kind ≠ 4 → t.text.length ≤ 65536) (w : World) : Calls Tryz.prog 33 #[.agg #[.int .i64 (t.kind : Int), .int .i64 (t.from_ : Int), .int .i64 (t.to_ : Int), .string (mks t.text)]] w (RScalR w (scalarV t)) := by
 obtain ⟨kd, fr, to_, tx⟩ := t
 have hby := hok.1
 simp only at hby htl ⊢
 unfold scalarV
 simp only
 by_cases h2 : kd = 2
 ·rw [if_pos h2]; exact rscal_s kd fr to_ tx w h2
 ·rw [if_neg h2]
  by_cases h4 : kd = 4
  ·rw [if_pos h4]
   by_cases hn : tx = litNull
   ·rw [if_pos hn]; exact rscal_n kd fr to_ tx w h4 hby hn
   ·rw [if_neg hn]; exact rscal_b kd fr to_ tx w h4 hby hn
  ·rw [if_neg h4]
   have hl := htl h2 h4
   cases hd : hasDot tx with
   | false =>
    rw [if_neg (by decide)]
    by_cases hp : (parR tx 10).2 = 0
    ·rw [if_pos hp]; exact rscal_i kd fr to_ tx w h2 h4 hby hl (hasDot_no hby hd) hp
    ·rw [if_neg hp]; exact rscal_j kd fr to_ tx w h2 h4 hby hl (hasDot_no hby hd) hp
   | true =>
    rw [if_pos rfl]
    obtain ⟨j0, c0, h5, h6, h7⟩ := hasDot_yes hby hd
    rcases dot_cases tx hl with ⟨h8, h9⟩ | ⟨y, h8, h9, h10⟩ | ⟨y, h8, h9, h10, h11⟩
    ·rw [if_neg h9]; exact rscal_d kd fr to_ tx w h2 h4 hby hl j0 c0 h5 h6 h7 h8
    ·rw [if_neg h10]; exact rscal_e kd fr to_ tx w h2 h4 hby hl j0 c0 h5 h6 h7 y h8 h9
    ·rw [h10, if_pos rfl]; exact rscal_f kd fr to_ tx w h2 h4 hby hl j0 c0 h5 h6 h7 y h8 h9 h11
end Go.Proofs.YtbdnamcjhndpjaaGreatDoor
namespace Go.Proofs.YtbdnamcjhndpjaaGreatDoor
open Go.RowKit
def RD (w w' : World) (B : Nat) (k : RK) (F : Nat → Prop) (st' : RSt) : Prop := ∃ vn vs ncs lab, RM w' B k vn vs ncs lab st' ∧ PStep w w' F (RF B vn vs lab)
theorem RD.of {w w' : World} {B : Nat} {k : RK} {F : Nat → Prop} {vn vs : Value} {ncs : List Value} {lab : Nat → Option Nat} {st' : RSt} (h : RM w' B k vn vs ncs lab st') (hp : PStep w w' F (RF B vn vs lab)) : RD w w' B k F st' := ⟨_, _, _, _, h, hp⟩
structure RIn (k : RK) (st : RSt) (d : Nat) : Prop where
 err : st.err = 0
 i : st.i ≤ k.ts.length
 nod : st.nodes.length ≤ 4096
 spn : st.spans.length ≤ st.nodes.length
 d : d ≤ 33
structure RB2 (k : RK) : Prop extends RB k where
 kd : ∀ t ∈ k.ts, 1 ≤ t.kind
 nl : ∀ t ∈ k.ts, t.kind ≠ 1 → t.kind ≠ 2 → t.kind ≠ 4 → t.text.length ≤ 65536
structure RFl (k : RK) (N : List GNode) (S : List JSpan) (d : Nat) (p : PErr) (st' : RSt) : Prop where
 err : st'.err = p.2
 ne : p.2 ≠ 0
 at_ : st'.at_ = p.1
 nod : ∃ D, st'.nodes = N ++ D
 spn : ∃ D, st'.spans = S ++ D
 nl : st'.nodes.length ≤ 5000
 sl : st'.spans.length ≤ 5000
 i : st'.i ≤ k.ts.length + 10 * (40 - d)
structure ROk (k : RK) (N : List GNode) (S : List JSpan) (i0 : Nat) (p : List JTok × List GNode × List JSpan) (st' : RSt) : Prop where
 err : st'.err = 0
 nod : st'.nodes = N ++ p.2.1
 spn : st'.spans = S ++ p.2.2
 left : leftA k st'.i = p.1
 i : st'.i ≤ k.ts.length
 lt : i0 < st'.i
 nl : st'.nodes.length ≤ 4096
 sl : st'.spans.length ≤ st'.nodes.length
def RValR (w : World) (B : Nat) (k : RK) (F : Nat → Prop) (st : RSt) (d : Nat) (r : Except PErr (List JTok × List GNode × List JSpan)) (e : Ending) (w' : World) : Prop :=
 match r with
 | .ok p => e = .returned (.int .i64 (st.nodes.length : Int)) ∧ ∃ st', RD w w' B k F st' ∧ ROk k st.nodes st.spans st.i p st'
 | .error q => ∃ (x : Nat) (st' : RSt), e = .returned (.int .i64 (x : Int)) ∧ RD w w' B k F st' ∧ RFl k st.nodes st.spans d q st'
def RValH (f : Nat) : Prop := ∀ (w : World) (B : Nat) (k : RK) (vn vs : Value) (ncs : List Value) (lab : Nat → Option Nat) (st : RSt) (s : JSpan) (d : Nat), RM w B k vn vs ncs lab st → RB2 k → RIn k st d →
 rvalV k.s.length f (leftA k st.i) st.nodes.length st.spans.length s d ≠ .error (0, 0) →
 Calls Tryz.prog 13 #[.pointer (some ⟨B, 0, none⟩), .agg (spanC s).toArray, .int .i64 (d : Int)] w (RValR w B k (RF B vn vs lab) st d (rvalV k.s.length f (leftA k st.i) st.nodes.length st.spans.length s d))
structure RAt (k : RK) (N : List GNode) (S : List JSpan) (kd : Int) (s : JSpan) (x : RLoop) (st : RSt) : Prop where
 err : st.err = 0
 nod : st.nodes = N ++ ⟨kd, [], false, x.keys, x.items⟩ :: x.dn
 spn : st.spans = S ++ s :: x.ds
 left : leftA k st.i = x.l
 i : st.i ≤ k.ts.length
 nl : st.nodes.length ≤ 4096
 sl : st.spans.length ≤ st.nodes.length
 kl : x.keys.length ≤ st.i
 il : x.items.length ≤ st.i
 ks : KeysOK st ⟨kd, [], false, x.keys, x.items⟩ x.ks
def RItsR (w : World) (B : Nat) (k : RK) (F : Nat → Prop) (N : List GNode) (S : List JSpan) (kd : Int) (s : JSpan) (d : Nat) (r : Except PErr RLoop) (e : Ending) (w' : World) : Prop :=
 e = .returned (.tuple #[]) ∧ match r with
 | .ok x => ∃ st' st2, RD w w' B k F st' ∧ RAt k N S kd s x st2 ∧ st' = { st2 with i := st2.i + 1 } ∧ st2.i < k.ts.length
 | .error q => ∃ st', RD w w' B k F st' ∧ RFl k N S d q st'
def RItsH (obj : Bool) (f : Nat) : Prop := ∀ (w : World) (B : Nat) (k : RK) (vn vs : Value) (ncs : List Value) (lab : Nat → Option Nat) (st : RSt) (N : List GNode) (S : List JSpan) (s : JSpan) (kd : Int) (d : Nat), RM w B k vn vs ncs lab st → RB2 k →
 RAt k N S kd s ⟨leftA k (st.i + 1), [], [], [], [], []⟩ { st with i := st.i + 1 } → d ≤ 32 →
 ritemsV k.s.length f obj S.length d (N.length + 1) (S.length + 1) ⟨leftA k (st.i + 1), [], [], [], [], []⟩ ≠ .error (0, 0) →
 Calls Tryz.prog (if obj then 32 else 31) #[.pointer (some ⟨B, 0, none⟩), .int .i64 (N.length : Int), .int .i64 (S.length : Int), .int .i64 (d : Int)] w
  (RItsR w B k (RF B vn vs lab) N S kd s d (ritemsV k.s.length f obj S.length d (N.length + 1) (S.length + 1) ⟨leftA k (st.i + 1), [], [], [], [], []⟩))
end Go.Proofs.YtbdnamcjhndpjaaGreatDoor
namespace Go.Proofs.YtbdnamcjhndpjaaGreatDoor
open Go.RowKit
set_option maxRecDepth 8000 in
set_option maxHeartbeats 4000000 in
theorem plist_err {w : World} {B : Nat} {k : RK} {vn vs : Value} {ncs : List Value} {lab : Nat → Option Nat} {st : RSt} (h : RM w B k vn vs ncs lab st) (he : st.err ≠ 0) (hi : st.i ≤ 1000000) (n at_ d : Int) :
  Calls Tryz.prog 31 #[.pointer (some ⟨B, 0, none⟩), .int .i64 n, .int .i64 at_, .int .i64 d] w (fun e w' => e = .returned (.tuple #[]) ∧ RM w' B k vn vs ncs lab { st with i := st.i + 2 } ∧ PStep w w' (RF B vn vs lab) (RF B vn vs lab)) := by
 have c1 : w.cell? ⟨B, 1, none⟩ = some (.int .i64 (st.i : Int)) := h.c1
 have f1 := h.f 1
 have h1 := h.setI (st.i + 1)
 have e1 : ((st.i + 1 : Nat) : Int) = (st.i : Int) + 1 := by omega
 have e2 : ((st.i + 1 + 1 : Nat) : Int) = (st.i : Int) + 1 + 1 := by omega
 rw [e1] at h1
 have hP1 : PStep w (w.setCell ⟨B, 1, none⟩ (.int .i64 ((st.i : Int) + 1))) (RF B vn vs lab) (RF B vn vs lab) := pstep_set (.inl rfl) 1 _
 have H1 := Lib.hid h1
 have HP1 := Lib.hid hP1
 have E2 := Lib.hid e2
 have hlt := h.lt
 have he' : ((st.err : Int) == 0) = false := by simp; omega
 have k8 : (w.setCell ⟨B, 1, none⟩ (.int .i64 ((st.i : Int) + 1))).cell? ⟨B, 8, none⟩ = some (.int .i64 (st.err : Int)) := h1.c8
 have k1 : (w.setCell ⟨B, 1, none⟩ (.int .i64 ((st.i : Int) + 1))).cell? ⟨B, 1, none⟩ = some (.int .i64 ((st.i : Int) + 1)) := by have := h1.c1; rw [show ((parC k vn vs { st with i := st.i + 1 })[1]) = Value.int .i64 ((st.i + 1 : Nat) : Int) from rfl, e1] at this; exact this
 have q1 : (w.setCell ⟨B, 1, none⟩ (.int .i64 ((st.i : Int) + 1))).frozen? ⟨B, 1, none⟩ = false := h1.f 1
 clear h1 hP1 e1 e2 h he
 go_enter Tryz.func31, Tryz.ntmps31
 go_upto_region 1 with (fail)
 generalize (w.setCell ⟨B, 1, none⟩ (.int .i64 ((st.i : Int) + 1))) = W at *
 go_wp2_with (fail)
 go_loopw [8] (fun jv wr => jv = .int .i64 0 ∧ W = wr) (fun jv _ => 0)
 case atStart => exact ⟨rfl, by first | rfl | trivial⟩
 case round =>
  obtain ⟨rfl, rfl⟩ := hrel
  go_wp2_with (fail)
  go_end0
  have h2 := H1.out.setI (st.i + 1 + 1)
  rw [E2.out] at h2
  exact ⟨rfl, h2, HP1.out.trans (pstep_set (.inl rfl) 1 _)⟩
set_option maxRecDepth 8000 in
set_option maxHeartbeats 4000000 in
theorem pentries_err {w : World} {B : Nat} {k : RK} {vn vs : Value} {ncs : List Value} {lab : Nat → Option Nat} {st : RSt} (h : RM w B k vn vs ncs lab st) (he : st.err ≠ 0) (hi : st.i ≤ 1000000) (n at_ d : Int) :
  Calls Tryz.prog 32 #[.pointer (some ⟨B, 0, none⟩), .int .i64 n, .int .i64 at_, .int .i64 d] w (fun e w' => e = .returned (.tuple #[]) ∧ RM w' B k vn vs ncs lab { st with i := st.i + 2 } ∧ PStep w w' (RF B vn vs lab) (RF B vn vs lab)) := by
 have c1 : w.cell? ⟨B, 1, none⟩ = some (.int .i64 (st.i : Int)) := h.c1
 have f1 := h.f 1
 have h1 := h.setI (st.i + 1)
 have e1 : ((st.i + 1 : Nat) : Int) = (st.i : Int) + 1 := by omega
 have e2 : ((st.i + 1 + 1 : Nat) : Int) = (st.i : Int) + 1 + 1 := by omega
 rw [e1] at h1
 have hP1 : PStep w (w.setCell ⟨B, 1, none⟩ (.int .i64 ((st.i : Int) + 1))) (RF B vn vs lab) (RF B vn vs lab) := pstep_set (.inl rfl) 1 _
 have H1 := Lib.hid h1
 have HP1 := Lib.hid hP1
 have E2 := Lib.hid e2
 have hlt := h.lt
 have he' : ((st.err : Int) == 0) = false := by simp; omega
 have k8 : (w.setCell ⟨B, 1, none⟩ (.int .i64 ((st.i : Int) + 1))).cell? ⟨B, 8, none⟩ = some (.int .i64 (st.err : Int)) := h1.c8
 have k1 : (w.setCell ⟨B, 1, none⟩ (.int .i64 ((st.i : Int) + 1))).cell? ⟨B, 1, none⟩ = some (.int .i64 ((st.i : Int) + 1)) := by have := h1.c1; rw [show ((parC k vn vs { st with i := st.i + 1 })[1]) = Value.int .i64 ((st.i + 1 : Nat) : Int) from rfl, e1] at this; exact this
 have q1 : (w.setCell ⟨B, 1, none⟩ (.int .i64 ((st.i : Int) + 1))).frozen? ⟨B, 1, none⟩ = false := h1.f 1
 clear h1 hP1 e1 e2 h he
 go_enter Tryz.func32, Tryz.ntmps32
 go_upto_region 1 with (fail)
 generalize (w.setCell ⟨B, 1, none⟩ (.int .i64 ((st.i : Int) + 1))) = W at *
 go_wp2_with (fail)
 go_loopw [8] (fun jv wr => jv = .int .i64 0 ∧ W = wr) (fun jv _ => 0)
 case atStart => exact ⟨rfl, by first | rfl | trivial⟩
 case round =>
  obtain ⟨rfl, rfl⟩ := hrel
  go_wp2_with (fail)
  go_end0
  have h2 := H1.out.setI (st.i + 1 + 1)
  rw [E2.out] at h2
  exact ⟨rfl, h2, HP1.out.trans (pstep_set (.inl rfl) 1 _)⟩
end Go.Proofs.YtbdnamcjhndpjaaGreatDoor
namespace Go.Proofs.YtbdnamcjhndpjaaGreatDoor
open Go.RowKit
theorem rits_close {en g k d n1 s1 : Nat} {obj : Bool} {x : RLoop} (h : isV x.l (if obj then [125] else [93]) = true) : ritemsV en (g + 1) obj k d n1 s1 x = .ok x := by
 rw [ritemsV, if_pos h]
theorem rits_comma {en g k d n1 s1 : Nat} {obj : Bool} {x : RLoop} (h : ¬ isV x.l (if obj then [125] else [93]) = true) (hj : x.items.length ≠ 0) (h2 : ¬ isV x.l [44] = true) : ritemsV en (g + 1) obj k d n1 s1 x = .error (offV en x.l, 4) := by
 rw [ritemsV, if_neg h]
 unfold rcommaV
 rw [if_neg hj, if_neg h2]
theorem rits_go {en g k d n1 s1 : Nat} {x : RLoop} (h : ¬ isV x.l [93] = true) (hj : x.items.length = 0 ∨ isV x.l [44] = true) :
  ritemsV en (g + 1) false k d n1 s1 x = match rvalV en g (if x.items.length = 0 then x.l else x.l.drop 1) (n1 + x.dn.length) (s1 + x.ds.length) ⟨0, k, x.items.length, 0, 0, 0, 0, false, false⟩ (d + 1) with
   | .error e => .error e
   | .ok p => ritemsV en g false k d n1 s1 ⟨p.1, x.dn ++ p.2.1, x.ds ++ p.2.2, x.ks, x.keys, x.items ++ [((n1 + x.dn.length : Nat) : Int)]⟩ := by
 rw [ritemsV]
 simp only [Bool.false_eq_true, if_false]
 rw [if_neg h]
 unfold rcommaV
 by_cases h0 : x.items.length = 0
 ·rw [if_pos h0, if_pos h0]
  simp only
  cases rvalV en g x.l (n1 + x.dn.length) (s1 + x.ds.length) ⟨0, k, x.items.length, 0, 0, 0, 0, false, false⟩ (d + 1) with
  | error e => rfl
  | ok p => rfl
 ·have h1 : isV x.l [44] = true := by rcases hj with e | e; exact absurd e h0; exact e
  rw [if_neg h0, if_neg h0, if_pos h1]
  simp only
  cases rvalV en g (x.l.drop 1) (n1 + x.dn.length) (s1 + x.ds.length) ⟨0, k, x.items.length, 0, 0, 0, 0, false, false⟩ (d + 1) with
  | error e => rfl
  | ok p => rfl
theorem KeysOK.mono {st st' : RSt} {nd nd' : GNode} {ks : List (List Nat)} (h : KeysOK st nd ks) (hk : nd'.keys = nd.keys) (hn : ∀ (m : Nat) (y : GNode), st.nodes[m]? = some y → ∃ y', st'.nodes[m]? = some y' ∧ y'.text = y.text) : KeysOK st' nd' ks := by
 unfold KeysOK
 rw [hk]
 refine ⟨h.1, fun j x hx => ?_⟩
 obtain ⟨m, y, e1, e2, e3, e4⟩ := h.2 j x hx
 obtain ⟨y', e5, e6⟩ := hn m y e2
 exact ⟨m, y', e1, e5, by rw [e6]; exact e3, by rw [e6]; exact e4⟩
section
variable {k : RK} {N : List GNode} {S : List JSpan} {kd : Int} {s : JSpan} {x : RLoop} {st1 st2 : RSt}
theorem isV_lt {k : RK} {i : Nat} {c : List Nat} (h : isV (leftA k i) c = true) : i < k.ts.length := by
 unfold leftA at h
 by_cases hl : i < k.ts.length
 ·exact hl
 ·rw [List.drop_eq_nil_of_le (by omega)] at h; cases h
theorem RAt.comma (h : RAt k N S kd s x st1) {c : List Nat} (hc : isV (leftA k st1.i) c = true) : RAt k N S kd s { x with l := x.l.drop 1 } { st1 with i := st1.i + 1 } := by
 have hi := isV_lt hc
 refine ⟨h.err, h.nod, h.spn, ?_, hi, h.nl, h.sl, ?_, ?_, h.ks⟩
 ·show leftA k (st1.i + 1) = x.l.drop 1
  rw [← h.left]; unfold leftA; rw [List.drop_drop]
 ·have := h.kl; show _ ≤ st1.i + 1; exact Nat.le_succ_of_le this
 ·have := h.il; show _ ≤ st1.i + 1; exact Nat.le_succ_of_le this
theorem mid_get {α : Type} (N : List α) (y : α) (D : List α) : (N ++ y :: D)[N.length]? = some y := by
 rw [List.getElem?_append_right (Nat.le_refl _), Nat.sub_self]; rfl
theorem mid_set {α : Type} (N : List α) (y z : α) (D : List α) : (N ++ y :: D).set N.length z = N ++ z :: D := by
 rw [List.set_append_right _ _ (Nat.le_refl _), Nat.sub_self]; rfl
theorem RAt.getN (h : RAt k N S kd s x st1) : st1.nodes[N.length]? = some ⟨kd, [], false, x.keys, x.items⟩ := by rw [h.nod]; exact mid_get _ _ _
theorem RAt.ok (h : RAt k N S kd s x st1) {p : List JTok × List GNode × List JSpan} (h2 : ROk k st1.nodes st1.spans st1.i p st2) :
  st2.nodes[N.length]? = some ⟨kd, [], false, x.keys, x.items⟩ ∧
  RAt k N S kd s ⟨p.1, x.dn ++ p.2.1, x.ds ++ p.2.2, x.ks, x.keys, x.items ++ [(st1.nodes.length : Int)]⟩ { st2 with nodes := st2.nodes.set N.length ⟨kd, [], false, x.keys, x.items ++ [(st1.nodes.length : Int)]⟩ } := by
 have hn : st2.nodes = N ++ ⟨kd, [], false, x.keys, x.items⟩ :: (x.dn ++ p.2.1) := by rw [h2.nod, h.nod]; simp
 have hil := h.il
 have hkl := h.kl
 have hlt := h2.lt
 refine ⟨by rw [hn]; exact mid_get _ _ _, h2.err, ?_, ?_, h2.left, h2.i, ?_, ?_, ?_, ?_, ?_⟩
 ·show st2.nodes.set _ _ = _
  rw [hn, mid_set]
 ·show st2.spans = _
  rw [h2.spn, h.spn]; simp
 ·show (st2.nodes.set _ _).length ≤ 4096
  rw [List.length_set]; exact h2.nl
 ·show st2.spans.length ≤ (st2.nodes.set _ _).length
  rw [List.length_set]; exact h2.sl
 ·show x.keys.length ≤ st2.i
  omega
 ·show (x.items ++ [_]).length ≤ st2.i
  rw [List.length_append, List.length_singleton]; omega
 ·refine h.ks.mono rfl (fun m y hy => ?_)
  have hy2 : st2.nodes[m]? = some y := by
   rw [h2.nod, List.getElem?_append_left (List.getElem?_eq_some_iff.1 hy).1]; exact hy
  show ∃ y', (st2.nodes.set _ _)[m]? = some y' ∧ _
  by_cases e : N.length = m
  ·subst e
   rw [List.getElem?_set_self (List.getElem?_eq_some_iff.1 hy2).1]
   refine ⟨_, rfl, ?_⟩
   have := h.getN
   rw [this] at hy
   obtain rfl := Option.some.inj hy
   rfl
  ·rw [List.getElem?_set_ne e]
   exact ⟨y, hy2, rfl⟩
theorem RAt.fl (h : RAt k N S kd s x st1) {d : Nat} {q : PErr} (h2 : RFl k st1.nodes st1.spans d q st2) :
  st2.nodes[N.length]? = some ⟨kd, [], false, x.keys, x.items⟩ ∧ ∀ nd, RFl k N S d q { st2 with nodes := st2.nodes.set N.length nd } := by
 obtain ⟨D, hD⟩ := h2.nod
 obtain ⟨D2, hD2⟩ := h2.spn
 have hn : st2.nodes = N ++ ⟨kd, [], false, x.keys, x.items⟩ :: (x.dn ++ D) := by rw [hD, h.nod]; simp
 refine ⟨by rw [hn]; exact mid_get _ _ _, fun nd => ⟨h2.err, h2.ne, h2.at_, ⟨nd :: (x.dn ++ D), ?_⟩, ⟨s :: (x.ds ++ D2), ?_⟩, ?_, h2.sl, h2.i⟩⟩
 ·show st2.nodes.set _ _ = _
  rw [hn, mid_set]
 ·show st2.spans = _
  rw [hD2, h.spn]; simp
 ·show (st2.nodes.set _ _).length ≤ 5000
  rw [List.length_set]; exact h2.nl
theorem RAt.lens (h : RAt k N S kd s x st1) : st1.nodes.length = N.length + 1 + x.dn.length ∧ st1.spans.length = S.length + 1 + x.ds.length := by
 rw [h.nod, h.spn]; simp; omega
theorem RAt.must (h : RAt k N S kd s x st1) {c : List Nat} (hc : ¬ isV (leftA k st1.i) c = true) {d : Nat} (hd : d ≤ 33) : RFl k N S d (offV k.s.length x.l, 4) (mustS k st1 c) := by
 have e : mustS k st1 c = { st1 with err := 4, at_ := offV k.s.length (leftA k st1.i), i := st1.i + 1 } := by
  unfold mustS failS
  rw [if_neg hc, if_pos h.err]
 rw [e, h.left]
 refine ⟨rfl, (by show (4 : Nat) ≠ 0; decide), rfl, ⟨_, h.nod⟩, ⟨_, h.spn⟩, ?_, ?_, ?_⟩
 ·have := h.nl; show st1.nodes.length ≤ 5000; omega
 ·have := h.nl; have := h.sl; show st1.spans.length ≤ 5000; omega
 ·have := h.i; show st1.i + 1 ≤ _; omega
theorem list_next {g d : Nat} {R : Except PErr RLoop} (h1 : RAt k N S kd s { x with l := if x.items.length = 0 then x.l else x.l.drop 1 } st1) (hc : ¬ isV x.l [93] = true) (hj : x.items.length = 0 ∨ isV x.l [44] = true)
  (hR : ritemsV k.s.length (g + 1) false S.length d (N.length + 1) (S.length + 1) x = R) :
  R = match rvalV k.s.length g (leftA k st1.i) st1.nodes.length st1.spans.length ⟨0, (S.length : Int), (x.items.length : Int), 0, 0, 0, 0, false, false⟩ (d + 1) with
   | .error e => .error e
   | .ok p => ritemsV k.s.length g false S.length d (N.length + 1) (S.length + 1) ⟨p.1, x.dn ++ p.2.1, x.ds ++ p.2.2, x.ks, x.keys, x.items ++ [(st1.nodes.length : Int)]⟩ := by
 have hl := h1.lens
 rw [h1.left, hl.1, hl.2, ← hR, rits_go hc hj]
end
end Go.Proofs.YtbdnamcjhndpjaaGreatDoor
