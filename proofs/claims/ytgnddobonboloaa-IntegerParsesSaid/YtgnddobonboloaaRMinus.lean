/- The walks of minus and Scale of the reference. -/
import Derived.Test.YtgnddobonboloaaMinus
import Derived.Test.YtgnddobonboloaaBase2
namespace Go.Proofs.Ytgnddobonboloaa
open Go.RowKit

set_option maxHeartbeats 4000000 in
theorem rminus_nn (A B : Option Addr) (n c n' c' p q : Nat) (w : World) (hn : Hid (n = (dg p).length)) (hn' : Hid (n' = (dg q).length)) (hr : Rd w A (B8 (dg p))) (hr' : Rd w B (B8 (dg q)))
    (hm : n ≤ 4294967296) (hle : q ≤ p) :
    Calls Try.prog 59 #[.slice A n c, .slice B n' c'] w (RetSN w (B8 (dg (p - q)))) := by
  have hlen : n' ≤ n := by have := dg_len_mono hle; have := hn.out; have := hn'.out; omega
  have ht := ten_dg p
  have ht' := ten_dg q
  have hv := val_dg p
  have hv' := val_dg q
  have hsum := val_subc (dg p) (dg q) 0 (by have := hn.out; have := hn'.out; omega) ht ht' (by omega) (by omega)
  have HSUM : Hid (val (subc (dg p) (dg q) 0) = p - q) := by show _ = _; omega
  have hta : Ten (subc (dg p) (dg q) 0) := ten_subc _ _ _ ht ht' (by omega)
  clear hsum hv hv' hle
  generalize dg p = L at *
  generalize dg q = vs at *
  go_enter Try.func59, Try.ntmps59
  go_wp2
  go_loopw [5, 6, 7] (fun ov cv iv wr => ∃ (k q : Nat) (dn : List Nat), k ≤ n ∧ q ≤ 1 ∧ iv = .int .i64 k ∧ cv = .int .i64 q ∧ Hid (dn.length = k) ∧ Hid (dn ++ subc (L.drop k) (vs.drop k) q = subc L vs 0) ∧
      wr.ownsRow w.heap.size 5 1 ov k (B8 dn) ∧ Below w.heap.size w wr) (fun _ _ iv _ => n - (intOf iv).toNat)
  case atStart => exact ⟨0, 0, [], by omega, by omega, rfl, rfl, rfl, rfl, World.ownsRow_nil _ _ _ _, Below.refl _ _⟩
  case round =>
    obtain ⟨k, q, dn, hk, hq, rfl, rfl, hdl, heq, hown, hb⟩ := hrel
    have hlo := hown.lt
    by_cases hlt : k < n
    · obtain ⟨x, hx⟩ : ∃ x, L[k]? = some x := ⟨_, List.getElem?_eq_getElem (by have := hn.out; omega)⟩
      have hx10 := ht.get hx
      obtain ⟨ad, rfl, hcx⟩ := hr.at_ (B8_get hx)
      have hcell := (hb.cell (block_lt_of_cell hcx)).trans hcx
      clear hcx
      by_cases hks : k < n'
      · obtain ⟨y, hy⟩ : ∃ y, vs[k]? = some y := ⟨_, List.getElem?_eq_getElem (by have := hn'.out; omega)⟩
        have hy10 := ht'.get hy
        obtain ⟨ad', rfl, hcy⟩ := hr'.at_ (B8_get hy)
        have hcy' := (hb.cell (block_lt_of_cell hcy)).trans hcy
        have HST := subc_step heq hx (headD_drop hy)
        clear hx hy hcy heq
        by_cases hneg : x < y + q
        · have e1 : sdig x y q = x+10-(y+q) := by unfold sdig; rw [if_pos hneg]
          have e2 : sbor x y q = 1 := by unfold sbor; rw [if_pos hneg]
          have hcast : ((x+10-(y+q) : Nat) : Int) = (↑x-↑q-↑y+10 : Int) := by omega
          have HCA := Lib.hid hcast
          rw [e1, e2] at HST
          have hneg' : (x : Int) - (q : Int) - (y : Int) < 0 := by omega
          clear hcast e1 e2
          go_wp2_with (at_builtin; go_loud (refine wpList_ap1 rfl (.tmp 37) (.tmp 40) 26 rfl w.heap.size 5 _ _ Try.underlying26 Try.info5 rfl _ (k) (B8 dn) rfl (hown.alloc _) ⟨wr.heap.size, 0, none⟩ _ (.int .u8 (↑x-↑q-↑y+10)) rfl (cell_new _ _ _) rfl (by unfold maxLen; omega) (by omega) (by have := hb.size; simp; omega) ?_; intro v' w3 hown3 hgr3))
          go_roundw
          case rel => exact ⟨k + 1, 1, _, by omega, by omega, by go_num, rfl, by show _ = _; have := hdl.out; simp [this], HST, by rw [B8_append]; have h3 := hown3; rw [← HCA.out] at h3; exact h3, (hb.alloc hb.size _).grown hgr3 (by have := hb.size; simp; omega) (fun k e => (hlo k e).1)⟩
          case measure => simp [intOf]; omega
        · have e1 : sdig x y q = x-(y+q) := by unfold sdig; rw [if_neg hneg]
          have e2 : sbor x y q = 0 := by unfold sbor; rw [if_neg hneg]
          have hcast : ((x-(y+q) : Nat) : Int) = (↑x-↑q-↑y : Int) := by omega
          have HCA := Lib.hid hcast
          rw [e1, e2] at HST
          have hneg' : ¬ (x : Int) - (q : Int) - (y : Int) < 0 := by omega
          clear hcast e1 e2
          go_wp2_with (at_builtin; go_loud (refine wpList_ap1 rfl (.tmp 37) (.tmp 40) 26 rfl w.heap.size 5 _ _ Try.underlying26 Try.info5 rfl _ (k) (B8 dn) rfl (hown.alloc _) ⟨wr.heap.size, 0, none⟩ _ (.int .u8 (↑x-↑q-↑y)) rfl (cell_new _ _ _) rfl (by unfold maxLen; omega) (by omega) (by have := hb.size; simp; omega) ?_; intro v' w3 hown3 hgr3))
          go_roundw
          case rel => exact ⟨k + 1, 0, _, by omega, by omega, by go_num, rfl, by show _ = _; have := hdl.out; simp [this], HST, by rw [B8_append]; have h3 := hown3; rw [← HCA.out] at h3; exact h3, (hb.alloc hb.size _).grown hgr3 (by have := hb.size; simp; omega) (fun k e => (hlo k e).1)⟩
          case measure => simp [intOf]; omega
      · have HST := subc_step (y := 0) heq hx (headD_drop_none (by have := hn'.out; omega))
        clear hx heq
        by_cases hneg : x < 0 + q
        · have e1 : sdig x 0 q = x+10-(0+q) := by unfold sdig; rw [if_pos hneg]
          have e2 : sbor x 0 q = 1 := by unfold sbor; rw [if_pos hneg]
          have hcast : ((x+10-(0+q) : Nat) : Int) = (↑x-↑q+10 : Int) := by omega
          have HCA := Lib.hid hcast
          rw [e1, e2] at HST
          have hneg' : (x : Int) - (q : Int) < 0 := by omega
          clear hcast e1 e2
          go_wp2_with (at_builtin; go_loud (refine wpList_ap1 rfl (.tmp 37) (.tmp 40) 26 rfl w.heap.size 5 _ _ Try.underlying26 Try.info5 rfl _ (k) (B8 dn) rfl (hown.alloc _) ⟨wr.heap.size, 0, none⟩ _ (.int .u8 (↑x-↑q+10)) rfl (cell_new _ _ _) rfl (by unfold maxLen; omega) (by omega) (by have := hb.size; simp; omega) ?_; intro v' w3 hown3 hgr3))
          go_roundw
          case rel => exact ⟨k + 1, 1, _, by omega, by omega, by go_num, rfl, by show _ = _; have := hdl.out; simp [this], HST, by rw [B8_append]; have h3 := hown3; rw [← HCA.out] at h3; exact h3, (hb.alloc hb.size _).grown hgr3 (by have := hb.size; simp; omega) (fun k e => (hlo k e).1)⟩
          case measure => simp [intOf]; omega
        · have e1 : sdig x 0 q = x-(0+q) := by unfold sdig; rw [if_neg hneg]
          have e2 : sbor x 0 q = 0 := by unfold sbor; rw [if_neg hneg]
          have hcast : ((x-(0+q) : Nat) : Int) = (↑x-↑q : Int) := by omega
          have HCA := Lib.hid hcast
          rw [e1, e2] at HST
          have hneg' : ¬ (x : Int) - (q : Int) < 0 := by omega
          clear hcast e1 e2
          go_wp2_with (at_builtin; go_loud (refine wpList_ap1 rfl (.tmp 37) (.tmp 40) 26 rfl w.heap.size 5 _ _ Try.underlying26 Try.info5 rfl _ (k) (B8 dn) rfl (hown.alloc _) ⟨wr.heap.size, 0, none⟩ _ (.int .u8 (↑x-↑q)) rfl (cell_new _ _ _) rfl (by unfold maxLen; omega) (by omega) (by have := hb.size; simp; omega) ?_; intro v' w3 hown3 hgr3))
          go_roundw
          case rel => exact ⟨k + 1, 0, _, by omega, by omega, by go_num, rfl, by show _ = _; have := hdl.out; simp [this], HST, by rw [B8_append]; have h3 := hown3; rw [← HCA.out] at h3; exact h3, (hb.alloc hb.size _).grown hgr3 (by have := hb.size; simp; omega) (fun k e => (hlo k e).1)⟩
          case measure => simp [intOf]; omega
    · obtain rfl : k = n := by omega
      have hdr : L.drop k = [] := List.drop_eq_nil_of_le (by have := hn.out; omega)
      have HD : Hid (dn = subc L vs 0) := by
        have h1 := heq.out
        rw [hdr] at h1
        show _ = _
        simpa [subc] using h1
      obtain ⟨A', c3, rfl, hl3, hc3, _, hrd, hfr, hnn⟩ := own_rd2 hown
      have htd : Ten dn := by rw [HD.out]; exact hta
      clear hdr heq
      go_wp2_with (go_at_call 49; go_loud (refine (rtrim_any _ _ _ dn _ (show Hid (_ = _) from hdl.out.symm) hrd htd hc3 (by unfold maxLen; omega)).mono ?_; rintro e w' ⟨kk, rfl, hkk, hkn, hrr, rfl⟩))
      go_ret
      refine retSN_eq (xs := B8 (dg (val dn))) ⟨A', kk, c3, rfl, ?_, by have := hdl.out; omega, hrr, hfr, hb, hnn⟩ (by rw [HD.out, HSUM.out])
      show _ = _; rw [length_B8]; exact hkk.out

theorem rminus_any (A B : Option Addr) (n c n' c' p q : Nat) (w : World) (hn : Hid (n = (dg p).length)) (hn' : Hid (n' = (dg q).length)) (hr : Rd w A (B8 (dg p))) (hr' : Rd w B (B8 (dg q)))
    (hm : n ≤ 4294967296) (hle : q ≤ p) :
    Calls Try.prog 59 #[.slice A n c, .slice B n' c'] w (RetS w (B8 (dg (p - q)))) :=
  (rminus_nn A B n c n' c' p q w hn hn' hr hr' hm hle).mono fun _ _ h => h.retS

set_option maxHeartbeats 4000000 in
theorem scale_any (A : Option Addr) (n c m : Nat) (by_ more : Int) (w : World) (hn : Hid (n = (dg m).length)) (hr : Rd w A (B8 (dg m))) (hm : n ≤ 4294967296)
    (h1 : 1 ≤ by_) (h2 : by_ ≤ 256) (h3 : 0 ≤ more) (h4 : more ≤ 1000) :
    Calls Try.prog 45 #[.slice A n c, .int .i64 by_, .int .i64 more] w (RetS w (B8 (dg (m * by_.toNat + more.toNat)))) := by
  obtain ⟨b, rfl⟩ := Int.eq_ofNat_of_zero_le (show 0 ≤ by_ by omega)
  obtain ⟨mo, rfl⟩ := Int.eq_ofNat_of_zero_le h3
  have ht : Ten (dg m) := ten_dg m
  rw [Int.toNat_natCast, Int.toNat_natCast]
  have hvs := val_sml b (dg m) mo
  rw [val_dg] at hvs
  have HVS := Lib.hid hvs
  have hts := ten_sml b (dg m) mo
  clear hvs
  generalize dg m = ds at *
  go_enter Try.func45, Try.ntmps45
  go_wp2
  go_loopw [7, 8, 2] (fun ov iv cv wr => ∃ (k c : Nat) (dn : List Nat), k ≤ n + 4 ∧ c ≤ 1000 ∧ iv = .int .i64 k ∧ cv = .int .i64 c ∧ Hid (dn.length = k) ∧ Hid (dn ++ sml b (ds.drop k) c = sml b ds mo) ∧ Hid (n ≤ k → (dg c).length + k ≤ n + 4) ∧
      wr.ownsRow w.heap.size 5 1 ov k (B8 dn) ∧ Below w.heap.size w wr) (fun _ iv _ _ => n + 4 - (intOf iv).toNat)
  case atStart => exact ⟨0, mo, [], by omega, by omega, rfl, rfl, rfl, rfl, fun h => by have : (dg mo).length ≤ 4 := dg_len_le.2 (by omega); omega, World.ownsRow_nil _ _ _ _, Below.refl _ _⟩
  case round =>
    obtain ⟨k, q, dn, hk, hq, rfl, rfl, hdl, heq, hlen, hown, hb⟩ := hrel
    have hlo := hown.lt
    by_cases hlt : k < n
    · obtain ⟨x, hx⟩ : ∃ x, ds[k]? = some x := ⟨_, List.getElem?_eq_getElem (by have := hn.out; omega)⟩
      have hx10 := ht.get hx
      obtain ⟨ad, rfl, hcx⟩ := hr.at_ (B8_get hx)
      have hcell := (hb.cell (block_lt_of_cell hcx)).trans hcx
      have HST : Hid (dn ++ [(q + x * b) % 10] ++ sml b (ds.drop (k + 1)) ((q + x * b) / 10) = sml b ds mo) := by
        show _ = _
        rw [← heq.out, dropc hx]; simp [sml]
      have hmul : 0 ≤ (b : Int) * (x : Int) := Int.mul_nonneg (by omega) (by omega)
      have hmul2 : (b : Int) * (x : Int) ≤ 256 * 9 := Int.mul_le_mul h2 (by omega) (by omega) (by omega)
      have hxb : x * b ≤ 9 * 256 := Nat.mul_le_mul (by omega) (by omega)
      have HC1 : Hid ((((q + x * b) % 10 : Nat) : Int) = ((q : Int) + (b : Int) * (x : Int)) % 10) := by show _ = _; rw [Nat.mul_comm]; omega
      have HC2 : Hid ((((q + x * b) / 10 : Nat) : Int) = ((q : Int) + (b : Int) * (x : Int)) / 10) := by show _ = _; rw [Nat.mul_comm]; omega
      have hq2 : (q + x * b) / 10 ≤ 1000 := by omega
      clear hx hcx heq
      go_wp2_with (at_builtin; go_loud (refine wpList_ap1 rfl (.tmp 32) (.tmp 36) 26 rfl w.heap.size 5 _ _ Try.underlying26 Try.info5 rfl _ (k) (B8 dn) rfl (hown.alloc _) ⟨wr.heap.size, 0, none⟩ _ (.int .u8 (((q : Int) + (b : Int) * (x : Int)) % 10)) rfl (cell_new _ _ _) rfl (by unfold maxLen; omega) (by omega) (by have := hb.size; simp; omega) ?_; intro v' w3 hown3 hgr3))
      go_roundw
      case rel => exact ⟨k + 1, (q + x * b) / 10, _, by omega, hq2, by go_num, i64e HC2.out.symm, by show _ = _; have := hdl.out; simp [this], HST, fun h => by have : (dg ((q + x * b) / 10)).length ≤ 3 := dg_len_le.2 (by omega); omega, by rw [B8_append]; have h3 := hown3; rw [← HC1.out] at h3; exact h3, (hb.alloc hb.size _).grown hgr3 (by have := hb.size; simp; omega) (fun k e => (hlo k e).1)⟩
      case measure => simp [intOf]; omega
    · have hl4 := hlen.out (by omega)
      have hdr : ds.drop k = [] := List.drop_eq_nil_of_le (by have := hn.out; omega)
      have hdr2 : ds.drop (k + 1) = [] := List.drop_eq_nil_of_le (by have := hn.out; omega)
      have heq2 : Hid (dn ++ dg q = sml b ds mo) := by
        have h1 := heq.out
        rw [hdr] at h1
        exact h1
      by_cases hq0 : q = 0
      · subst hq0
        have HD : Hid (dn = sml b ds mo) := by
          have h1 := heq2.out
          rw [dg_zero, List.append_nil] at h1
          exact h1
        obtain ⟨A', c3, rfl, hl3, hc3, _, hrd, hfr⟩ := own_rd hown
        have htd : Ten dn := by rw [HD.out]; exact hts
        clear hdr hdr2 heq heq2
        go_wp2_with (go_at_call 49; go_loud (refine (rtrim_any _ _ _ dn _ (show Hid (_ = _) from hdl.out.symm) hrd htd hc3 (by unfold maxLen; omega)).mono ?_; rintro e w' ⟨kk, rfl, hkk, hkn, hrr, rfl⟩))
        go_ret
        refine retS_eq (xs := B8 (dg (val dn))) ⟨A', kk, c3, rfl, ?_, by have := hdl.out; omega, hrr, hfr, hb⟩ (by rw [HD.out, HVS.out])
        show _ = _; rw [length_B8]; exact hkk.out
      · have hq1 : 0 < q := by omega
        have hdg := dg_pos hq0
        have hl5 : (dg q).length = (dg (q / 10)).length + 1 := by rw [hdg]; rfl
        have HST : Hid (dn ++ [q % 10] ++ sml b (ds.drop (k + 1)) (q / 10) = sml b ds mo) := by
          show _ = _
          rw [← heq2.out, hdr2, hdg]; simp [sml]
        clear hdr hdr2 heq heq2 hdg
        have hl6 : (dg (q / 10)).length + (k + 1) ≤ n + 4 := by omega
        have HL6 := Lib.hid hl6
        have hk4 : k + 1 ≤ n + 4 := by omega
        clear hl5 hl6 hl4
        go_wp2_with (at_builtin; go_loud (refine wpList_ap1 rfl (.tmp 32) (.tmp 36) 26 rfl w.heap.size 5 _ _ Try.underlying26 Try.info5 rfl _ (k) (B8 dn) rfl (hown.alloc _) ⟨wr.heap.size, 0, none⟩ _ (.int .u8 ((q : Int) % 10)) rfl (cell_new _ _ _) rfl (by unfold maxLen; omega) (by omega) (by have := hb.size; simp; omega) ?_; intro v' w3 hown3 hgr3))
        go_roundw
        case rel => exact ⟨k + 1, q / 10, _, by omega, by omega, by go_num, i64e (by omega), by show _ = _; have := hdl.out; simp [this], HST, fun _ => HL6.out, by rw [B8_append]; exact hown3, (hb.alloc hb.size _).grown hgr3 (by have := hb.size; simp; omega) (fun k e => (hlo k e).1)⟩
        case measure => simp [intOf]; omega
end Go.Proofs.Ytgnddobonboloaa
