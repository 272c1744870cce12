/- The reference's Mul. -/
import Derived.Test.YtgnddobonboloaaRAdd
import Derived.Test.YtgnddobonboloaaMul
namespace Go.Proofs.Ytgnddobonboloaa
open Go.RowKit

set_option maxHeartbeats 8000000 in
theorem rmul_any (b b' : Bool) (A A' : Option Addr) (n n' c c' x2 y2 : Nat) (w : World) (hn : Hid (n = (dg x2).length)) (hn' : Hid (n' = (dg y2).length)) (hrW0 : Rd w A (B8 (dg x2))) (hrW0' : Rd w A' (B8 (dg y2)))
    (hn4 : n ≤ 400) (hn4' : n' ≤ 400) :
    Calls Try.prog 27 #[.agg #[.bool b, .slice A n c], .agg #[.bool b', .slice A' n' c']] w (RI w (mulN (b, x2) (b', y2))) := by
  obtain ⟨z, hz⟩ : ∃ z, z = mulN (b, x2) (b', y2) := ⟨_, rfl⟩
  rw [← hz]
  have HS := Lib.hid hz
  clear hz
  obtain ⟨HX, HY, HR, HB, HZ⟩ := three_box w 28 28 28 [.bool b, .slice A n c] [.bool b', .slice A' n' c'] [.bool false, .slice none 0 0]
  have hrW := hrW0.keep HB
  have hrW' := hrW0'.keep HB
  clear hrW0 hrW0'
  go_enter Try.func27, Try.ntmps27
  go_upto_region 1 with (fail)
  generalize (((w.alloc (.cells #[.bool b, .slice A n c] 28)).alloc (.cells #[.bool b', .slice A' n' c'] 28)).alloc (.cells #[.bool false, .slice none 0 0] 28)) = W at *
  have HMLT := Lib.hid (mul_lt hn.out hn'.out)
  have hv := Lib.hid (val_dg x2)
  have hv' := Lib.hid (val_dg y2)
  have ht := ten_dg x2
  have ht' := ten_dg y2
  generalize dg x2 = us at *
  generalize dg y2 = vs at *
  have x0 := HX.out.cell' (i := 0) rfl
  have x1' := HX.out.cell' (i := 1) rfl
  have y0 := HY.out.cell' (i := 0) rfl
  have y1' := HY.out.cell' (i := 1) rfl
  go_wp2_with (at_make; go_loud (refine wpList_mk rfl _ _ 76 rfl 3 _ _ Try.underlying76 Try.info3 rfl _ _ _ _ rfl rfl (n + n' + 1) (n + n' + 1) (by omega) (by omega) (by omega) (by omega) (by unfold maxLen; omega) ?_; intro g w2 hg harr hbl hsz; have x12 := (HX.out.keep hbl).cell' (i := 1) rfl; have y12 := (HY.out.keep hbl).cell' (i := 1) rfl))
  have hcs : Hid (Arr w2 g 3 (IN (List.replicate (n + n' + 1) 0))) := by
    have h := harr.out
    show Arr _ _ _ _
    unfold IN
    rwa [List.map_replicate]
  have HGW := hg
  clear harr hg x12 y12 x1' y1'
  go_loopw [6] (fun iv wr => ∃ (i : Nat) (acc : List Nat), i ≤ n ∧ iv = .int .i64 i ∧ Hid (acc.length = n + n' + 1) ∧ Hid (vali acc = val (us.take i) * val vs) ∧ Bdd acc i 0 ∧ Hid (Arr wr g 3 (IN acc)) ∧ Below W.heap.size W wr)
    (fun iv _ => n - (intOf iv).toNat)
  case atStart => exact ⟨0, List.replicate (n + n' + 1) 0, by omega, rfl, by show _ = _; simp, by show _ = _; rw [vali_zero]; simp [val], (by intro j e he; rw [List.getElem?_replicate] at he; split at he <;> simp at he; omega), hcs, hbl⟩
  case round =>
    clear hcs hbl
    obtain ⟨i, acc, hi, rfl, hal, hav, hab, ha, hb⟩ := hrel
    have x1' := (HX.out.keep hb).cell' (i := 1) rfl
    have y1' := (HY.out.keep hb).cell' (i := 1) rfl
    have x0' := (HX.out.keep hb).cell' (i := 0) rfl
    have y0' := (HY.out.keep hb).cell' (i := 0) rfl
    by_cases hlt : i < n
    · obtain ⟨x, hx⟩ : ∃ x, us[i]? = some x := ⟨_, List.getElem?_eq_getElem (by have := hn.out; omega)⟩
      have hx10 := ht.get hx
      obtain ⟨ad, rfl, hcx⟩ := hrW.at_ (B8_get hx)
      have HXI := Lib.hid hx
      clear hx
      go_wp2
      go_loopw [7] (fun kv wr => ∃ (k : Nat) (acc : List Nat), k ≤ n' ∧ kv = .int .i64 k ∧ Hid (acc.length = n + n' + 1) ∧ Hid (vali acc = val (us.take i) * val vs + x * 10 ^ i * val (vs.take k)) ∧ Bdd acc i k ∧ Hid (Arr wr g 3 (IN acc)) ∧ Below W.heap.size W wr)
        (fun kv _ => n' - (intOf kv).toNat)
      case atStart => exact ⟨0, acc, by omega, rfl, hal, by show _ = _; rw [hav.out]; simp [val], hab, ha, hb⟩
      case round =>
        clear hal hav hab ha hb x1' y1' x0' y0'
        obtain ⟨k, acc, hk, rfl, hal, hav, hab, ha, hb⟩ := hrel
        have x1' := (HX.out.keep hb).cell' (i := 1) rfl
        have y1' := (HY.out.keep hb).cell' (i := 1) rfl
        by_cases hkl : k < n'
        · obtain ⟨y, hy⟩ : ∃ y, vs[k]? = some y := ⟨_, List.getElem?_eq_getElem (by have := hn'.out; omega)⟩
          have hy10 := ht'.get hy
          obtain ⟨ad', rfl, hcy⟩ := hrW'.at_ (B8_get hy)
          obtain ⟨e, he⟩ : ∃ e, acc[i + k]? = some e := ⟨_, List.getElem?_eq_getElem (by have := hal.out; omega)⟩
          have heb := hab.le he
          have hcx' := (hb.cell (block_lt_of_cell hcx)).trans hcx
          have hcy' := (hb.cell (block_lt_of_cell hcy)).trans hcy
          have hce := ha.out.cell' (IN_get he)
          have hfr := ha.out.frozen (i + k)
          have hxy : x * y ≤ 81 := by have := Nat.mul_le_mul (show x ≤ 9 by omega) (show y ≤ 9 by omega); omega
          have hst := ha.out.store (i + k) (.int .i64 ((e + x * y : Nat) : Int))
          rw [IN_set] at hst
          have hcast : ((e + x * y : Nat) : Int) = (e : Int) + (x : Int) * (y : Int) := by simp
          rw [hcast] at hst
          have HST := Lib.hid hst
          have HV := Lib.hid (mul_step HXI.out hy he hav.out)
          have HBD := hab.step he hxy
          have HAL : Hid ((acc.set (i + k) (e + x * y)).length = n + n' + 1) := by show _ = _; rw [List.length_set]; exact hal.out
          have hxy0 : 0 ≤ (x : Int) * (y : Int) := Int.mul_nonneg (by omega) (by omega)
          have hxy1 : (x : Int) * (y : Int) ≤ 81 := by exact_mod_cast hxy
          have b1 : 0 ≤ (i : Int) + k := by omega
          have b2 : (i : Int) + k < n + n' + 1 := by omega
          have b3 : ((i : Int) + k).toNat = i + k := by omega
          have b4 : (i : Int) < n := by omega
          have b5 : (k : Int) < n' := by omega
          clear hst hcast hy he hcx hcy hab hav hal
          go_wp2
          go_region
          go_wp2
          go_roundw
          case rel => exact ⟨k + 1, _, by omega, by go_num, HAL, HV, HBD, HST, (hb.drew).setCell (by have := HGW.out; show W.heap.size ≤ g; omega) _⟩
          case measure => simp [intOf]; omega
        · obtain rfl : k = n' := by omega
          have hav2 := hav.out
          rw [show k = vs.length from hn'.out] at hav2
          go_wp2
          go_roundw
          case rel => exact ⟨i + 1, acc, by omega, by go_num, hal, mul_row HXI.out hav2, hab.row, ha, hb⟩
          case measure => simp [intOf]; omega
    · obtain rfl : i = n := by omega
      have hava := hav.out
      rw [List.take_of_length_le (by have := hn.out; omega), hv.out, hv'.out] at hava
      have HAV := Lib.hid hava
      have hgl := ha.out.lt
      have hgW := HGW.out
      have hzw := HZ.out
      have hbz := hb.size
      have hg3 : w.heap.size + 3 = g := by omega
      have hgW2 : W.heap.size ≤ g := by omega
      clear hava hav hgW hzw
      go_wp2
      clear x1' y1' x0' y0'
      go_loopw [8, 9, 10] (fun ov cv kv wr => ∃ (k q : Nat) (dn : List Nat), k ≤ i + n' + 1 ∧ q ≤ 4000 ∧ kv = .int .i64 k ∧ cv = .int .i64 q ∧ Hid (dn.length = k) ∧ Hid (dn ++ nrm (acc.drop k) q = nrm acc 0) ∧
          wr.ownsRow (g + 1) 5 1 ov k (B8 dn) ∧ Hid (Arr wr g 3 (IN acc)) ∧ Below W.heap.size W wr) (fun _ _ kv _ => i + n' + 1 - (intOf kv).toNat)
      case atStart => exact ⟨0, 0, [], by omega, by omega, rfl, rfl, rfl, rfl, World.ownsRow_nil _ _ _ _, ha, hb⟩
      case round =>
        clear ha hb hgl
        obtain ⟨k, q, dn, hk, hq, rfl, rfl, hdl, heq, hown, ha, hb⟩ := hrel
        have hgl := ha.out.lt
        have hlo := hown.lt
        by_cases hkl : k < i + n' + 1
        · obtain ⟨e, he⟩ : ∃ e, acc[k]? = some e := ⟨_, List.getElem?_eq_getElem (by have := hal.out; omega)⟩
          have heb := hab.le he
          have hce := ha.out.cell' (IN_get he)
          have hcast : (((q + e) % 10 : Nat) : Int) = ((q : Int) + (e : Int)) % 10 := by omega
          have HC := Lib.hid hcast
          have HN : Hid (dn ++ [(q + e) % 10] ++ nrm (acc.drop (k + 1)) ((q + e) / 10) = nrm acc 0) := by
            have h1 := heq.out
            have hl := List.getElem?_eq_some_iff.1 he
            rw [List.drop_eq_getElem_cons hl.1, hl.2, nrm] at h1
            show _ = _
            rw [← h1]; simp
          clear hcast he heq
          go_wp2_with (at_builtin; go_loud (refine wpList_ap1 rfl (.tmp 67) (.tmp 71) 26 rfl (g + 1) 5 _ _ Try.underlying26 Try.info5 rfl _ (k) (B8 dn) rfl (hown.alloc _) ⟨wr.heap.size, 0, none⟩ _ (.int .u8 (((q : Int) + (e : Int)) % 10)) rfl (cell_new _ _ _) rfl (by unfold maxLen; omega) (by omega) (by have := hb.size; simp; omega) ?_; intro v' w3 hown' hgr3))
          go_roundw
          case rel => exact ⟨k + 1, (q + e) / 10, _, by omega, by omega, by go_num, i64e (by omega), by show _ = _; have := hdl.out; simp [this], HN, by rw [B8_append]; have h3 := hown'; rw [← HC.out] at h3; exact h3, (ha.out.alloc _).grown hgr3 (fun h => by have := hlo g h.symm; omega), (hb.alloc (by have := hb.size; omega) _).grown hgr3 (by have := hb.size; simp; omega) (fun k e => by have := hlo k e; omega)⟩
          case measure => simp [intOf]; omega
        · obtain rfl : k = i + n' + 1 := by omega
          have HD : Hid (dn = nrm acc 0) := by
            have h1 := heq.out
            rw [List.drop_eq_nil_of_le (by have := hal.out; omega)] at h1
            show _ = _
            simpa [nrm] using h1
          have hvd : val dn = x2 * y2 := by
            rw [HD.out, val_nrm_lt (by rw [HAV.out, hal.out]; exact HMLT.out), HAV.out]
          have htd : Ten dn := by rw [HD.out]; exact ten_nrm _ _
          have HVD := Lib.hid hvd
          have hdl' : Hid (i + n' + 1 = dn.length) := by show _ = _; have := hdl.out; omega
          obtain ⟨A3, c3, rfl, hln, hc3, hmx, hrd, hf3⟩ := own_rd hown
          clear hvd heq hdl hln
          have x0' := (HX.out.keep hb).cell' (i := 0) rfl
          have y0' := (HY.out.keep hb).cell' (i := 0) rfl
          have HSG := Lib.hid (fun nb w h => signed_any A3 (i + n' + 1) c3 dn nb w hdl' h htd hc3 (by unfold maxLen; omega))
          have hbz3 := hb.size
          go_wp2_with (go_at_call 46; go_loud (refine (HSG.out _ _ hrd).mono ?_; rintro e w6 ⟨kk, rfl, hk, hkn, hb6⟩; have HR6 := (HR.out.keep (hb.trans (hb6.mono hbz3))); have r0 := HR6.cell' (i := 0) rfl; have r1 := HR6.cell' (i := 1) rfl; have f0 := HR6.frozen 0; have f1 := HR6.frozen 1))
          have hrd2 := rd_trim hrd htd
          rw [HVD.out] at hrd2 hk
          refine bodyPost_ret (v := .agg #[.bool (!b == b' && decide (0 < val dn)), .slice A3 kk c3]) (by simp [results, Try.results27, go_sem, r0, r1]) rfl ?_
          rw [HS.out]
          exact ri_end (x := mulN (b, x2) (b', y2)) (by show _ = _; rw [HVD.out]; unfold mulN; cases b <;> cases b' <;> rfl) hk (by omega) (hrd2.keep hb6) (fun ad e => by have := hf3 ad e; omega) ((HB.trans (hb.mono HB.size)).trans (hb6.mono (by have := HB.size; omega))) (by omega)
end Go.Proofs.Ytgnddobonboloaa
