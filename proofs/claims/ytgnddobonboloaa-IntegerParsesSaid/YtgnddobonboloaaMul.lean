/- The walk of Mul of integer. -/
import Derived.Test.YtgnddobonboloaaAdd
namespace Go.Proofs.Ytgnddobonboloaa
open Go.RowKit

/-- Natural numbers as int values. -/
def IN (ds : List Nat) : List Value := ds.map fun (d : Nat) => Value.int .i64 (d : Int)
theorem length_IN (ds : List Nat) : (IN ds).length = ds.length := by simp [IN]
theorem IN_get {ds : List Nat} {k d : Nat} (h : ds[k]? = some d) : (IN ds)[k]? = some (.int .i64 (d : Int)) := by simp [IN, h]
theorem IN_set (a : List Nat) (k d : Nat) : (IN a).set k (.int .i64 (d : Int)) = IN (a.set k d) := by simp [IN, List.map_set]

/-- The entries' bound in row i behind column k. -/
def Bdd (acc : List Nat) (i k : Nat) : Prop := ∀ j e, acc[j]? = some e → e ≤ 81 * i + (if j < i + k then 81 else 0)
theorem Bdd.step {acc : List Nat} {i k e d : Nat} (h : Bdd acc i k) (he : acc[i + k]? = some e) (hd : d ≤ 81) : Bdd (acc.set (i + k) (e + d)) i (k + 1) := by
  intro j v hj
  rw [List.getElem?_set] at hj
  by_cases hij : i + k = j
  · subst hij
    rw [if_pos rfl] at hj
    have := h _ _ he
    rw [if_neg (by omega)] at this
    split at hj
    · have hv := Option.some.inj hj
      rw [if_pos (by omega)]; omega
    · cases hj
  · rw [if_neg hij] at hj
    have := h _ _ hj
    split at this <;> split <;> omega
theorem Bdd.row {acc : List Nat} {i k : Nat} (h : Bdd acc i k) : Bdd acc (i + 1) 0 := by
  intro j v hj
  have := h j v hj
  split at this <;> split <;> omega
theorem Bdd.le {acc : List Nat} {i k j e : Nat} (h : Bdd acc i k) (he : acc[j]? = some e) : e ≤ 81 * i + 81 := by
  have := h j e he
  split at this <;> omega

theorem mul_step {us vs acc : List Nat} {i k x y e : Nat} (_hx : us[i]? = some x) (hy : vs[k]? = some y) (he : acc[i + k]? = some e)
    (h : vali acc = val (us.take i) * val vs + x * 10 ^ i * val (vs.take k)) : vali (acc.set (i + k) (e + x * y)) = val (us.take i) * val vs + x * 10 ^ i * val (vs.take (k + 1)) := by
  rw [vali_set he, h]
  have hl := (List.getElem?_eq_some_iff.1 hy)
  have e1 : vs.take (k + 1) = vs.take k ++ [y] := by rw [List.take_succ_eq_append_getElem hl.1, hl.2]
  rw [e1, val_append, List.length_take, Nat.min_eq_left (by have := hl.1; omega)]
  simp only [val, Nat.pow_add]
  grind
theorem mul_row {us vs acc : List Nat} {i x : Nat} (hx : us[i]? = some x) (h : vali acc = val (us.take i) * val vs + x * 10 ^ i * val (vs.take vs.length)) : vali acc = val (us.take (i + 1)) * val vs := by
  have hl := (List.getElem?_eq_some_iff.1 hx)
  have e1 : us.take (i + 1) = us.take i ++ [x] := by rw [List.take_succ_eq_append_getElem hl.1, hl.2]
  rw [h, e1, val_append, List.length_take, Nat.min_eq_left (by have := hl.1; omega), List.take_length]
  simp only [val]
  grind
theorem dg_posl {n m : Nat} (hn : Hid (n = (dg m).length)) (h : m ≠ 0) : 0 < n := by
  have h1 := hn.out
  have : (dg m).length ≠ 0 := fun h' => h (dg_length_zero.1 h')
  omega
theorem mul_lt {p q n n' : Nat} (hn : n = (dg p).length) (hn' : n' = (dg q).length) : p * q < 10 ^ (n + n' + 1) := by
  have h1 := (dg_len_le (n := p) (k := n)).1 (by omega)
  have h2 := (dg_len_le (n := q) (k := n')).1 (by omega)
  have h3 : p * q ≤ 10 ^ n * 10 ^ n' := Nat.mul_le_mul (by omega) (by omega)
  rw [Nat.pow_succ, Nat.pow_add]
  have := Nat.mul_pos (Nat.pow_pos (n := n) (show 0 < 10 by omega)) (Nat.pow_pos (n := n') (show 0 < 10 by omega))
  omega

def mulN (x y : Bool × Nat) : Bool × Nat := (x.1 != y.1 && decide (0 < x.2 * y.2), x.2 * y.2)

set_option maxHeartbeats 8000000 in
theorem mul_pp (l r : List Nat) (x2 y2 : Nat) (w : World) (hl : By l) (hr : By r) (h : parseC l = some (false, x2)) (h' : parseC r = some (false, y2)) : Calls Try.prog 25 #[.string (mks l), .string (mks r)] w fun e w' =>
    e = .returned (.tuple #[.string (mks (tS (mulN (false, x2) (false, y2)))), .int .i64 (tE (mulN (false, x2) (false, y2)))]) ∧ Below w.heap.size w w' := by
  have H := two_ok l r (false, x2) (false, y2) w hl hr h h'
  clear h h'
  have HT := Lib.hid H
  clear H
  obtain ⟨z, hz⟩ : ∃ z, z = mulN (false, x2) (false, y2) := ⟨_, rfl⟩
  rw [← hz]
  have HS := Lib.hid hz
  clear hz
  go_enter Try.func25, Try.ntmps25
  go_upto_region 4 with (go_at_call 55; go_loud (refine HT.out.mono ?_; rintro e w1 ⟨hb1, A, A', n, n', c, c', rfl, hn, hn4, hc, hr1, hn', hn4', hc', hr1'⟩))
  obtain ⟨HX, HY, HB, HZ⟩ := two_box w1 62 62 [.bool false, .slice A n c] [.bool false, .slice A' n' c']
  have hrW := hr1.keep HB
  have hrW' := hr1'.keep HB
  have HBB : Below w.heap.size w ((w1.alloc (.cells #[.bool false, .slice A n c] 62)).alloc (.cells #[.bool false, .slice A' n' c'] 62)) := hb1.trans (HB.mono hb1.size)
  clear HB HZ hr1 hr1' hb1
  generalize ((w1.alloc (.cells #[.bool false, .slice A n c] 62)).alloc (.cells #[.bool false, .slice A' n' c'] 62)) = W at *
  (try dsimp only at hn hn' hrW hrW')
  have HMLT := Lib.hid (mul_lt hn.out hn'.out)
  have hv := Lib.hid (val_dg x2)
  have hv' := Lib.hid (val_dg y2)
  have ht := ten_dg x2
  have ht' := ten_dg y2
  generalize dg x2 = us at *
  generalize dg y2 = vs at *
  have x0 := HX.out.cell' (i := 0) rfl
  have x1' := HX.out.cell' (i := 1) rfl
  have y0 := HY.out.cell' (i := 0) rfl
  have y1' := HY.out.cell' (i := 1) rfl
  go_wp2_with (at_make; go_loud (refine wpList_mk rfl _ _ 76 rfl 3 _ _ Try.underlying76 Try.info3 rfl _ _ _ _ rfl rfl (n + n' + 1) (n + n' + 1) (by omega) (by omega) (by omega) (by omega) (by unfold maxLen; omega) ?_; intro g w2 hg harr hbl hsz; have x12 := (HX.out.keep hbl).cell' (i := 1) rfl; have y12 := (HY.out.keep hbl).cell' (i := 1) rfl))
  have hcs : Hid (Arr w2 g 3 (IN (List.replicate (n + n' + 1) 0))) := by
    have h := harr.out
    show Arr _ _ _ _
    unfold IN
    rwa [List.map_replicate]
  have HGW := hg
  clear harr hg x12 y12 x1' y1' HT
  go_loopw [36] (fun iv wr => ∃ (i : Nat) (acc : List Nat), i ≤ n ∧ iv = .int .i64 i ∧ Hid (acc.length = n + n' + 1) ∧ Hid (vali acc = val (us.take i) * val vs) ∧ Bdd acc i 0 ∧ Hid (Arr wr g 3 (IN acc)) ∧ Below W.heap.size W wr)
    (fun iv _ => n - (intOf iv).toNat)
  case atStart => exact ⟨0, List.replicate (n + n' + 1) 0, by omega, rfl, by show _ = _; simp, by show _ = _; rw [vali_zero]; simp [val], (by intro j e he; rw [List.getElem?_replicate] at he; split at he <;> simp at he; omega), hcs, hbl⟩
  case round =>
    clear hcs hbl
    obtain ⟨i, acc, hi, rfl, hal, hav, hab, ha, hb⟩ := hrel
    have x1' := (HX.out.keep hb).cell' (i := 1) rfl
    have y1' := (HY.out.keep hb).cell' (i := 1) rfl
    have x0' := (HX.out.keep hb).cell' (i := 0) rfl
    have y0' := (HY.out.keep hb).cell' (i := 0) rfl
    by_cases hlt : i < n
    · obtain ⟨x, hx⟩ : ∃ x, us[i]? = some x := ⟨_, List.getElem?_eq_getElem (by have := hn.out; omega)⟩
      have hx10 := ht.get hx
      obtain ⟨ad, rfl, hcx⟩ := hrW.at_ (B8_get hx)
      have HXI := Lib.hid hx
      clear hx
      go_wp2
      go_loopw [42] (fun kv wr => ∃ (k : Nat) (acc : List Nat), k ≤ n' ∧ kv = .int .i64 k ∧ Hid (acc.length = n + n' + 1) ∧ Hid (vali acc = val (us.take i) * val vs + x * 10 ^ i * val (vs.take k)) ∧ Bdd acc i k ∧ Hid (Arr wr g 3 (IN acc)) ∧ Below W.heap.size W wr)
        (fun kv _ => n' - (intOf kv).toNat)
      case atStart => exact ⟨0, acc, by omega, rfl, hal, by show _ = _; rw [hav.out]; simp [val], hab, ha, hb⟩
      case round =>
        clear hal hav hab ha hb x1' y1' x0' y0'
        obtain ⟨k, acc, hk, rfl, hal, hav, hab, ha, hb⟩ := hrel
        have x1' := (HX.out.keep hb).cell' (i := 1) rfl
        have y1' := (HY.out.keep hb).cell' (i := 1) rfl
        by_cases hkl : k < n'
        · obtain ⟨y, hy⟩ : ∃ y, vs[k]? = some y := ⟨_, List.getElem?_eq_getElem (by have := hn'.out; omega)⟩
          have hy10 := ht'.get hy
          obtain ⟨ad', rfl, hcy⟩ := hrW'.at_ (B8_get hy)
          obtain ⟨e, he⟩ : ∃ e, acc[i + k]? = some e := ⟨_, List.getElem?_eq_getElem (by have := hal.out; omega)⟩
          have heb := hab.le he
          have hcx' := (hb.cell (block_lt_of_cell hcx)).trans hcx
          have hcy' := (hb.cell (block_lt_of_cell hcy)).trans hcy
          have hce := ha.out.cell' (IN_get he)
          have hfr := ha.out.frozen (i + k)
          have hxy : x * y ≤ 81 := by have := Nat.mul_le_mul (show x ≤ 9 by omega) (show y ≤ 9 by omega); omega
          have hst := ha.out.store (i + k) (.int .i64 ((e + x * y : Nat) : Int))
          rw [IN_set] at hst
          have hcast : ((e + x * y : Nat) : Int) = (e : Int) + (x : Int) * (y : Int) := by simp
          rw [hcast] at hst
          have HST := Lib.hid hst
          have HV := Lib.hid (mul_step HXI.out hy he hav.out)
          have HBD := hab.step he hxy
          have HAL : Hid ((acc.set (i + k) (e + x * y)).length = n + n' + 1) := by show _ = _; rw [List.length_set]; exact hal.out
          have hxy0 : 0 ≤ (x : Int) * (y : Int) := Int.mul_nonneg (by omega) (by omega)
          have hxy1 : (x : Int) * (y : Int) ≤ 81 := by exact_mod_cast hxy
          have b1 : 0 ≤ (i : Int) + k := by omega
          have b2 : (i : Int) + k < n + n' + 1 := by omega
          have b3 : ((i : Int) + k).toNat = i + k := by omega
          have b4 : (i : Int) < n := by omega
          have b5 : (k : Int) < n' := by omega
          clear hst hcast hy he hcx hcy hab hav hal
          go_wp2
          go_region
          go_wp2
          go_roundw
          case rel => exact ⟨k + 1, _, by omega, by go_num, HAL, HV, HBD, HST, (hb.drew).setCell (by have := HGW.out; show W.heap.size ≤ g; omega) _⟩
          case measure => simp [intOf]; omega
        · obtain rfl : k = n' := by omega
          have hav2 := hav.out
          rw [show k = vs.length from hn'.out] at hav2
          go_wp2
          go_roundw
          case rel => exact ⟨i + 1, acc, by omega, by go_num, hal, mul_row HXI.out hav2, hab.row, ha, hb⟩
          case measure => simp [intOf]; omega
    · obtain rfl : i = n := by omega
      have hava := hav.out
      rw [List.take_of_length_le (by have := hn.out; omega), hv.out, hv'.out] at hava
      have HAV := Lib.hid hava
      clear hava hav
      go_wp2_with (at_make; go_loud (refine wpList_mk rfl _ _ 26 rfl 5 _ _ Try.underlying26 Try.info5 rfl _ _ _ _ rfl rfl (i + n' + 1) (i + n' + 1) (by omega) (by omega) (by omega) (by omega) (by unfold maxLen; omega) ?_; intro g3 w3 hg3 harr3 hbl3 hsz3))
      have hg3g : g < g3 := by have := hg3.out; have := ha.out.lt; omega
      have hgwl : W.heap.size ≤ g := by have := HGW.out; omega
      have hc3 : Hid (Arr w3 g3 5 (B8 ([] ++ List.replicate (i + n' + 1) 0))) := by
        have h := harr3.out
        show Arr _ _ _ _
        rw [List.nil_append]
        unfold B8
        rwa [List.map_replicate]
      have ha3 := Lib.hid (ha.out.keep hbl3)
      have hb3 : Below W.heap.size W w3 := hb.trans (hbl3.mono hb.size)
      clear harr3 ha hbl3 hb x1' y1' x0' y0'
      go_loopw [13, 73] (fun cv kv wr => ∃ (k q : Nat) (dn : List Nat), k ≤ i + n' + 1 ∧ q ≤ 4000 ∧ kv = .int .i64 k ∧ cv = .int .i64 q ∧ Hid (dn.length = k) ∧ Hid (dn ++ nrm (acc.drop k) q = nrm acc 0) ∧
          Hid (Arr wr g3 5 (B8 (dn ++ List.replicate (i + n' + 1 - k) 0))) ∧ Hid (Arr wr g 3 (IN acc)) ∧ Below W.heap.size W wr) (fun _ kv _ => i + n' + 1 - (intOf kv).toNat)
      case atStart => exact ⟨0, 0, [], by omega, by omega, rfl, rfl, rfl, rfl, hc3, ha3, hb3⟩
      case round =>
        clear hc3 ha3 hb3
        obtain ⟨k, q, dn, hk, hq, rfl, rfl, hdl, heq, h3, ha, hb⟩ := hrel
        have x1' := (HX.out.keep hb).cell' (i := 1) rfl
        have y1' := (HY.out.keep hb).cell' (i := 1) rfl
        have x0' := (HX.out.keep hb).cell' (i := 0) rfl
        have y0' := (HY.out.keep hb).cell' (i := 0) rfl
        by_cases hkl : k < i + n' + 1
        · obtain ⟨e, he⟩ : ∃ e, acc[k]? = some e := ⟨_, List.getElem?_eq_getElem (by have := hal.out; omega)⟩
          have heb := hab.le he
          have hce := ha.out.cell' (IN_get he)
          have hget : (dn ++ List.replicate (i + n' + 1 - k) 0)[k]? = some 0 := by
            rw [List.getElem?_append_right (by have := hdl.out; omega), hdl.out, List.getElem?_replicate, if_pos (by omega)]
          have hc2 := h3.out.cell' (B8_get hget)
          have hfr := h3.out.frozen k
          have hst := h3.out.store k (.int .u8 (((q + e) % 10 : Nat) : Int))
          rw [show i + n' + 1 - k = (i + n' + 1 - (k + 1)) + 1 by omega, List.replicate_succ, B8_set, set_mid hdl.out] at hst
          have hcast : (((q + e) % 10 : Nat) : Int) = ((q : Int) + (e : Int)) % 10 := by omega
          rw [hcast] at hst
          have HST := Lib.hid hst
          have HA2 := Lib.hid (ha.out.far (p := ⟨g3, k, none⟩) (by show g ≠ g3; omega) (.int .u8 (((q : Int) + (e : Int)) % 10)))
          have HN : Hid (dn ++ [(q + e) % 10] ++ nrm (acc.drop (k + 1)) ((q + e) / 10) = nrm acc 0) := by
            have h1 := heq.out
            have hl := List.getElem?_eq_some_iff.1 he
            rw [List.drop_eq_getElem_cons hl.1, hl.2, nrm] at h1
            show _ = _
            rw [← h1]; simp
          clear hst hcast hget he heq ha h3
          go_wp2
          go_roundw
          case rel => exact ⟨k + 1, (q + e) / 10, _, by omega, by omega, by go_num, i64e (by omega), by show _ = _; have := hdl.out; simp [this], HN, HST, HA2, hb.setCell (by show W.heap.size ≤ g3; omega) _⟩
          case measure => simp [intOf]; omega
        · obtain rfl : k = i + n' + 1 := by omega
          have HD : Hid (dn = nrm acc 0) := by
            have h1 := heq.out
            rw [List.drop_eq_nil_of_le (by have := hal.out; omega)] at h1
            show _ = _
            simpa [nrm] using h1
          have hvd : val dn = x2 * y2 := by
            rw [HD.out, val_nrm_lt (by rw [HAV.out, hal.out]; exact HMLT.out), HAV.out]
          have htd : Ten dn := by rw [HD.out]; exact ten_nrm _ _
          have HVD := Lib.hid hvd
          have hrd : Rd wr (some ⟨g3, 0, none⟩) (B8 dn) := by have := h3.out.rd; simpa using this
          have hdl' : Hid (i + n' + 1 = dn.length) := by show _ = _; have := hdl.out; omega
          clear hvd heq h3 ha hdl
          have hTR : ∀ W', Rd W' (some ⟨g3, 0, none⟩) (B8 dn) → Calls Try.prog 56 #[.slice (some ⟨g3, 0, none⟩) (i + n' + 1) (i + n' + 1)] W' (TrimPost dn (some ⟨g3, 0, none⟩) (i + n' + 1) W') := fun W' h => trim_any _ _ _ dn _ hdl' h htd (Nat.le_refl _) (by unfold maxLen; omega)
          have HTR := Lib.hid hTR
          clear hTR
          go_upto_region 24 with (go_at_call 56; go_loud (refine (HTR.out _ hrd).mono ?_; rintro e w' ⟨kk, rfl, hkk, hkn, hrr, rfl⟩))
          have hkk' : Hid (kk = (dg (x2 * y2)).length) := by rw [← HVD.out]; exact hkk
          have hrr' : Rd wr (some ⟨g3, 0, none⟩) (B8 (dg (x2 * y2))) := by rw [← HVD.out]; exact hrr
          have hkkb : kk ≤ 1000 := by have := hkn; have := hdl'.out; omega
          by_cases hz0 : x2 * y2 = 0
          · have hzz : Hid (z = (false, x2 * y2)) := by show _ = _; rw [HS.out]; unfold mulN; simp only [hz0]; simp
            have hk0 : kk = 0 := by rw [hkk'.out, hz0, dg_zero]; rfl
            subst hk0
            clear hz0
            go_wp2_with (go_at_call 42; go_loud (refine (text2_any _ _ _ _ (x2 * y2) _ hkk' hrr' (by omega)).mono ?_; rintro e w7 ⟨rfl, hb7⟩))
            go_ret2
            rw [hzz.out]
            exact ⟨rfl, (HBB.trans (hb.mono HBB.size)).trans (hb7.mono (by have := HBB.size; have := hb.size; omega))⟩
          · have hzz : Hid (z = (false != false, x2 * y2)) := by show _ = _; rw [HS.out]; unfold mulN; simp only [decide_eq_true (Nat.pos_of_ne_zero hz0)]; simp
            have hk0 : 0 < kk := dg_posl hkk' hz0
            have hz0' := Lib.hid hz0
            clear hz0
            go_wp2_with (go_at_call 42; go_loud (refine (text2_any _ _ _ _ (x2 * y2) _ hkk' hrr' (by omega)).mono ?_; rintro e w7 ⟨rfl, hb7⟩))
            go_ret2
            rw [hzz.out]
            exact ⟨rfl, (HBB.trans (hb.mono HBB.size)).trans (hb7.mono (by have := HBB.size; have := hb.size; omega))⟩
set_option maxHeartbeats 8000000 in
theorem mul_pn (l r : List Nat) (x2 y2 : Nat) (w : World) (hl : By l) (hr : By r) (h : parseC l = some (false, x2)) (h' : parseC r = some (true, y2)) : Calls Try.prog 25 #[.string (mks l), .string (mks r)] w fun e w' =>
    e = .returned (.tuple #[.string (mks (tS (mulN (false, x2) (true, y2)))), .int .i64 (tE (mulN (false, x2) (true, y2)))]) ∧ Below w.heap.size w w' := by
  have H := two_ok l r (false, x2) (true, y2) w hl hr h h'
  clear h h'
  have HT := Lib.hid H
  clear H
  obtain ⟨z, hz⟩ : ∃ z, z = mulN (false, x2) (true, y2) := ⟨_, rfl⟩
  rw [← hz]
  have HS := Lib.hid hz
  clear hz
  go_enter Try.func25, Try.ntmps25
  go_upto_region 4 with (go_at_call 55; go_loud (refine HT.out.mono ?_; rintro e w1 ⟨hb1, A, A', n, n', c, c', rfl, hn, hn4, hc, hr1, hn', hn4', hc', hr1'⟩))
  obtain ⟨HX, HY, HB, HZ⟩ := two_box w1 62 62 [.bool false, .slice A n c] [.bool true, .slice A' n' c']
  have hrW := hr1.keep HB
  have hrW' := hr1'.keep HB
  have HBB : Below w.heap.size w ((w1.alloc (.cells #[.bool false, .slice A n c] 62)).alloc (.cells #[.bool true, .slice A' n' c'] 62)) := hb1.trans (HB.mono hb1.size)
  clear HB HZ hr1 hr1' hb1
  generalize ((w1.alloc (.cells #[.bool false, .slice A n c] 62)).alloc (.cells #[.bool true, .slice A' n' c'] 62)) = W at *
  (try dsimp only at hn hn' hrW hrW')
  have HMLT := Lib.hid (mul_lt hn.out hn'.out)
  have hv := Lib.hid (val_dg x2)
  have hv' := Lib.hid (val_dg y2)
  have ht := ten_dg x2
  have ht' := ten_dg y2
  generalize dg x2 = us at *
  generalize dg y2 = vs at *
  have x0 := HX.out.cell' (i := 0) rfl
  have x1' := HX.out.cell' (i := 1) rfl
  have y0 := HY.out.cell' (i := 0) rfl
  have y1' := HY.out.cell' (i := 1) rfl
  go_wp2_with (at_make; go_loud (refine wpList_mk rfl _ _ 76 rfl 3 _ _ Try.underlying76 Try.info3 rfl _ _ _ _ rfl rfl (n + n' + 1) (n + n' + 1) (by omega) (by omega) (by omega) (by omega) (by unfold maxLen; omega) ?_; intro g w2 hg harr hbl hsz; have x12 := (HX.out.keep hbl).cell' (i := 1) rfl; have y12 := (HY.out.keep hbl).cell' (i := 1) rfl))
  have hcs : Hid (Arr w2 g 3 (IN (List.replicate (n + n' + 1) 0))) := by
    have h := harr.out
    show Arr _ _ _ _
    unfold IN
    rwa [List.map_replicate]
  have HGW := hg
  clear harr hg x12 y12 x1' y1' HT
  go_loopw [36] (fun iv wr => ∃ (i : Nat) (acc : List Nat), i ≤ n ∧ iv = .int .i64 i ∧ Hid (acc.length = n + n' + 1) ∧ Hid (vali acc = val (us.take i) * val vs) ∧ Bdd acc i 0 ∧ Hid (Arr wr g 3 (IN acc)) ∧ Below W.heap.size W wr)
    (fun iv _ => n - (intOf iv).toNat)
  case atStart => exact ⟨0, List.replicate (n + n' + 1) 0, by omega, rfl, by show _ = _; simp, by show _ = _; rw [vali_zero]; simp [val], (by intro j e he; rw [List.getElem?_replicate] at he; split at he <;> simp at he; omega), hcs, hbl⟩
  case round =>
    clear hcs hbl
    obtain ⟨i, acc, hi, rfl, hal, hav, hab, ha, hb⟩ := hrel
    have x1' := (HX.out.keep hb).cell' (i := 1) rfl
    have y1' := (HY.out.keep hb).cell' (i := 1) rfl
    have x0' := (HX.out.keep hb).cell' (i := 0) rfl
    have y0' := (HY.out.keep hb).cell' (i := 0) rfl
    by_cases hlt : i < n
    · obtain ⟨x, hx⟩ : ∃ x, us[i]? = some x := ⟨_, List.getElem?_eq_getElem (by have := hn.out; omega)⟩
      have hx10 := ht.get hx
      obtain ⟨ad, rfl, hcx⟩ := hrW.at_ (B8_get hx)
      have HXI := Lib.hid hx
      clear hx
      go_wp2
      go_loopw [42] (fun kv wr => ∃ (k : Nat) (acc : List Nat), k ≤ n' ∧ kv = .int .i64 k ∧ Hid (acc.length = n + n' + 1) ∧ Hid (vali acc = val (us.take i) * val vs + x * 10 ^ i * val (vs.take k)) ∧ Bdd acc i k ∧ Hid (Arr wr g 3 (IN acc)) ∧ Below W.heap.size W wr)
        (fun kv _ => n' - (intOf kv).toNat)
      case atStart => exact ⟨0, acc, by omega, rfl, hal, by show _ = _; rw [hav.out]; simp [val], hab, ha, hb⟩
      case round =>
        clear hal hav hab ha hb x1' y1' x0' y0'
        obtain ⟨k, acc, hk, rfl, hal, hav, hab, ha, hb⟩ := hrel
        have x1' := (HX.out.keep hb).cell' (i := 1) rfl
        have y1' := (HY.out.keep hb).cell' (i := 1) rfl
        by_cases hkl : k < n'
        · obtain ⟨y, hy⟩ : ∃ y, vs[k]? = some y := ⟨_, List.getElem?_eq_getElem (by have := hn'.out; omega)⟩
          have hy10 := ht'.get hy
          obtain ⟨ad', rfl, hcy⟩ := hrW'.at_ (B8_get hy)
          obtain ⟨e, he⟩ : ∃ e, acc[i + k]? = some e := ⟨_, List.getElem?_eq_getElem (by have := hal.out; omega)⟩
          have heb := hab.le he
          have hcx' := (hb.cell (block_lt_of_cell hcx)).trans hcx
          have hcy' := (hb.cell (block_lt_of_cell hcy)).trans hcy
          have hce := ha.out.cell' (IN_get he)
          have hfr := ha.out.frozen (i + k)
          have hxy : x * y ≤ 81 := by have := Nat.mul_le_mul (show x ≤ 9 by omega) (show y ≤ 9 by omega); omega
          have hst := ha.out.store (i + k) (.int .i64 ((e + x * y : Nat) : Int))
          rw [IN_set] at hst
          have hcast : ((e + x * y : Nat) : Int) = (e : Int) + (x : Int) * (y : Int) := by simp
          rw [hcast] at hst
          have HST := Lib.hid hst
          have HV := Lib.hid (mul_step HXI.out hy he hav.out)
          have HBD := hab.step he hxy
          have HAL : Hid ((acc.set (i + k) (e + x * y)).length = n + n' + 1) := by show _ = _; rw [List.length_set]; exact hal.out
          have hxy0 : 0 ≤ (x : Int) * (y : Int) := Int.mul_nonneg (by omega) (by omega)
          have hxy1 : (x : Int) * (y : Int) ≤ 81 := by exact_mod_cast hxy
          have b1 : 0 ≤ (i : Int) + k := by omega
          have b2 : (i : Int) + k < n + n' + 1 := by omega
          have b3 : ((i : Int) + k).toNat = i + k := by omega
          have b4 : (i : Int) < n := by omega
          have b5 : (k : Int) < n' := by omega
          clear hst hcast hy he hcx hcy hab hav hal
          go_wp2
          go_region
          go_wp2
          go_roundw
          case rel => exact ⟨k + 1, _, by omega, by go_num, HAL, HV, HBD, HST, (hb.drew).setCell (by have := HGW.out; show W.heap.size ≤ g; omega) _⟩
          case measure => simp [intOf]; omega
        · obtain rfl : k = n' := by omega
          have hav2 := hav.out
          rw [show k = vs.length from hn'.out] at hav2
          go_wp2
          go_roundw
          case rel => exact ⟨i + 1, acc, by omega, by go_num, hal, mul_row HXI.out hav2, hab.row, ha, hb⟩
          case measure => simp [intOf]; omega
    · obtain rfl : i = n := by omega
      have hava := hav.out
      rw [List.take_of_length_le (by have := hn.out; omega), hv.out, hv'.out] at hava
      have HAV := Lib.hid hava
      clear hava hav
      go_wp2_with (at_make; go_loud (refine wpList_mk rfl _ _ 26 rfl 5 _ _ Try.underlying26 Try.info5 rfl _ _ _ _ rfl rfl (i + n' + 1) (i + n' + 1) (by omega) (by omega) (by omega) (by omega) (by unfold maxLen; omega) ?_; intro g3 w3 hg3 harr3 hbl3 hsz3))
      have hg3g : g < g3 := by have := hg3.out; have := ha.out.lt; omega
      have hgwl : W.heap.size ≤ g := by have := HGW.out; omega
      have hc3 : Hid (Arr w3 g3 5 (B8 ([] ++ List.replicate (i + n' + 1) 0))) := by
        have h := harr3.out
        show Arr _ _ _ _
        rw [List.nil_append]
        unfold B8
        rwa [List.map_replicate]
      have ha3 := Lib.hid (ha.out.keep hbl3)
      have hb3 : Below W.heap.size W w3 := hb.trans (hbl3.mono hb.size)
      clear harr3 ha hbl3 hb x1' y1' x0' y0'
      go_loopw [13, 73] (fun cv kv wr => ∃ (k q : Nat) (dn : List Nat), k ≤ i + n' + 1 ∧ q ≤ 4000 ∧ kv = .int .i64 k ∧ cv = .int .i64 q ∧ Hid (dn.length = k) ∧ Hid (dn ++ nrm (acc.drop k) q = nrm acc 0) ∧
          Hid (Arr wr g3 5 (B8 (dn ++ List.replicate (i + n' + 1 - k) 0))) ∧ Hid (Arr wr g 3 (IN acc)) ∧ Below W.heap.size W wr) (fun _ kv _ => i + n' + 1 - (intOf kv).toNat)
      case atStart => exact ⟨0, 0, [], by omega, by omega, rfl, rfl, rfl, rfl, hc3, ha3, hb3⟩
      case round =>
        clear hc3 ha3 hb3
        obtain ⟨k, q, dn, hk, hq, rfl, rfl, hdl, heq, h3, ha, hb⟩ := hrel
        have x1' := (HX.out.keep hb).cell' (i := 1) rfl
        have y1' := (HY.out.keep hb).cell' (i := 1) rfl
        have x0' := (HX.out.keep hb).cell' (i := 0) rfl
        have y0' := (HY.out.keep hb).cell' (i := 0) rfl
        by_cases hkl : k < i + n' + 1
        · obtain ⟨e, he⟩ : ∃ e, acc[k]? = some e := ⟨_, List.getElem?_eq_getElem (by have := hal.out; omega)⟩
          have heb := hab.le he
          have hce := ha.out.cell' (IN_get he)
          have hget : (dn ++ List.replicate (i + n' + 1 - k) 0)[k]? = some 0 := by
            rw [List.getElem?_append_right (by have := hdl.out; omega), hdl.out, List.getElem?_replicate, if_pos (by omega)]
          have hc2 := h3.out.cell' (B8_get hget)
          have hfr := h3.out.frozen k
          have hst := h3.out.store k (.int .u8 (((q + e) % 10 : Nat) : Int))
          rw [show i + n' + 1 - k = (i + n' + 1 - (k + 1)) + 1 by omega, List.replicate_succ, B8_set, set_mid hdl.out] at hst
          have hcast : (((q + e) % 10 : Nat) : Int) = ((q : Int) + (e : Int)) % 10 := by omega
          rw [hcast] at hst
          have HST := Lib.hid hst
          have HA2 := Lib.hid (ha.out.far (p := ⟨g3, k, none⟩) (by show g ≠ g3; omega) (.int .u8 (((q : Int) + (e : Int)) % 10)))
          have HN : Hid (dn ++ [(q + e) % 10] ++ nrm (acc.drop (k + 1)) ((q + e) / 10) = nrm acc 0) := by
            have h1 := heq.out
            have hl := List.getElem?_eq_some_iff.1 he
            rw [List.drop_eq_getElem_cons hl.1, hl.2, nrm] at h1
            show _ = _
            rw [← h1]; simp
          clear hst hcast hget he heq ha h3
          go_wp2
          go_roundw
          case rel => exact ⟨k + 1, (q + e) / 10, _, by omega, by omega, by go_num, i64e (by omega), by show _ = _; have := hdl.out; simp [this], HN, HST, HA2, hb.setCell (by show W.heap.size ≤ g3; omega) _⟩
          case measure => simp [intOf]; omega
        · obtain rfl : k = i + n' + 1 := by omega
          have HD : Hid (dn = nrm acc 0) := by
            have h1 := heq.out
            rw [List.drop_eq_nil_of_le (by have := hal.out; omega)] at h1
            show _ = _
            simpa [nrm] using h1
          have hvd : val dn = x2 * y2 := by
            rw [HD.out, val_nrm_lt (by rw [HAV.out, hal.out]; exact HMLT.out), HAV.out]
          have htd : Ten dn := by rw [HD.out]; exact ten_nrm _ _
          have HVD := Lib.hid hvd
          have hrd : Rd wr (some ⟨g3, 0, none⟩) (B8 dn) := by have := h3.out.rd; simpa using this
          have hdl' : Hid (i + n' + 1 = dn.length) := by show _ = _; have := hdl.out; omega
          clear hvd heq h3 ha hdl
          have hTR : ∀ W', Rd W' (some ⟨g3, 0, none⟩) (B8 dn) → Calls Try.prog 56 #[.slice (some ⟨g3, 0, none⟩) (i + n' + 1) (i + n' + 1)] W' (TrimPost dn (some ⟨g3, 0, none⟩) (i + n' + 1) W') := fun W' h => trim_any _ _ _ dn _ hdl' h htd (Nat.le_refl _) (by unfold maxLen; omega)
          have HTR := Lib.hid hTR
          clear hTR
          go_upto_region 24 with (go_at_call 56; go_loud (refine (HTR.out _ hrd).mono ?_; rintro e w' ⟨kk, rfl, hkk, hkn, hrr, rfl⟩))
          have hkk' : Hid (kk = (dg (x2 * y2)).length) := by rw [← HVD.out]; exact hkk
          have hrr' : Rd wr (some ⟨g3, 0, none⟩) (B8 (dg (x2 * y2))) := by rw [← HVD.out]; exact hrr
          have hkkb : kk ≤ 1000 := by have := hkn; have := hdl'.out; omega
          by_cases hz0 : x2 * y2 = 0
          · have hzz : Hid (z = (false, x2 * y2)) := by show _ = _; rw [HS.out]; unfold mulN; simp only [hz0]; simp
            have hk0 : kk = 0 := by rw [hkk'.out, hz0, dg_zero]; rfl
            subst hk0
            clear hz0
            go_wp2_with (go_at_call 42; go_loud (refine (text2_any _ _ _ _ (x2 * y2) _ hkk' hrr' (by omega)).mono ?_; rintro e w7 ⟨rfl, hb7⟩))
            go_ret2
            rw [hzz.out]
            exact ⟨rfl, (HBB.trans (hb.mono HBB.size)).trans (hb7.mono (by have := HBB.size; have := hb.size; omega))⟩
          · have hzz : Hid (z = (false != true, x2 * y2)) := by show _ = _; rw [HS.out]; unfold mulN; simp only [decide_eq_true (Nat.pos_of_ne_zero hz0)]; simp
            have hk0 : 0 < kk := dg_posl hkk' hz0
            have hz0' := Lib.hid hz0
            clear hz0
            go_wp2_with (go_at_call 42; go_loud (refine (text2_any _ _ _ _ (x2 * y2) _ hkk' hrr' (by omega)).mono ?_; rintro e w7 ⟨rfl, hb7⟩))
            go_ret2
            rw [hzz.out]
            exact ⟨rfl, (HBB.trans (hb.mono HBB.size)).trans (hb7.mono (by have := HBB.size; have := hb.size; omega))⟩
set_option maxHeartbeats 8000000 in
theorem mul_np (l r : List Nat) (x2 y2 : Nat) (w : World) (hl : By l) (hr : By r) (h : parseC l = some (true, x2)) (h' : parseC r = some (false, y2)) : Calls Try.prog 25 #[.string (mks l), .string (mks r)] w fun e w' =>
    e = .returned (.tuple #[.string (mks (tS (mulN (true, x2) (false, y2)))), .int .i64 (tE (mulN (true, x2) (false, y2)))]) ∧ Below w.heap.size w w' := by
  have H := two_ok l r (true, x2) (false, y2) w hl hr h h'
  clear h h'
  have HT := Lib.hid H
  clear H
  obtain ⟨z, hz⟩ : ∃ z, z = mulN (true, x2) (false, y2) := ⟨_, rfl⟩
  rw [← hz]
  have HS := Lib.hid hz
  clear hz
  go_enter Try.func25, Try.ntmps25
  go_upto_region 4 with (go_at_call 55; go_loud (refine HT.out.mono ?_; rintro e w1 ⟨hb1, A, A', n, n', c, c', rfl, hn, hn4, hc, hr1, hn', hn4', hc', hr1'⟩))
  obtain ⟨HX, HY, HB, HZ⟩ := two_box w1 62 62 [.bool true, .slice A n c] [.bool false, .slice A' n' c']
  have hrW := hr1.keep HB
  have hrW' := hr1'.keep HB
  have HBB : Below w.heap.size w ((w1.alloc (.cells #[.bool true, .slice A n c] 62)).alloc (.cells #[.bool false, .slice A' n' c'] 62)) := hb1.trans (HB.mono hb1.size)
  clear HB HZ hr1 hr1' hb1
  generalize ((w1.alloc (.cells #[.bool true, .slice A n c] 62)).alloc (.cells #[.bool false, .slice A' n' c'] 62)) = W at *
  (try dsimp only at hn hn' hrW hrW')
  have HMLT := Lib.hid (mul_lt hn.out hn'.out)
  have hv := Lib.hid (val_dg x2)
  have hv' := Lib.hid (val_dg y2)
  have ht := ten_dg x2
  have ht' := ten_dg y2
  generalize dg x2 = us at *
  generalize dg y2 = vs at *
  have x0 := HX.out.cell' (i := 0) rfl
  have x1' := HX.out.cell' (i := 1) rfl
  have y0 := HY.out.cell' (i := 0) rfl
  have y1' := HY.out.cell' (i := 1) rfl
  go_wp2_with (at_make; go_loud (refine wpList_mk rfl _ _ 76 rfl 3 _ _ Try.underlying76 Try.info3 rfl _ _ _ _ rfl rfl (n + n' + 1) (n + n' + 1) (by omega) (by omega) (by omega) (by omega) (by unfold maxLen; omega) ?_; intro g w2 hg harr hbl hsz; have x12 := (HX.out.keep hbl).cell' (i := 1) rfl; have y12 := (HY.out.keep hbl).cell' (i := 1) rfl))
  have hcs : Hid (Arr w2 g 3 (IN (List.replicate (n + n' + 1) 0))) := by
    have h := harr.out
    show Arr _ _ _ _
    unfold IN
    rwa [List.map_replicate]
  have HGW := hg
  clear harr hg x12 y12 x1' y1' HT
  go_loopw [36] (fun iv wr => ∃ (i : Nat) (acc : List Nat), i ≤ n ∧ iv = .int .i64 i ∧ Hid (acc.length = n + n' + 1) ∧ Hid (vali acc = val (us.take i) * val vs) ∧ Bdd acc i 0 ∧ Hid (Arr wr g 3 (IN acc)) ∧ Below W.heap.size W wr)
    (fun iv _ => n - (intOf iv).toNat)
  case atStart => exact ⟨0, List.replicate (n + n' + 1) 0, by omega, rfl, by show _ = _; simp, by show _ = _; rw [vali_zero]; simp [val], (by intro j e he; rw [List.getElem?_replicate] at he; split at he <;> simp at he; omega), hcs, hbl⟩
  case round =>
    clear hcs hbl
    obtain ⟨i, acc, hi, rfl, hal, hav, hab, ha, hb⟩ := hrel
    have x1' := (HX.out.keep hb).cell' (i := 1) rfl
    have y1' := (HY.out.keep hb).cell' (i := 1) rfl
    have x0' := (HX.out.keep hb).cell' (i := 0) rfl
    have y0' := (HY.out.keep hb).cell' (i := 0) rfl
    by_cases hlt : i < n
    · obtain ⟨x, hx⟩ : ∃ x, us[i]? = some x := ⟨_, List.getElem?_eq_getElem (by have := hn.out; omega)⟩
      have hx10 := ht.get hx
      obtain ⟨ad, rfl, hcx⟩ := hrW.at_ (B8_get hx)
      have HXI := Lib.hid hx
      clear hx
      go_wp2
      go_loopw [42] (fun kv wr => ∃ (k : Nat) (acc : List Nat), k ≤ n' ∧ kv = .int .i64 k ∧ Hid (acc.length = n + n' + 1) ∧ Hid (vali acc = val (us.take i) * val vs + x * 10 ^ i * val (vs.take k)) ∧ Bdd acc i k ∧ Hid (Arr wr g 3 (IN acc)) ∧ Below W.heap.size W wr)
        (fun kv _ => n' - (intOf kv).toNat)
      case atStart => exact ⟨0, acc, by omega, rfl, hal, by show _ = _; rw [hav.out]; simp [val], hab, ha, hb⟩
      case round =>
        clear hal hav hab ha hb x1' y1' x0' y0'
        obtain ⟨k, acc, hk, rfl, hal, hav, hab, ha, hb⟩ := hrel
        have x1' := (HX.out.keep hb).cell' (i := 1) rfl
        have y1' := (HY.out.keep hb).cell' (i := 1) rfl
        by_cases hkl : k < n'
        · obtain ⟨y, hy⟩ : ∃ y, vs[k]? = some y := ⟨_, List.getElem?_eq_getElem (by have := hn'.out; omega)⟩
          have hy10 := ht'.get hy
          obtain ⟨ad', rfl, hcy⟩ := hrW'.at_ (B8_get hy)
          obtain ⟨e, he⟩ : ∃ e, acc[i + k]? = some e := ⟨_, List.getElem?_eq_getElem (by have := hal.out; omega)⟩
          have heb := hab.le he
          have hcx' := (hb.cell (block_lt_of_cell hcx)).trans hcx
          have hcy' := (hb.cell (block_lt_of_cell hcy)).trans hcy
          have hce := ha.out.cell' (IN_get he)
          have hfr := ha.out.frozen (i + k)
          have hxy : x * y ≤ 81 := by have := Nat.mul_le_mul (show x ≤ 9 by omega) (show y ≤ 9 by omega); omega
          have hst := ha.out.store (i + k) (.int .i64 ((e + x * y : Nat) : Int))
          rw [IN_set] at hst
          have hcast : ((e + x * y : Nat) : Int) = (e : Int) + (x : Int) * (y : Int) := by simp
          rw [hcast] at hst
          have HST := Lib.hid hst
          have HV := Lib.hid (mul_step HXI.out hy he hav.out)
          have HBD := hab.step he hxy
          have HAL : Hid ((acc.set (i + k) (e + x * y)).length = n + n' + 1) := by show _ = _; rw [List.length_set]; exact hal.out
          have hxy0 : 0 ≤ (x : Int) * (y : Int) := Int.mul_nonneg (by omega) (by omega)
          have hxy1 : (x : Int) * (y : Int) ≤ 81 := by exact_mod_cast hxy
          have b1 : 0 ≤ (i : Int) + k := by omega
          have b2 : (i : Int) + k < n + n' + 1 := by omega
          have b3 : ((i : Int) + k).toNat = i + k := by omega
          have b4 : (i : Int) < n := by omega
          have b5 : (k : Int) < n' := by omega
          clear hst hcast hy he hcx hcy hab hav hal
          go_wp2
          go_region
          go_wp2
          go_roundw
          case rel => exact ⟨k + 1, _, by omega, by go_num, HAL, HV, HBD, HST, (hb.drew).setCell (by have := HGW.out; show W.heap.size ≤ g; omega) _⟩
          case measure => simp [intOf]; omega
        · obtain rfl : k = n' := by omega
          have hav2 := hav.out
          rw [show k = vs.length from hn'.out] at hav2
          go_wp2
          go_roundw
          case rel => exact ⟨i + 1, acc, by omega, by go_num, hal, mul_row HXI.out hav2, hab.row, ha, hb⟩
          case measure => simp [intOf]; omega
    · obtain rfl : i = n := by omega
      have hava := hav.out
      rw [List.take_of_length_le (by have := hn.out; omega), hv.out, hv'.out] at hava
      have HAV := Lib.hid hava
      clear hava hav
      go_wp2_with (at_make; go_loud (refine wpList_mk rfl _ _ 26 rfl 5 _ _ Try.underlying26 Try.info5 rfl _ _ _ _ rfl rfl (i + n' + 1) (i + n' + 1) (by omega) (by omega) (by omega) (by omega) (by unfold maxLen; omega) ?_; intro g3 w3 hg3 harr3 hbl3 hsz3))
      have hg3g : g < g3 := by have := hg3.out; have := ha.out.lt; omega
      have hgwl : W.heap.size ≤ g := by have := HGW.out; omega
      have hc3 : Hid (Arr w3 g3 5 (B8 ([] ++ List.replicate (i + n' + 1) 0))) := by
        have h := harr3.out
        show Arr _ _ _ _
        rw [List.nil_append]
        unfold B8
        rwa [List.map_replicate]
      have ha3 := Lib.hid (ha.out.keep hbl3)
      have hb3 : Below W.heap.size W w3 := hb.trans (hbl3.mono hb.size)
      clear harr3 ha hbl3 hb x1' y1' x0' y0'
      go_loopw [13, 73] (fun cv kv wr => ∃ (k q : Nat) (dn : List Nat), k ≤ i + n' + 1 ∧ q ≤ 4000 ∧ kv = .int .i64 k ∧ cv = .int .i64 q ∧ Hid (dn.length = k) ∧ Hid (dn ++ nrm (acc.drop k) q = nrm acc 0) ∧
          Hid (Arr wr g3 5 (B8 (dn ++ List.replicate (i + n' + 1 - k) 0))) ∧ Hid (Arr wr g 3 (IN acc)) ∧ Below W.heap.size W wr) (fun _ kv _ => i + n' + 1 - (intOf kv).toNat)
      case atStart => exact ⟨0, 0, [], by omega, by omega, rfl, rfl, rfl, rfl, hc3, ha3, hb3⟩
      case round =>
        clear hc3 ha3 hb3
        obtain ⟨k, q, dn, hk, hq, rfl, rfl, hdl, heq, h3, ha, hb⟩ := hrel
        have x1' := (HX.out.keep hb).cell' (i := 1) rfl
        have y1' := (HY.out.keep hb).cell' (i := 1) rfl
        have x0' := (HX.out.keep hb).cell' (i := 0) rfl
        have y0' := (HY.out.keep hb).cell' (i := 0) rfl
        by_cases hkl : k < i + n' + 1
        · obtain ⟨e, he⟩ : ∃ e, acc[k]? = some e := ⟨_, List.getElem?_eq_getElem (by have := hal.out; omega)⟩
          have heb := hab.le he
          have hce := ha.out.cell' (IN_get he)
          have hget : (dn ++ List.replicate (i + n' + 1 - k) 0)[k]? = some 0 := by
            rw [List.getElem?_append_right (by have := hdl.out; omega), hdl.out, List.getElem?_replicate, if_pos (by omega)]
          have hc2 := h3.out.cell' (B8_get hget)
          have hfr := h3.out.frozen k
          have hst := h3.out.store k (.int .u8 (((q + e) % 10 : Nat) : Int))
          rw [show i + n' + 1 - k = (i + n' + 1 - (k + 1)) + 1 by omega, List.replicate_succ, B8_set, set_mid hdl.out] at hst
          have hcast : (((q + e) % 10 : Nat) : Int) = ((q : Int) + (e : Int)) % 10 := by omega
          rw [hcast] at hst
          have HST := Lib.hid hst
          have HA2 := Lib.hid (ha.out.far (p := ⟨g3, k, none⟩) (by show g ≠ g3; omega) (.int .u8 (((q : Int) + (e : Int)) % 10)))
          have HN : Hid (dn ++ [(q + e) % 10] ++ nrm (acc.drop (k + 1)) ((q + e) / 10) = nrm acc 0) := by
            have h1 := heq.out
            have hl := List.getElem?_eq_some_iff.1 he
            rw [List.drop_eq_getElem_cons hl.1, hl.2, nrm] at h1
            show _ = _
            rw [← h1]; simp
          clear hst hcast hget he heq ha h3
          go_wp2
          go_roundw
          case rel => exact ⟨k + 1, (q + e) / 10, _, by omega, by omega, by go_num, i64e (by omega), by show _ = _; have := hdl.out; simp [this], HN, HST, HA2, hb.setCell (by show W.heap.size ≤ g3; omega) _⟩
          case measure => simp [intOf]; omega
        · obtain rfl : k = i + n' + 1 := by omega
          have HD : Hid (dn = nrm acc 0) := by
            have h1 := heq.out
            rw [List.drop_eq_nil_of_le (by have := hal.out; omega)] at h1
            show _ = _
            simpa [nrm] using h1
          have hvd : val dn = x2 * y2 := by
            rw [HD.out, val_nrm_lt (by rw [HAV.out, hal.out]; exact HMLT.out), HAV.out]
          have htd : Ten dn := by rw [HD.out]; exact ten_nrm _ _
          have HVD := Lib.hid hvd
          have hrd : Rd wr (some ⟨g3, 0, none⟩) (B8 dn) := by have := h3.out.rd; simpa using this
          have hdl' : Hid (i + n' + 1 = dn.length) := by show _ = _; have := hdl.out; omega
          clear hvd heq h3 ha hdl
          have hTR : ∀ W', Rd W' (some ⟨g3, 0, none⟩) (B8 dn) → Calls Try.prog 56 #[.slice (some ⟨g3, 0, none⟩) (i + n' + 1) (i + n' + 1)] W' (TrimPost dn (some ⟨g3, 0, none⟩) (i + n' + 1) W') := fun W' h => trim_any _ _ _ dn _ hdl' h htd (Nat.le_refl _) (by unfold maxLen; omega)
          have HTR := Lib.hid hTR
          clear hTR
          go_upto_region 24 with (go_at_call 56; go_loud (refine (HTR.out _ hrd).mono ?_; rintro e w' ⟨kk, rfl, hkk, hkn, hrr, rfl⟩))
          have hkk' : Hid (kk = (dg (x2 * y2)).length) := by rw [← HVD.out]; exact hkk
          have hrr' : Rd wr (some ⟨g3, 0, none⟩) (B8 (dg (x2 * y2))) := by rw [← HVD.out]; exact hrr
          have hkkb : kk ≤ 1000 := by have := hkn; have := hdl'.out; omega
          by_cases hz0 : x2 * y2 = 0
          · have hzz : Hid (z = (false, x2 * y2)) := by show _ = _; rw [HS.out]; unfold mulN; simp only [hz0]; simp
            have hk0 : kk = 0 := by rw [hkk'.out, hz0, dg_zero]; rfl
            subst hk0
            clear hz0
            go_wp2_with (go_at_call 42; go_loud (refine (text2_any _ _ _ _ (x2 * y2) _ hkk' hrr' (by omega)).mono ?_; rintro e w7 ⟨rfl, hb7⟩))
            go_ret2
            rw [hzz.out]
            exact ⟨rfl, (HBB.trans (hb.mono HBB.size)).trans (hb7.mono (by have := HBB.size; have := hb.size; omega))⟩
          · have hzz : Hid (z = (true != false, x2 * y2)) := by show _ = _; rw [HS.out]; unfold mulN; simp only [decide_eq_true (Nat.pos_of_ne_zero hz0)]; simp
            have hk0 : 0 < kk := dg_posl hkk' hz0
            have hz0' := Lib.hid hz0
            clear hz0
            go_wp2_with (go_at_call 42; go_loud (refine (text2_any _ _ _ _ (x2 * y2) _ hkk' hrr' (by omega)).mono ?_; rintro e w7 ⟨rfl, hb7⟩))
            go_ret2
            rw [hzz.out]
            exact ⟨rfl, (HBB.trans (hb.mono HBB.size)).trans (hb7.mono (by have := HBB.size; have := hb.size; omega))⟩
set_option maxHeartbeats 8000000 in
theorem mul_nn (l r : List Nat) (x2 y2 : Nat) (w : World) (hl : By l) (hr : By r) (h : parseC l = some (true, x2)) (h' : parseC r = some (true, y2)) : Calls Try.prog 25 #[.string (mks l), .string (mks r)] w fun e w' =>
    e = .returned (.tuple #[.string (mks (tS (mulN (true, x2) (true, y2)))), .int .i64 (tE (mulN (true, x2) (true, y2)))]) ∧ Below w.heap.size w w' := by
  have H := two_ok l r (true, x2) (true, y2) w hl hr h h'
  clear h h'
  have HT := Lib.hid H
  clear H
  obtain ⟨z, hz⟩ : ∃ z, z = mulN (true, x2) (true, y2) := ⟨_, rfl⟩
  rw [← hz]
  have HS := Lib.hid hz
  clear hz
  go_enter Try.func25, Try.ntmps25
  go_upto_region 4 with (go_at_call 55; go_loud (refine HT.out.mono ?_; rintro e w1 ⟨hb1, A, A', n, n', c, c', rfl, hn, hn4, hc, hr1, hn', hn4', hc', hr1'⟩))
  obtain ⟨HX, HY, HB, HZ⟩ := two_box w1 62 62 [.bool true, .slice A n c] [.bool true, .slice A' n' c']
  have hrW := hr1.keep HB
  have hrW' := hr1'.keep HB
  have HBB : Below w.heap.size w ((w1.alloc (.cells #[.bool true, .slice A n c] 62)).alloc (.cells #[.bool true, .slice A' n' c'] 62)) := hb1.trans (HB.mono hb1.size)
  clear HB HZ hr1 hr1' hb1
  generalize ((w1.alloc (.cells #[.bool true, .slice A n c] 62)).alloc (.cells #[.bool true, .slice A' n' c'] 62)) = W at *
  (try dsimp only at hn hn' hrW hrW')
  have HMLT := Lib.hid (mul_lt hn.out hn'.out)
  have hv := Lib.hid (val_dg x2)
  have hv' := Lib.hid (val_dg y2)
  have ht := ten_dg x2
  have ht' := ten_dg y2
  generalize dg x2 = us at *
  generalize dg y2 = vs at *
  have x0 := HX.out.cell' (i := 0) rfl
  have x1' := HX.out.cell' (i := 1) rfl
  have y0 := HY.out.cell' (i := 0) rfl
  have y1' := HY.out.cell' (i := 1) rfl
  go_wp2_with (at_make; go_loud (refine wpList_mk rfl _ _ 76 rfl 3 _ _ Try.underlying76 Try.info3 rfl _ _ _ _ rfl rfl (n + n' + 1) (n + n' + 1) (by omega) (by omega) (by omega) (by omega) (by unfold maxLen; omega) ?_; intro g w2 hg harr hbl hsz; have x12 := (HX.out.keep hbl).cell' (i := 1) rfl; have y12 := (HY.out.keep hbl).cell' (i := 1) rfl))
  have hcs : Hid (Arr w2 g 3 (IN (List.replicate (n + n' + 1) 0))) := by
    have h := harr.out
    show Arr _ _ _ _
    unfold IN
    rwa [List.map_replicate]
  have HGW := hg
  clear harr hg x12 y12 x1' y1' HT
  go_loopw [36] (fun iv wr => ∃ (i : Nat) (acc : List Nat), i ≤ n ∧ iv = .int .i64 i ∧ Hid (acc.length = n + n' + 1) ∧ Hid (vali acc = val (us.take i) * val vs) ∧ Bdd acc i 0 ∧ Hid (Arr wr g 3 (IN acc)) ∧ Below W.heap.size W wr)
    (fun iv _ => n - (intOf iv).toNat)
  case atStart => exact ⟨0, List.replicate (n + n' + 1) 0, by omega, rfl, by show _ = _; simp, by show _ = _; rw [vali_zero]; simp [val], (by intro j e he; rw [List.getElem?_replicate] at he; split at he <;> simp at he; omega), hcs, hbl⟩
  case round =>
    clear hcs hbl
    obtain ⟨i, acc, hi, rfl, hal, hav, hab, ha, hb⟩ := hrel
    have x1' := (HX.out.keep hb).cell' (i := 1) rfl
    have y1' := (HY.out.keep hb).cell' (i := 1) rfl
    have x0' := (HX.out.keep hb).cell' (i := 0) rfl
    have y0' := (HY.out.keep hb).cell' (i := 0) rfl
    by_cases hlt : i < n
    · obtain ⟨x, hx⟩ : ∃ x, us[i]? = some x := ⟨_, List.getElem?_eq_getElem (by have := hn.out; omega)⟩
      have hx10 := ht.get hx
      obtain ⟨ad, rfl, hcx⟩ := hrW.at_ (B8_get hx)
      have HXI := Lib.hid hx
      clear hx
      go_wp2
      go_loopw [42] (fun kv wr => ∃ (k : Nat) (acc : List Nat), k ≤ n' ∧ kv = .int .i64 k ∧ Hid (acc.length = n + n' + 1) ∧ Hid (vali acc = val (us.take i) * val vs + x * 10 ^ i * val (vs.take k)) ∧ Bdd acc i k ∧ Hid (Arr wr g 3 (IN acc)) ∧ Below W.heap.size W wr)
        (fun kv _ => n' - (intOf kv).toNat)
      case atStart => exact ⟨0, acc, by omega, rfl, hal, by show _ = _; rw [hav.out]; simp [val], hab, ha, hb⟩
      case round =>
        clear hal hav hab ha hb x1' y1' x0' y0'
        obtain ⟨k, acc, hk, rfl, hal, hav, hab, ha, hb⟩ := hrel
        have x1' := (HX.out.keep hb).cell' (i := 1) rfl
        have y1' := (HY.out.keep hb).cell' (i := 1) rfl
        by_cases hkl : k < n'
        · obtain ⟨y, hy⟩ : ∃ y, vs[k]? = some y := ⟨_, List.getElem?_eq_getElem (by have := hn'.out; omega)⟩
          have hy10 := ht'.get hy
          obtain ⟨ad', rfl, hcy⟩ := hrW'.at_ (B8_get hy)
          obtain ⟨e, he⟩ : ∃ e, acc[i + k]? = some e := ⟨_, List.getElem?_eq_getElem (by have := hal.out; omega)⟩
          have heb := hab.le he
          have hcx' := (hb.cell (block_lt_of_cell hcx)).trans hcx
          have hcy' := (hb.cell (block_lt_of_cell hcy)).trans hcy
          have hce := ha.out.cell' (IN_get he)
          have hfr := ha.out.frozen (i + k)
          have hxy : x * y ≤ 81 := by have := Nat.mul_le_mul (show x ≤ 9 by omega) (show y ≤ 9 by omega); omega
          have hst := ha.out.store (i + k) (.int .i64 ((e + x * y : Nat) : Int))
          rw [IN_set] at hst
          have hcast : ((e + x * y : Nat) : Int) = (e : Int) + (x : Int) * (y : Int) := by simp
          rw [hcast] at hst
          have HST := Lib.hid hst
          have HV := Lib.hid (mul_step HXI.out hy he hav.out)
          have HBD := hab.step he hxy
          have HAL : Hid ((acc.set (i + k) (e + x * y)).length = n + n' + 1) := by show _ = _; rw [List.length_set]; exact hal.out
          have hxy0 : 0 ≤ (x : Int) * (y : Int) := Int.mul_nonneg (by omega) (by omega)
          have hxy1 : (x : Int) * (y : Int) ≤ 81 := by exact_mod_cast hxy
          have b1 : 0 ≤ (i : Int) + k := by omega
          have b2 : (i : Int) + k < n + n' + 1 := by omega
          have b3 : ((i : Int) + k).toNat = i + k := by omega
          have b4 : (i : Int) < n := by omega
          have b5 : (k : Int) < n' := by omega
          clear hst hcast hy he hcx hcy hab hav hal
          go_wp2
          go_region
          go_wp2
          go_roundw
          case rel => exact ⟨k + 1, _, by omega, by go_num, HAL, HV, HBD, HST, (hb.drew).setCell (by have := HGW.out; show W.heap.size ≤ g; omega) _⟩
          case measure => simp [intOf]; omega
        · obtain rfl : k = n' := by omega
          have hav2 := hav.out
          rw [show k = vs.length from hn'.out] at hav2
          go_wp2
          go_roundw
          case rel => exact ⟨i + 1, acc, by omega, by go_num, hal, mul_row HXI.out hav2, hab.row, ha, hb⟩
          case measure => simp [intOf]; omega
    · obtain rfl : i = n := by omega
      have hava := hav.out
      rw [List.take_of_length_le (by have := hn.out; omega), hv.out, hv'.out] at hava
      have HAV := Lib.hid hava
      clear hava hav
      go_wp2_with (at_make; go_loud (refine wpList_mk rfl _ _ 26 rfl 5 _ _ Try.underlying26 Try.info5 rfl _ _ _ _ rfl rfl (i + n' + 1) (i + n' + 1) (by omega) (by omega) (by omega) (by omega) (by unfold maxLen; omega) ?_; intro g3 w3 hg3 harr3 hbl3 hsz3))
      have hg3g : g < g3 := by have := hg3.out; have := ha.out.lt; omega
      have hgwl : W.heap.size ≤ g := by have := HGW.out; omega
      have hc3 : Hid (Arr w3 g3 5 (B8 ([] ++ List.replicate (i + n' + 1) 0))) := by
        have h := harr3.out
        show Arr _ _ _ _
        rw [List.nil_append]
        unfold B8
        rwa [List.map_replicate]
      have ha3 := Lib.hid (ha.out.keep hbl3)
      have hb3 : Below W.heap.size W w3 := hb.trans (hbl3.mono hb.size)
      clear harr3 ha hbl3 hb x1' y1' x0' y0'
      go_loopw [13, 73] (fun cv kv wr => ∃ (k q : Nat) (dn : List Nat), k ≤ i + n' + 1 ∧ q ≤ 4000 ∧ kv = .int .i64 k ∧ cv = .int .i64 q ∧ Hid (dn.length = k) ∧ Hid (dn ++ nrm (acc.drop k) q = nrm acc 0) ∧
          Hid (Arr wr g3 5 (B8 (dn ++ List.replicate (i + n' + 1 - k) 0))) ∧ Hid (Arr wr g 3 (IN acc)) ∧ Below W.heap.size W wr) (fun _ kv _ => i + n' + 1 - (intOf kv).toNat)
      case atStart => exact ⟨0, 0, [], by omega, by omega, rfl, rfl, rfl, rfl, hc3, ha3, hb3⟩
      case round =>
        clear hc3 ha3 hb3
        obtain ⟨k, q, dn, hk, hq, rfl, rfl, hdl, heq, h3, ha, hb⟩ := hrel
        have x1' := (HX.out.keep hb).cell' (i := 1) rfl
        have y1' := (HY.out.keep hb).cell' (i := 1) rfl
        have x0' := (HX.out.keep hb).cell' (i := 0) rfl
        have y0' := (HY.out.keep hb).cell' (i := 0) rfl
        by_cases hkl : k < i + n' + 1
        · obtain ⟨e, he⟩ : ∃ e, acc[k]? = some e := ⟨_, List.getElem?_eq_getElem (by have := hal.out; omega)⟩
          have heb := hab.le he
          have hce := ha.out.cell' (IN_get he)
          have hget : (dn ++ List.replicate (i + n' + 1 - k) 0)[k]? = some 0 := by
            rw [List.getElem?_append_right (by have := hdl.out; omega), hdl.out, List.getElem?_replicate, if_pos (by omega)]
          have hc2 := h3.out.cell' (B8_get hget)
          have hfr := h3.out.frozen k
          have hst := h3.out.store k (.int .u8 (((q + e) % 10 : Nat) : Int))
          rw [show i + n' + 1 - k = (i + n' + 1 - (k + 1)) + 1 by omega, List.replicate_succ, B8_set, set_mid hdl.out] at hst
          have hcast : (((q + e) % 10 : Nat) : Int) = ((q : Int) + (e : Int)) % 10 := by omega
          rw [hcast] at hst
          have HST := Lib.hid hst
          have HA2 := Lib.hid (ha.out.far (p := ⟨g3, k, none⟩) (by show g ≠ g3; omega) (.int .u8 (((q : Int) + (e : Int)) % 10)))
          have HN : Hid (dn ++ [(q + e) % 10] ++ nrm (acc.drop (k + 1)) ((q + e) / 10) = nrm acc 0) := by
            have h1 := heq.out
            have hl := List.getElem?_eq_some_iff.1 he
            rw [List.drop_eq_getElem_cons hl.1, hl.2, nrm] at h1
            show _ = _
            rw [← h1]; simp
          clear hst hcast hget he heq ha h3
          go_wp2
          go_roundw
          case rel => exact ⟨k + 1, (q + e) / 10, _, by omega, by omega, by go_num, i64e (by omega), by show _ = _; have := hdl.out; simp [this], HN, HST, HA2, hb.setCell (by show W.heap.size ≤ g3; omega) _⟩
          case measure => simp [intOf]; omega
        · obtain rfl : k = i + n' + 1 := by omega
          have HD : Hid (dn = nrm acc 0) := by
            have h1 := heq.out
            rw [List.drop_eq_nil_of_le (by have := hal.out; omega)] at h1
            show _ = _
            simpa [nrm] using h1
          have hvd : val dn = x2 * y2 := by
            rw [HD.out, val_nrm_lt (by rw [HAV.out, hal.out]; exact HMLT.out), HAV.out]
          have htd : Ten dn := by rw [HD.out]; exact ten_nrm _ _
          have HVD := Lib.hid hvd
          have hrd : Rd wr (some ⟨g3, 0, none⟩) (B8 dn) := by have := h3.out.rd; simpa using this
          have hdl' : Hid (i + n' + 1 = dn.length) := by show _ = _; have := hdl.out; omega
          clear hvd heq h3 ha hdl
          have hTR : ∀ W', Rd W' (some ⟨g3, 0, none⟩) (B8 dn) → Calls Try.prog 56 #[.slice (some ⟨g3, 0, none⟩) (i + n' + 1) (i + n' + 1)] W' (TrimPost dn (some ⟨g3, 0, none⟩) (i + n' + 1) W') := fun W' h => trim_any _ _ _ dn _ hdl' h htd (Nat.le_refl _) (by unfold maxLen; omega)
          have HTR := Lib.hid hTR
          clear hTR
          go_upto_region 24 with (go_at_call 56; go_loud (refine (HTR.out _ hrd).mono ?_; rintro e w' ⟨kk, rfl, hkk, hkn, hrr, rfl⟩))
          have hkk' : Hid (kk = (dg (x2 * y2)).length) := by rw [← HVD.out]; exact hkk
          have hrr' : Rd wr (some ⟨g3, 0, none⟩) (B8 (dg (x2 * y2))) := by rw [← HVD.out]; exact hrr
          have hkkb : kk ≤ 1000 := by have := hkn; have := hdl'.out; omega
          by_cases hz0 : x2 * y2 = 0
          · have hzz : Hid (z = (false, x2 * y2)) := by show _ = _; rw [HS.out]; unfold mulN; simp only [hz0]; simp
            have hk0 : kk = 0 := by rw [hkk'.out, hz0, dg_zero]; rfl
            subst hk0
            clear hz0
            go_wp2_with (go_at_call 42; go_loud (refine (text2_any _ _ _ _ (x2 * y2) _ hkk' hrr' (by omega)).mono ?_; rintro e w7 ⟨rfl, hb7⟩))
            go_ret2
            rw [hzz.out]
            exact ⟨rfl, (HBB.trans (hb.mono HBB.size)).trans (hb7.mono (by have := HBB.size; have := hb.size; omega))⟩
          · have hzz : Hid (z = (true != true, x2 * y2)) := by show _ = _; rw [HS.out]; unfold mulN; simp only [decide_eq_true (Nat.pos_of_ne_zero hz0)]; simp
            have hk0 : 0 < kk := dg_posl hkk' hz0
            have hz0' := Lib.hid hz0
            clear hz0
            go_wp2_with (go_at_call 42; go_loud (refine (text2_any _ _ _ _ (x2 * y2) _ hkk' hrr' (by omega)).mono ?_; rintro e w7 ⟨rfl, hb7⟩))
            go_ret2
            rw [hzz.out]
            exact ⟨rfl, (HBB.trans (hb.mono HBB.size)).trans (hb7.mono (by have := HBB.size; have := hb.size; omega))⟩
theorem mul_ok (l r : List Nat) (x y : Bool × Nat) (w : World) (hl : By l) (hr : By r) (h : parseC l = some x) (h' : parseC r = some y) : Calls Try.prog 25 #[.string (mks l), .string (mks r)] w fun e w' =>
    e = .returned (.tuple #[.string (mks (tS (mulN x y))), .int .i64 (tE (mulN x y))]) ∧ Below w.heap.size w w' := by
  obtain ⟨x1, x2⟩ := x
  obtain ⟨y1, y2⟩ := y
  cases x1 <;> cases y1
  · exact mul_pp l r x2 y2 w hl hr h h'
  · exact mul_pn l r x2 y2 w hl hr h h'
  · exact mul_np l r x2 y2 w hl hr h h'
  · exact mul_nn l r x2 y2 w hl hr h h'
end Go.Proofs.Ytgnddobonboloaa
