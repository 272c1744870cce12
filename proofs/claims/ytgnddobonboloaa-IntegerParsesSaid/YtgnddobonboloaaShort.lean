/- The walks of short of integer and of the reference. -/
import Derived.Test.YtgnddobonboloaaTrim
namespace Go.Proofs.Ytgnddobonboloaa
open Go.RowKit

theorem take_cons {b : List Nat} {k y : Nat} (h : b[k]? = some y) : b.take (k + 1) = b.take k ++ [y] := by
  have := (List.getElem?_eq_some_iff.1 h)
  rw [List.take_succ_eq_append_getElem this.1, this.2]
theorem drop_cons {b : List Nat} {k y : Nat} (h : b[k]? = some y) : b.drop k = y :: b.drop (k + 1) := by
  have := (List.getElem?_eq_some_iff.1 h)
  rw [List.drop_eq_getElem_cons this.1, this.2]

def ShortPost (m by_ : Nat) (w : World) (e : Ending) (w' : World) : Prop :=
  ∃ A n c, e = .returned (.tuple #[.slice A n c, .int .i64 ((m % by_ : Nat) : Int)]) ∧ Hid (n = (dg (m / by_)).length) ∧ n ≤ c ∧ Rd w' A (B8 (dg (m / by_))) ∧ From w.heap.size A ∧ Below w.heap.size w w'

set_option maxHeartbeats 2000000 in
theorem short_any (A : Option Addr) (n c m : Nat) (by_ : Int) (w : World) (hn : Hid (n = (dg m).length)) (hr : Rd w A (B8 (dg m))) (hm : n ≤ 4294967296) (h1 : 2 ≤ by_) (h2 : by_ ≤ 256) :
    Calls Try.prog 50 #[.slice A n c, .int .i64 by_] w (ShortPost m by_.toNat w) := by
  obtain ⟨b, rfl⟩ := Int.eq_ofNat_of_zero_le (show 0 ≤ by_ by omega)
  rw [Int.toNat_natCast]
  have ht : Ten (dg m) := ten_dg m
  have HV := Lib.hid (val_dg m)
  generalize dg m = ds at *
  have b0 : 0 < b := by omega
  go_enter Try.func50, Try.ntmps50
  go_wp2_with (at_make; go_loud (refine wpList_mk rfl _ _ 26 rfl 5 _ _ Try.underlying26 Try.info5 rfl _ _ _ _ rfl rfl (n) (n) (by omega) (by omega) (by omega) (by omega) (by unfold maxLen; omega) ?_; intro g w1 hg harr hbl hsz))
  have hcs : Hid (Arr w1 g 5 (B8 (List.replicate n 0))) := by
    have h := harr.out
    show Arr _ _ _ _
    unfold B8
    rwa [List.map_replicate]
  clear harr
  go_loopw [7, 8] (fun rv iv wr => ∃ (k r : Nat) (dn : List Nat), k ≤ n ∧ r < b ∧ iv = .int .i64 ((k : Int) - 1) ∧ rv = .int .i64 r ∧ Hid (dvd b (ds.drop k) = (r, dn)) ∧
      Hid (Arr wr g 5 (B8 (List.replicate k 0 ++ dn))) ∧ Below w.heap.size w wr) (fun _ iv _ => (intOf iv + 1).toNat)
  case atStart => exact ⟨n, 0, [], Nat.le_refl _, b0, rfl, rfl, by show _ = _; rw [List.drop_eq_nil_of_le (by have := hn.out; omega)]; rfl, by rw [List.append_nil]; exact hcs, hbl⟩
  case round =>
    obtain ⟨k, r, dn, hk, hrb, rfl, rfl, hd, ha, hb⟩ := hrel
    by_cases h0 : k = 0
    · subst h0
      have hk0 : ds.drop 0 = ds := rfl
      have hsp := dvd_spec b0 ds
      have hd' := hd.out
      rw [hk0] at hd'
      rw [hd', HV.out] at hsp
      have hl := len_dvd b ds
      rw [hd'] at hl
      change dn.length = ds.length at hl
      have htd := ten_dvd b0 ht
      rw [hd'] at htd
      change Ten dn at htd
      have hrd : Rd wr (some ⟨g, 0, none⟩) (B8 dn) := by
        have h1 := ha.out.rd
        simpa using h1
      have hsp' : m / b = val dn ∧ m % b = r := ⟨hsp.1.symm, hsp.2.symm⟩
      have HS := Lib.hid hsp'
      have HL : Hid (n = dn.length) := by show _ = _; have := hn.out; omega
      clear hk0 hsp hsp' hd' hl hd
      go_wp2_with (go_at_call 56; go_loud (refine (trim_any _ _ _ dn _ HL hrd htd (Nat.le_refl _) (by unfold maxLen; omega)).mono ?_; rintro e w' ⟨kk, rfl, hkk, hkn, hrr, rfl⟩))
      go_ret2
      have h3 := HS.out
      refine ⟨some ⟨g, 0, none⟩, kk, n, ?_, ?_, ?_, ?_, ?_, hb⟩
      · rw [h3.2]; rfl
      · show _ = _; rw [h3.1]; exact hkk.out
      · have := HL.out; omega
      · rw [h3.1]; exact hrr
      · rintro ad e; obtain rfl := Option.some.inj e; have := hg.out; show _ ≤ g; omega
    · obtain ⟨d, hdd⟩ : ∃ d, ds[k-1]? = some d := ⟨_, List.getElem?_eq_getElem (by have := hn.out; omega)⟩
      have hd10 := ht.get hdd
      obtain ⟨ad, rfl, hcell0⟩ := hr.at_ (B8_get hdd)
      have hcell := (hb.cell (block_lt_of_cell hcell0)).trans hcell0
      have hk1 : 0 < k := by omega
      have e1 : ((k:Int) - 1).toNat = k - 1 := by omega
      have b1 : 0 ≤ (k:Int) - 1 := by omega
      have b2 : (k:Int) - 1 < n := by omega
      have hget : (List.replicate k 0 ++ dn)[k-1]? = some 0 := by
        rw [List.getElem?_append_left (by simp; omega), List.getElem?_replicate, if_pos (by omega)]
      have hc2 := ha.out.cell' (B8_get hget)
      have hfr := ha.out.frozen (k - 1)
      have hstep : dvd b (ds.drop (k - 1)) = ((10 * r + d) % b, (10 * r + d) / b :: dn) := by
        rw [drop_cons hdd, show k - 1 + 1 = k by omega, dvd, hd.out]
      have hq : (10 * r + d) / b < 10 := by rw [Nat.div_lt_iff_lt_mul b0]; omega
      have ha' : Hid (Arr (wr.setCell ⟨g, k - 1, none⟩ (.int .u8 (((10 * r + d) / b : Nat) : Int))) g 5 (B8 (List.replicate (k - 1) 0 ++ (10 * r + d) / b :: dn))) := by
        have h1 := ha.out.store (k - 1) (.int .u8 (((10 * r + d) / b : Nat) : Int))
        have e : List.replicate k 0 ++ dn = List.replicate (k - 1) 0 ++ 0 :: dn := by
          have : List.replicate k 0 = List.replicate (k - 1) 0 ++ [0] := by rw [← List.replicate_succ', show k - 1 + 1 = k by omega]
          rw [this, List.append_assoc]; rfl
        rw [e, B8_set, set_mid (by simp)] at h1
        show Arr _ _ _ _
        simpa using h1
      have hcast : (((10 * r + d) / b : Nat) : Int) = (10 * (r : Int) + (d : Int)) / (b : Int) := by simp
      have hcast2 : (((10 * r + d) % b : Nat) : Int) = (10 * (r : Int) + (d : Int)) % (b : Int) := by simp
      have HC2 := Lib.hid hcast2; clear hcast2
      have hqq : (10 * (r : Int) + (d : Int)) / (b : Int) < 10 := by omega
      have hqq0 : 0 ≤ (10 * (r : Int) + (d : Int)) / (b : Int) := by rw [← hcast]; exact Int.natCast_nonneg _
      rw [hcast] at ha'
      have HST := Lib.hid hstep
      clear hcast hstep hget hcell0 hd hq
      have hbpos : (0 : Int) < (b : Int) := by omega
      have hbne : ((b : Int) == 0) = false := by simp; omega
      go_wp2
      go_roundw
      case rel => exact ⟨k - 1, (10 * r + d) % b, _, by omega, Nat.mod_lt _ b0, i64e (by omega), i64e HC2.out.symm, HST.out, ha', hb.setCell (by have := hg.out; show w.heap.size ≤ g; omega) _⟩
      case measure => simp [intOf]; omega
set_option maxHeartbeats 2000000 in
theorem rshort_any (A : Option Addr) (n c m : Nat) (by_ : Int) (w : World) (hn : Hid (n = (dg m).length)) (hr : Rd w A (B8 (dg m))) (hm : n ≤ 4294967296) (h1 : 2 ≤ by_) (h2 : by_ ≤ 256) :
    Calls Try.prog 54 #[.slice A n c, .int .i64 by_] w (ShortPost m by_.toNat w) := by
  obtain ⟨b, rfl⟩ := Int.eq_ofNat_of_zero_le (show 0 ≤ by_ by omega)
  rw [Int.toNat_natCast]
  have ht : Ten (dg m) := ten_dg m
  have HV := Lib.hid (val_dg m)
  generalize dg m = ds at *
  have b0 : 0 < b := by omega
  go_enter Try.func54, Try.ntmps54
  go_wp2_with (at_make; go_loud (refine wpList_mk rfl _ _ 26 rfl 5 _ _ Try.underlying26 Try.info5 rfl _ _ _ _ rfl rfl (n) (n) (by omega) (by omega) (by omega) (by omega) (by unfold maxLen; omega) ?_; intro g w1 hg harr hbl hsz))
  have hcs : Hid (Arr w1 g 5 (B8 (List.replicate n 0))) := by
    have h := harr.out
    show Arr _ _ _ _
    unfold B8
    rwa [List.map_replicate]
  clear harr
  go_loopw [7, 8] (fun rv iv wr => ∃ (k r : Nat) (dn : List Nat), k ≤ n ∧ r < b ∧ iv = .int .i64 ((k : Int) - 1) ∧ rv = .int .i64 r ∧ Hid (dvd b (ds.drop k) = (r, dn)) ∧
      Hid (Arr wr g 5 (B8 (List.replicate k 0 ++ dn))) ∧ Below w.heap.size w wr) (fun _ iv _ => (intOf iv + 1).toNat)
  case atStart => exact ⟨n, 0, [], Nat.le_refl _, b0, rfl, rfl, by show _ = _; rw [List.drop_eq_nil_of_le (by have := hn.out; omega)]; rfl, by rw [List.append_nil]; exact hcs, hbl⟩
  case round =>
    obtain ⟨k, r, dn, hk, hrb, rfl, rfl, hd, ha, hb⟩ := hrel
    by_cases h0 : k = 0
    · subst h0
      have hk0 : ds.drop 0 = ds := rfl
      have hsp := dvd_spec b0 ds
      have hd' := hd.out
      rw [hk0] at hd'
      rw [hd', HV.out] at hsp
      have hl := len_dvd b ds
      rw [hd'] at hl
      change dn.length = ds.length at hl
      have htd := ten_dvd b0 ht
      rw [hd'] at htd
      change Ten dn at htd
      have hrd : Rd wr (some ⟨g, 0, none⟩) (B8 dn) := by
        have h1 := ha.out.rd
        simpa using h1
      have hsp' : m / b = val dn ∧ m % b = r := ⟨hsp.1.symm, hsp.2.symm⟩
      have HS := Lib.hid hsp'
      have HL : Hid (n = dn.length) := by show _ = _; have := hn.out; omega
      clear hk0 hsp hsp' hd' hl hd
      go_wp2_with (go_at_call 49; go_loud (refine (rtrim_any _ _ _ dn _ HL hrd htd (Nat.le_refl _) (by unfold maxLen; omega)).mono ?_; rintro e w' ⟨kk, rfl, hkk, hkn, hrr, rfl⟩))
      go_ret2
      have h3 := HS.out
      refine ⟨some ⟨g, 0, none⟩, kk, n, ?_, ?_, ?_, ?_, ?_, hb⟩
      · rw [h3.2]; rfl
      · show _ = _; rw [h3.1]; exact hkk.out
      · have := HL.out; omega
      · rw [h3.1]; exact hrr
      · rintro ad e; obtain rfl := Option.some.inj e; have := hg.out; show _ ≤ g; omega
    · obtain ⟨d, hdd⟩ : ∃ d, ds[k-1]? = some d := ⟨_, List.getElem?_eq_getElem (by have := hn.out; omega)⟩
      have hd10 := ht.get hdd
      obtain ⟨ad, rfl, hcell0⟩ := hr.at_ (B8_get hdd)
      have hcell := (hb.cell (block_lt_of_cell hcell0)).trans hcell0
      have hk1 : 0 < k := by omega
      have e1 : ((k:Int) - 1).toNat = k - 1 := by omega
      have b1 : 0 ≤ (k:Int) - 1 := by omega
      have b2 : (k:Int) - 1 < n := by omega
      have hget : (List.replicate k 0 ++ dn)[k-1]? = some 0 := by
        rw [List.getElem?_append_left (by simp; omega), List.getElem?_replicate, if_pos (by omega)]
      have hc2 := ha.out.cell' (B8_get hget)
      have hfr := ha.out.frozen (k - 1)
      have hstep : dvd b (ds.drop (k - 1)) = ((10 * r + d) % b, (10 * r + d) / b :: dn) := by
        rw [drop_cons hdd, show k - 1 + 1 = k by omega, dvd, hd.out]
      have hq : (10 * r + d) / b < 10 := by rw [Nat.div_lt_iff_lt_mul b0]; omega
      have ha' : Hid (Arr (wr.setCell ⟨g, k - 1, none⟩ (.int .u8 (((10 * r + d) / b : Nat) : Int))) g 5 (B8 (List.replicate (k - 1) 0 ++ (10 * r + d) / b :: dn))) := by
        have h1 := ha.out.store (k - 1) (.int .u8 (((10 * r + d) / b : Nat) : Int))
        have e : List.replicate k 0 ++ dn = List.replicate (k - 1) 0 ++ 0 :: dn := by
          have : List.replicate k 0 = List.replicate (k - 1) 0 ++ [0] := by rw [← List.replicate_succ', show k - 1 + 1 = k by omega]
          rw [this, List.append_assoc]; rfl
        rw [e, B8_set, set_mid (by simp)] at h1
        show Arr _ _ _ _
        simpa using h1
      have hcast : (((10 * r + d) / b : Nat) : Int) = (10 * (r : Int) + (d : Int)) / (b : Int) := by simp
      have hcast2 : (((10 * r + d) % b : Nat) : Int) = (10 * (r : Int) + (d : Int)) % (b : Int) := by simp
      have HC2 := Lib.hid hcast2; clear hcast2
      have hqq : (10 * (r : Int) + (d : Int)) / (b : Int) < 10 := by omega
      have hqq0 : 0 ≤ (10 * (r : Int) + (d : Int)) / (b : Int) := by rw [← hcast]; exact Int.natCast_nonneg _
      rw [hcast] at ha'
      have HST := Lib.hid hstep
      clear hcast hstep hget hcell0 hd hq
      have hbpos : (0 : Int) < (b : Int) := by omega
      have hbne : ((b : Int) == 0) = false := by simp; omega
      go_wp2
      go_roundw
      case rel => exact ⟨k - 1, (10 * r + d) % b, _, by omega, Nat.mod_lt _ b0, i64e (by omega), i64e HC2.out.symm, HST.out, ha', hb.setCell (by have := hg.out; show w.heap.size ≤ g; omega) _⟩
      case measure => simp [intOf]; omega
end Go.Proofs.Ytgnddobonboloaa
