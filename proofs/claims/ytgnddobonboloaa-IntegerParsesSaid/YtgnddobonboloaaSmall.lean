/- The walk of small of integer. -/
import Derived.Test.YtgnddobonboloaaTrim
namespace Go.Proofs.Ytgnddobonboloaa
open Go.RowKit

set_option maxHeartbeats 1000000 in
theorem small_any (A : Option Addr) (n c m : Nat) (by_ more : Int) (w : World) (hn : Hid (n = (dg m).length)) (hr : Rd w A (B8 (dg m))) (hc : n ≤ c) (hm : n ≤ 4294967296)
    (h1 : 1 ≤ by_) (h2 : by_ ≤ 256) (h3 : 0 ≤ more) (h4 : more ≤ 1000) :
    Calls Try.prog 41 #[.slice A n c, .int .i64 by_, .int .i64 more] w (RetS w (B8 (dg (m * by_.toNat + more.toNat)))) := by
  obtain ⟨b, rfl⟩ := Int.eq_ofNat_of_zero_le (show 0 ≤ by_ by omega)
  obtain ⟨mo, rfl⟩ := Int.eq_ofNat_of_zero_le h3
  have ht : Ten (dg m) := ten_dg m
  rw [Int.toNat_natCast, Int.toNat_natCast, ← sml_dg (by omega : 1 ≤ b)]
  generalize dg m = ds at *
  go_enter Try.func41, Try.ntmps41
  go_wp2_with (first | (at_make; refine wpList_mk rfl _ _ 26 rfl 5 _ _ Try.underlying26 Try.info5 rfl _ _ _ _ rfl rfl n (n + 4) (by omega) (by omega) (by omega) (by omega) (by unfold maxLen; omega) ?_; intro g w1 hg harr hbl hsz) | (with_reducible refine wpList_cp rfl (.tmp 16) (.tmp 17) 26 26 rfl 5 Try.underlying26 Try.size5 g n (n + 4) n c A rfl rfl _ _ harr.out (by simp) (B8 ds) (hr.keep hbl) (by rw [length_B8]; exact hn.out.symm) (Nat.le_refl _) (B8_one _) ?_; intro w2 harr2 hgr2 hsz2))
  have hB : Below w.heap.size w w2 := hbl.grown hgr2 hbl.size (fun k e => by have := hg.out; have := Option.some.inj e; omega)
  have hS2 : Hid (Arr w2 g 5 (B8 (ds ++ [0, 0, 0, 0]))) := by
    have h := harr2.out
    rw [List.drop_replicate, show n + 4 - n = 4 by omega, show List.replicate 4 (Value.int IntKind.u8 0) = B8 [0, 0, 0, 0] from rfl, ← B8_append] at h
    exact h
  clear harr harr2 hgr2 hbl
  go_loopw [8, 22] (fun cv iv wr => ∃ (k c : Nat) (dn : List Nat), k ≤ n ∧ c ≤ 1000 ∧ iv = .int .i64 k ∧ cv = .int .i64 c ∧ Hid (dn.length = k) ∧ Hid (dn ++ sml b (ds.drop k) c = sml b ds mo) ∧
      Hid (Arr wr g 5 (B8 (dn ++ (ds.drop k ++ [0, 0, 0, 0])))) ∧ Below w.heap.size w wr) (fun _ iv _ => n - (intOf iv).toNat)
  case atStart => exact ⟨0, mo, [], by omega, by omega, rfl, rfl, rfl, rfl, hS2, hB⟩
  case round =>
    obtain ⟨k, c, dn, hk, hc1, rfl, rfl, hdl, heq, ha, hb⟩ := hrel
    by_cases hlt : k < n
    · obtain ⟨d, hd⟩ : ∃ d, ds[k]? = some d := ⟨_, List.getElem?_eq_getElem (by have := hn.out; omega)⟩
      have hd10 : d < 10 := ht.get hd
      have hget : (dn ++ (ds.drop k ++ [0, 0, 0, 0]))[k]? = some d := by
        have h1 := hdl.out
        rw [List.getElem?_append_right (by omega), h1, Nat.sub_self, List.getElem?_append_left (by have := hn.out; simp; omega), List.getElem?_drop]
        simpa using hd
      have hcell := ha.out.cell' (B8_get hget)
      have hfro := ha.out.frozen k
      have hdr : ds.drop k = d :: ds.drop (k + 1) := by
        have := (List.getElem?_eq_some_iff.1 hd)
        rw [List.drop_eq_getElem_cons this.1, this.2]
      have HDR := Lib.hid hdr; clear hdr
      have HG := Lib.hid hget; clear hget
      have HDD := Lib.hid hd; clear hd
      have hmul : 0 ≤ (d : Int) * (b : Int) := Int.mul_nonneg (by omega) (by omega)
      have hmul2 : (d : Int) * (b : Int) ≤ 9 * 256 := Int.mul_le_mul (by omega) h2 (by omega) (by omega)
      go_wp2
      go_roundw
      case rel =>
        refine ⟨k + 1, (c + d * b) / 10, dn ++ [(c + d * b) % 10], by omega, by have := hc1; omega, by go_num, i64e (by omega), ?_, ?_, ?_, hb.setCell (by have := hg.out; show w.heap.size ≤ g; omega) _⟩
        · show _ = _; have := hdl.out; simp [this]
        · show _ = _; rw [← heq.out, HDR.out]; simp [sml]
        · have h1 := ha.out.store k (.int .u8 (((c + d * b) % 10 : Nat) : Int))
          rw [HDR.out, B8_set, List.cons_append, set_mid hdl.out] at h1
          have e : ((((c + d * b) % 10 : Nat) : Nat) : Int) = ((c : Int) + (d : Int) * (b : Int)) % 10 := by omega
          rw [e] at h1
          exact h1
      case measure => simp [intOf]; omega
    · obtain rfl : k = n := by omega
      have hkl := hn.out
      have hdrop : ds.drop k = [] := List.drop_eq_nil_of_le (by omega)
      have hown : wr.ownsRow w.heap.size 5 1 (.slice (some ⟨g, 0, none⟩) k (k + 4)) k (B8 dn) := by
        have h1 := ha.out
        rw [hdrop] at h1
        have h2 := arr_own (base := w.heap.size) (n := k) (c := k + 4) h1 (by have := hg.out; omega) (by omega) (by have := hdl.out; simp [length_B8]; omega) (by unfold maxLen; omega)
        have h3 : (B8 (dn ++ ([] ++ [0, 0, 0, 0]))).take k = B8 dn := by
          rw [B8_append, List.take_append_of_le_length (by have := hdl.out; simp [length_B8]; omega), List.take_of_length_le (by have := hdl.out; simp [length_B8]; omega)]
        rwa [h3] at h2
      have heq2 : Hid (dn ++ dg c = sml b ds mo) := by
        have h1 := heq.out
        rw [hdrop] at h1
        exact h1
      have htot : Hid ((sml b ds mo).length ≤ k + 4) := by
        show _ ≤ _
        rw [← heq2.out, List.length_append, hdl.out]
        have : (dg c).length ≤ 4 := dg_len_le.2 (by omega)
        omega
      have hw0 := hg.out
      have hgs : w.heap.size ≤ g := by omega
      have HK := Lib.hid hkl
      have hdl' : Hid (k = dn.length) := hdl.out.symm
      clear hdrop heq ha hdl hkl hw0
      go_wp2
      go_loopw [7, 8] (fun ov cv wx => ∃ (q c : Nat) (dn : List Nat), c ≤ 1000 ∧ cv = .int .i64 c ∧ Hid (dn ++ dg c = sml b ds mo) ∧ Hid (q = dn.length) ∧ wx.ownsRow w.heap.size 5 1 ov q (B8 dn) ∧ Below w.heap.size w wx)
        (fun _ cv _ => (intOf cv).toNat)
      case atStart => exact ⟨_, c, dn, hc1, rfl, heq2, hdl', hown, hb⟩
      case round =>
        clear hown heq2 hb hc1 hdl'
        obtain ⟨q, c, dn, hc1, rfl, heq, hql, hown, hb⟩ := hrel
        by_cases h0 : c = 0
        · subst h0
          go_wp2
          go_ret
          have h1 := heq.out
          rw [dg_zero, List.append_nil] at h1
          rw [← h1]
          exact own_ret hown hb (Nat.le_refl _)
        · have hc0 : 0 < c := by omega
          have hdg := dg_pos h0
          have hqb : q ≤ 4294967296 + 4 := by
            have h1 := htot.out
            rw [← heq.out, List.length_append] at h1
            have := hql.out
            omega
          have HDG := Lib.hid hdg; clear hdg
          go_wp2_with (at_builtin; go_loud (with_reducible refine wpList_ap1 rfl (.tmp 45) (.tmp 49) 26 rfl w.heap.size 5 _ _ Try.underlying26 Try.info5 rfl _ q (B8 dn) rfl (hown.alloc _) ⟨wr.heap.size, 0, none⟩ _ (.int .u8 ((c : Int) % 10)) rfl ?a1 rfl ?a2 ?a3 ?a4 ?_); rotate_right; intro v' w3 hown3 hgr3)
          case a1 => exact cell_new _ _ _
          case a2 => unfold maxLen; omega
          case a3 => omega
          case a4 => have := hb.size; simp; omega
          · have hlo := hown.lt
            refine ⟨⟨q + 1, c / 10, dn ++ [c % 10], by omega, i64e (by omega), ?_, ?_, ?_, ?_⟩, by simp [intOf]; omega⟩
            · show _ = _
              rw [← heq.out, HDG.out]; simp
            · show _ = _
              have := hql.out; simp; omega
            · rw [B8_append]; exact hown3
            · refine (hb.alloc hb.size _).grown hgr3 (by have := hb.size; simp; omega) (fun k e => (hlo k e).1)
end Go.Proofs.Ytgnddobonboloaa
