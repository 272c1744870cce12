/- The walk of plus of integer. -/
import Derived.Test.YtgnddobonboloaaTrim
namespace Go.Proofs.Ytgnddobonboloaa
open Go.RowKit

theorem headD_drop {b : List Nat} {k y : Nat} (h : b[k]? = some y) : (b.drop k).headD 0 = y := by
  rw [List.headD_eq_head?_getD, List.head?_drop, h]; rfl
theorem headD_drop_none {b : List Nat} {k : Nat} (h : b.length ≤ k) : (b.drop k).headD 0 = 0 := by
  rw [List.drop_eq_nil_of_le h]; rfl
theorem dropc {b : List Nat} {k y : Nat} (h : b[k]? = some y) : b.drop k = y :: b.drop (k + 1) := by
  have := (List.getElem?_eq_some_iff.1 h)
  rw [List.drop_eq_getElem_cons this.1, this.2]
theorem get_mid {dn us : List Nat} {k x : Nat} (hd : dn.length = k) (h : us[k]? = some x) : (dn ++ us.drop k)[k]? = some x := by
  rw [List.getElem?_append_right (by omega), hd, Nat.sub_self, List.getElem?_drop]
  simpa using h
theorem store_mid {w : World} {g : Nat} {t : TypeId} {dn us : List Nat} {k x y : Nat} (ha : Arr w g t (B8 (dn ++ us.drop k))) (hd : dn.length = k) (h : us[k]? = some x) :
    Arr (w.setCell ⟨g, k, none⟩ (.int .u8 (y : Int))) g t (B8 (dn ++ [y] ++ us.drop (k + 1))) := by
  have h1 := ha.store k (.int .u8 (y : Int))
  rw [dropc h, B8_set, set_mid hd] at h1
  exact h1
/-- One step of the sum. -/
theorem addc_step {L vs dn T : List Nat} {k c x y : Nat} (h : Hid (dn ++ addc (L.drop k) (vs.drop k) c = T)) (hx : L[k]? = some x) (hy : (vs.drop k).headD 0 = y) :
    Hid (dn ++ [(c + y + x) % 10] ++ addc (L.drop (k + 1)) (vs.drop (k + 1)) ((c + y + x) / 10) = T) := by
  have h1 := h.out
  rw [dropc hx, addc, hy, List.tail_drop] at h1
  show _ = _
  rw [← h1]; simp
theorem retS_eq {w : World} {xs ys : List Value} {e : Ending} {w' : World} (h : RetS w xs e w') (he : xs = ys) : RetS w ys e w' := he ▸ h

set_option maxHeartbeats 2000000 in
theorem plus_ge (A B : Option Addr) (n c n' c' : Nat) (us vs : List Nat) (w : World) (hn : Hid (n = us.length)) (hn' : Hid (n' = vs.length)) (hr : Rd w A (B8 us)) (hr' : Rd w B (B8 vs)) (ht : Ten us) (ht' : Ten vs)
    (hle : n'≤n) (hm : n ≤ 4294967296) (_hm' : n' ≤ 4294967296) :
    Calls Try.prog 51 #[.slice A n c, .slice B n' c'] w (RetS w (B8 (dg (val us + val vs)))) := by
  have hsum := addc_sum (a := us) (b := vs) (by have := hn.out; have := hn'.out; omega) ht ht'
  have HSUM := Lib.hid hsum; clear hsum
  have hta : Ten (addc (us ++ [0]) vs 0) := ten_addc _ _ _
  go_enter Try.func51, Try.ntmps51
  go_wp2_with (first | (at_make; go_loud (refine wpList_mk rfl _ _ 26 rfl 5 _ _ Try.underlying26 Try.info5 rfl _ _ _ _ rfl rfl (n + 1) (n + 1) (by omega) (by omega) (by omega) (by omega) (by unfold maxLen; omega) ?_; intro g w1 hg harr hbl hsz)) | (with_reducible refine wpList_cp rfl (.tmp 19) (.tmp 20) 26 26 rfl 5 Try.underlying26 Try.size5 g (n + 1) (n + 1) (n) c A rfl rfl _ _ harr.out (by simp) (B8 us) (hr.keep hbl) (by rw [length_B8]; exact hn.out.symm) (by omega) (B8_one _) ?_; intro w2 harr2 hgr2 hsz2))
  have hB : Below w.heap.size w w2 := hbl.grown hgr2 hbl.size (fun k e => by have := hg.out; have := Option.some.inj e; omega)
  have hS2 : Hid (Arr w2 g 5 (B8 (us ++ [0]))) := by
    have h := harr2.out
    rw [List.drop_replicate, show n + 1 - n = 1 by omega, show List.replicate 1 (Value.int IntKind.u8 0) = B8 [0] from rfl, ← B8_append] at h
    exact h
  clear harr harr2 hgr2 hbl
  have HL : Hid ((us ++ [0]).length = n + 1) := by show _ = _; have := hn.out; simp; omega
  have hLT : Ten (us ++ [0]) := ht.append (Ten.cons (by omega) Ten.nil)
  generalize hLL : us ++ [0] = L at *
  clear hLL
  go_loopw [6, 24] (fun cv iv wr => ∃ (k q : Nat) (dn : List Nat), k ≤ n + 1 ∧ q ≤ 1 ∧ iv = .int .i64 k ∧ cv = .int .u8 q ∧ Hid (dn.length = k) ∧ Hid (dn ++ addc (L.drop k) (vs.drop k) q = addc L vs 0) ∧
      Hid (Arr wr g 5 (B8 (dn ++ L.drop k))) ∧ Below w.heap.size w wr) (fun _ iv _ => n + 1 - (intOf iv).toNat)
  case atStart => exact ⟨0, 0, [], by omega, by omega, rfl, rfl, rfl, rfl, hS2, hB⟩
  case round =>
    obtain ⟨k, q, dn, hk, hq, rfl, rfl, hdl, heq, ha, hb⟩ := hrel
    have hgs : w.heap.size ≤ g := by have := hg.out; omega
    by_cases hlt : k < n + 1
    · obtain ⟨x, hx⟩ : ∃ x, L[k]? = some x := ⟨_, List.getElem?_eq_getElem (by have := HL.out; omega)⟩
      have hx10 := hLT.get hx
      have hcell := ha.out.cell' (B8_get (get_mid hdl.out hx))
      have hfr := ha.out.frozen k
      by_cases hks : k < n'
      · obtain ⟨y, hy⟩ : ∃ y, vs[k]? = some y := ⟨_, List.getElem?_eq_getElem (by have := hn'.out; omega)⟩
        have hy10 := ht'.get hy
        obtain ⟨ad, rfl, hcy⟩ := hr'.at_ (B8_get hy)
        have hcy' := (hb.cell (block_lt_of_cell hcy)).trans hcy
        have HST := addc_step heq hx (headD_drop hy)
        have HAR := Lib.hid (store_mid (y := (q + y + x) % 10) ha.out hdl.out hx)
        have hcast : (((q + y + x) % 10 : Nat) : Int) = ((q : Int) + (y : Int) + (x : Int)) % 10 := by omega
        rw [hcast] at HAR
        clear hx hy hcy hcast heq
        go_wp2
        go_roundw
        case rel => exact ⟨k + 1, (q + y + x) / 10, _, by omega, by omega, by go_num, u8e (by omega), by show _ = _; have := hdl.out; simp [this], HST, HAR, hb.setCell hgs _⟩
        case measure => simp [intOf]; omega
      · have HST := addc_step (y := 0) heq hx (headD_drop_none (by have := hn'.out; omega))
        have HAR := Lib.hid (store_mid (y := (q + 0 + x) % 10) ha.out hdl.out hx)
        have hcast : (((q + 0 + x) % 10 : Nat) : Int) = ((q : Int) + (x : Int)) % 10 := by omega
        rw [hcast] at HAR
        clear hx hcast heq
        go_wp2
        go_roundw
        case rel => exact ⟨k + 1, (q + 0 + x) / 10, _, by omega, by omega, by go_num, u8e (by omega), by show _ = _; have := hdl.out; simp [this], HST, HAR, hb.setCell hgs _⟩
        case measure => simp [intOf]; omega
    · obtain rfl : k = n + 1 := by omega
      have hdr : L.drop (n + 1) = [] := List.drop_eq_nil_of_le (by have := HL.out; omega)
      have HD : Hid (dn = addc L vs 0) := by
        have h1 := heq.out
        rw [hdr] at h1
        show _ = _
        simpa [addc] using h1
      have hrd : Rd wr (some ⟨g, 0, none⟩) (B8 dn) := by
        have h1 := ha.out.rd
        rw [hdr] at h1
        simpa using h1
      have htd : Ten dn := by rw [HD.out]; exact hta
      clear hdr heq ha
      go_wp2_with (go_at_call 56; go_loud (refine (trim_any _ _ _ dn _ (show Hid (_ = _) from hdl.out.symm) hrd htd (Nat.le_refl _) (by unfold maxLen; omega)).mono ?_; rintro e w' ⟨kk, rfl, hkk, hkn, hrr, rfl⟩))
      go_ret
      refine retS_eq (xs := B8 (dg (val dn))) ⟨some ⟨g, 0, none⟩, kk, n + 1, rfl, ?_, by have := hdl.out; omega, hrr, ?_, hb⟩ (by rw [HD.out, HSUM.out])
      · show _ = _; rw [length_B8]; exact hkk.out
      · rintro ad e; obtain rfl := Option.some.inj e; exact hgs
set_option maxHeartbeats 2000000 in
theorem plus_lt (A B : Option Addr) (n c n' c' : Nat) (us vs : List Nat) (w : World) (hn : Hid (n = us.length)) (hn' : Hid (n' = vs.length)) (hr : Rd w A (B8 us)) (hr' : Rd w B (B8 vs)) (ht : Ten us) (ht' : Ten vs)
    (hle : n<n') (_hm : n ≤ 4294967296) (hm' : n' ≤ 4294967296) :
    Calls Try.prog 51 #[.slice A n c, .slice B n' c'] w (RetS w (B8 (dg (val us + val vs)))) := by
  have hsum := addc_sum (a := vs) (b := us) (by have := hn.out; have := hn'.out; omega) ht' ht
  have HSUM := Lib.hid hsum; clear hsum
  have hta : Ten (addc (vs ++ [0]) us 0) := ten_addc _ _ _
  go_enter Try.func51, Try.ntmps51
  go_wp2_with (first | (at_make; go_loud (refine wpList_mk rfl _ _ 26 rfl 5 _ _ Try.underlying26 Try.info5 rfl _ _ _ _ rfl rfl (n' + 1) (n' + 1) (by omega) (by omega) (by omega) (by omega) (by unfold maxLen; omega) ?_; intro g w1 hg harr hbl hsz)) | (with_reducible refine wpList_cp rfl (.tmp 19) (.tmp 20) 26 26 rfl 5 Try.underlying26 Try.size5 g (n' + 1) (n' + 1) (n') c' B rfl rfl _ _ harr.out (by simp) (B8 vs) (hr'.keep hbl) (by rw [length_B8]; exact hn'.out.symm) (by omega) (B8_one _) ?_; intro w2 harr2 hgr2 hsz2))
  have hB : Below w.heap.size w w2 := hbl.grown hgr2 hbl.size (fun k e => by have := hg.out; have := Option.some.inj e; omega)
  have hS2 : Hid (Arr w2 g 5 (B8 (vs ++ [0]))) := by
    have h := harr2.out
    rw [List.drop_replicate, show n' + 1 - n' = 1 by omega, show List.replicate 1 (Value.int IntKind.u8 0) = B8 [0] from rfl, ← B8_append] at h
    exact h
  clear harr harr2 hgr2 hbl
  have HL : Hid ((vs ++ [0]).length = n' + 1) := by show _ = _; have := hn'.out; simp; omega
  have hLT : Ten (vs ++ [0]) := ht'.append (Ten.cons (by omega) Ten.nil)
  generalize hLL : vs ++ [0] = L at *
  clear hLL
  go_loopw [6, 24] (fun cv iv wr => ∃ (k q : Nat) (dn : List Nat), k ≤ n' + 1 ∧ q ≤ 1 ∧ iv = .int .i64 k ∧ cv = .int .u8 q ∧ Hid (dn.length = k) ∧ Hid (dn ++ addc (L.drop k) (us.drop k) q = addc L us 0) ∧
      Hid (Arr wr g 5 (B8 (dn ++ L.drop k))) ∧ Below w.heap.size w wr) (fun _ iv _ => n' + 1 - (intOf iv).toNat)
  case atStart => exact ⟨0, 0, [], by omega, by omega, rfl, rfl, rfl, rfl, hS2, hB⟩
  case round =>
    obtain ⟨k, q, dn, hk, hq, rfl, rfl, hdl, heq, ha, hb⟩ := hrel
    have hgs : w.heap.size ≤ g := by have := hg.out; omega
    by_cases hlt : k < n' + 1
    · obtain ⟨x, hx⟩ : ∃ x, L[k]? = some x := ⟨_, List.getElem?_eq_getElem (by have := HL.out; omega)⟩
      have hx10 := hLT.get hx
      have hcell := ha.out.cell' (B8_get (get_mid hdl.out hx))
      have hfr := ha.out.frozen k
      by_cases hks : k < n
      · obtain ⟨y, hy⟩ : ∃ y, us[k]? = some y := ⟨_, List.getElem?_eq_getElem (by have := hn.out; omega)⟩
        have hy10 := ht.get hy
        obtain ⟨ad, rfl, hcy⟩ := hr.at_ (B8_get hy)
        have hcy' := (hb.cell (block_lt_of_cell hcy)).trans hcy
        have HST := addc_step heq hx (headD_drop hy)
        have HAR := Lib.hid (store_mid (y := (q + y + x) % 10) ha.out hdl.out hx)
        have hcast : (((q + y + x) % 10 : Nat) : Int) = ((q : Int) + (y : Int) + (x : Int)) % 10 := by omega
        rw [hcast] at HAR
        clear hx hy hcy hcast heq
        go_wp2
        go_roundw
        case rel => exact ⟨k + 1, (q + y + x) / 10, _, by omega, by omega, by go_num, u8e (by omega), by show _ = _; have := hdl.out; simp [this], HST, HAR, hb.setCell hgs _⟩
        case measure => simp [intOf]; omega
      · have HST := addc_step (y := 0) heq hx (headD_drop_none (by have := hn.out; omega))
        have HAR := Lib.hid (store_mid (y := (q + 0 + x) % 10) ha.out hdl.out hx)
        have hcast : (((q + 0 + x) % 10 : Nat) : Int) = ((q : Int) + (x : Int)) % 10 := by omega
        rw [hcast] at HAR
        clear hx hcast heq
        go_wp2
        go_roundw
        case rel => exact ⟨k + 1, (q + 0 + x) / 10, _, by omega, by omega, by go_num, u8e (by omega), by show _ = _; have := hdl.out; simp [this], HST, HAR, hb.setCell hgs _⟩
        case measure => simp [intOf]; omega
    · obtain rfl : k = n' + 1 := by omega
      have hdr : L.drop (n' + 1) = [] := List.drop_eq_nil_of_le (by have := HL.out; omega)
      have HD : Hid (dn = addc L us 0) := by
        have h1 := heq.out
        rw [hdr] at h1
        show _ = _
        simpa [addc] using h1
      have hrd : Rd wr (some ⟨g, 0, none⟩) (B8 dn) := by
        have h1 := ha.out.rd
        rw [hdr] at h1
        simpa using h1
      have htd : Ten dn := by rw [HD.out]; exact hta
      clear hdr heq ha
      go_wp2_with (go_at_call 56; go_loud (refine (trim_any _ _ _ dn _ (show Hid (_ = _) from hdl.out.symm) hrd htd (Nat.le_refl _) (by unfold maxLen; omega)).mono ?_; rintro e w' ⟨kk, rfl, hkk, hkn, hrr, rfl⟩))
      go_ret
      refine retS_eq (xs := B8 (dg (val dn))) ⟨some ⟨g, 0, none⟩, kk, n' + 1, rfl, ?_, by have := hdl.out; omega, hrr, ?_, hb⟩ (by rw [HD.out, HSUM.out]; rw [Nat.add_comm])
      · show _ = _; rw [length_B8]; exact hkk.out
      · rintro ad e; obtain rfl := Option.some.inj e; exact hgs

theorem plus_any (A B : Option Addr) (n c n' c' p q : Nat) (w : World) (hn : Hid (n = (dg p).length)) (hn' : Hid (n' = (dg q).length)) (hr : Rd w A (B8 (dg p))) (hr' : Rd w B (B8 (dg q)))
    (hm : n ≤ 4294967296) (hm' : n' ≤ 4294967296) :
    Calls Try.prog 51 #[.slice A n c, .slice B n' c'] w (RetS w (B8 (dg (p + q)))) := by
  have h := if h : n < n' then plus_lt A B n c n' c' _ _ w hn hn' hr hr' (ten_dg p) (ten_dg q) h hm hm' else plus_ge A B n c n' c' _ _ w hn hn' hr hr' (ten_dg p) (ten_dg q) (by omega) hm hm'
  rwa [val_dg, val_dg] at h
end Go.Proofs.Ytgnddobonboloaa
