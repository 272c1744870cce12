/- The walk of divide of integer. -/
import Derived.Test.YtgnddobonboloaaSize
import Derived.Test.YtgnddobonboloaaSmall
import Derived.Test.YtgnddobonboloaaMinus
namespace Go.Proofs.Ytgnddobonboloaa
open Go.RowKit

theorem trim_dg (A : Option Addr) (n c m : Nat) (w : World) (hn : Hid (n = (dg m).length)) (hr : Rd w A (B8 (dg m))) (hc : n ≤ c) (hm : n ≤ 4294967296) :
    Calls Try.prog 56 #[.slice A n c] w fun e w' => e = .returned (.slice A n c) ∧ w = w' := by
  refine (trim_any A n c (dg m) w hn hr (ten_dg m) hc (by unfold maxLen; omega)).mono ?_
  rintro e w' ⟨k, he, hk, _, _, hw⟩
  have h1 := hk.out
  rw [val_dg] at h1
  have h2 := hn.out
  obtain rfl : k = n := by omega
  exact ⟨he, hw⟩

/-- What a cell counts. -/
def cntAt (w : World) (g i : Nat) : Nat := match w.cell? ⟨g, i, none⟩ with | some v => (intOf v).toNat | none => 0
theorem cntAt_arr {w : World} {g i m : Nat} {t : TypeId} {us : List Nat} (h : Arr w g t (B8 us)) (hm : us[i]? = some m) : cntAt w g i = m := by
  unfold cntAt
  rw [h.cell' (B8_get hm)]
  simp [intOf]

def DivPost (p q : Nat) (w : World) (e : Ending) (w' : World) : Prop :=
  ∃ A n c A' n' c', e = .returned (.tuple #[.slice A n c, .slice A' n' c']) ∧ Hid (n = (dg (p / q)).length) ∧ n ≤ c ∧ Rd w' A (B8 (dg (p / q))) ∧ From w.heap.size A ∧
    Hid (n' = (dg (p % q)).length) ∧ n' ≤ c' ∧ Rd w' A' (B8 (dg (p % q))) ∧ Below w.heap.size w w'

set_option maxHeartbeats 4000000 in
theorem divide_any (A B : Option Addr) (n c n' c' p q : Nat) (w : World) (hn : Hid (n = (dg p).length)) (hn' : Hid (n' = (dg q).length)) (hr : Rd w A (B8 (dg p))) (hr' : Rd w B (B8 (dg q)))
    (hm : n ≤ 1000000) (hm' : n' ≤ 1000000) (hq : 0 < q) :
    Calls Try.prog 57 #[.slice A n c, .slice B n' c'] w (DivPost p q w) := by
  have ht := ten_dg p
  have HV := Lib.hid (val_dg p)
  generalize dg p = ds at *
  go_enter Try.func57, Try.ntmps57
  go_wp2_with (at_make; go_loud (refine wpList_mk rfl _ _ 26 rfl 5 _ _ Try.underlying26 Try.info5 rfl _ _ _ _ rfl rfl (n) (n) (by omega) (by omega) (by omega) (by omega) (by unfold maxLen; omega) ?_; intro g w1 hg harr hbl hsz))
  have hcs : Hid (Arr w1 g 5 (B8 (List.replicate n 0 ++ []))) := by
    have h := harr.out
    show Arr _ _ _ _
    rw [List.append_nil]
    unfold B8
    rwa [List.map_replicate]
  have hgs : w.heap.size = g := hg.out.symm
  have HGS := Lib.hid hgs
  clear harr hgs hg
  go_loopw [7, 8] (fun rv iv wr => ∃ (k r : Nat) (qs : List Nat) (A1 : Option Addr) (n1 c1 : Nat), k ≤ n ∧ r < q ∧ iv = .int .i64 ((k : Int) - 1) ∧ rv = .slice A1 n1 c1 ∧ Hid (n1 = (dg r).length) ∧ n1 ≤ c1 ∧ Rd wr A1 (B8 (dg r)) ∧
      (∀ ad, A1 = some ad → ad.block ≠ g) ∧ Hid (val qs * q + r = val (ds.drop k)) ∧ Ten qs ∧ Hid (qs.length + k = n) ∧ Hid (Arr wr g 5 (B8 (List.replicate k 0 ++ qs))) ∧ Below w.heap.size w wr ∧ g < wr.heap.size) (fun _ iv _ => (intOf iv + 1).toNat)
  case atStart =>
    refine ⟨n, 0, [], none, 0, 0, Nat.le_refl _, hq, rfl, rfl, by show _ = _; rw [dg_zero]; rfl, Nat.le_refl _, by rw [dg_zero]; exact Rd.nil, fun _ h => (by cases h), ?_, Ten.nil, by show _ = _; simp, hcs, hbl, by have := hsz.out; omega⟩
    show _ = _
    rw [List.drop_eq_nil_of_le (by have := hn.out; omega)]; simp [val]
  case round =>
    obtain ⟨k, r, qs, A1, n1, c1, hk, hrq, rfl, rfl, hn1, hc1, hr1, hA1, hval, htq, hlq, ha, hb, hgw⟩ := hrel
    clear hcs hbl
    have hn1q : n1 ≤ n' := by have h1 := hn1.out; have h2 := hn'.out; have := dg_len_mono (Nat.le_of_lt hrq); omega
    by_cases h0 : k = 0
    · subst h0
      have hv := hval.out
      rw [List.drop_zero, HV.out] at hv
      have hdq : val qs = p / q := by rw [← hv, Nat.add_comm, Nat.mul_comm, Nat.add_mul_div_left _ _ hq, Nat.div_eq_of_lt hrq]; omega
      have hmq : r = p % q := by rw [← hv, Nat.add_comm, Nat.mul_comm, Nat.add_mul_mod_self_left, Nat.mod_eq_of_lt hrq]
      have HDQ := Lib.hid hdq
      have HMQ := Lib.hid hmq
      have hrd : Rd wr (some ⟨g, 0, none⟩) (B8 qs) := by have := ha.out.rd; simpa using this
      have hlq' : Hid (n = qs.length) := by show _ = _; have := hlq.out; omega
      clear hv hdq hmq hval ha hlq
      go_wp2_with (go_at_call 56; go_loud (refine (trim_any _ _ _ qs _ hlq' hrd htq (Nat.le_refl _) (by unfold maxLen; omega)).mono ?_; rintro e w' ⟨kk, rfl, hkk, hkn, hrr, rfl⟩))
      go_ret2
      refine ⟨some ⟨g, 0, none⟩, kk, n, A1, n1, c1, rfl, ?_, ?_, ?_, ?_, ?_, hc1, ?_, hb⟩
      · rw [← HDQ.out]; exact hkk
      · have := hlq'.out; omega
      · rw [← HDQ.out]; exact hrr
      · rintro ad e; obtain rfl := Option.some.inj e; have := HGS.out; show w.heap.size ≤ g; omega
      · rw [← HMQ.out]; exact hn1
      · rw [← HMQ.out]; exact hr1
    · obtain ⟨d, hdd⟩ : ∃ d, ds[k-1]? = some d := ⟨_, List.getElem?_eq_getElem (by have := hn.out; omega)⟩
      have hd10 := ht.get hdd
      obtain ⟨ad, rfl, hcell0⟩ := hr.at_ (B8_get hdd)
      have hcell := (hb.cell (block_lt_of_cell hcell0)).trans hcell0
      have hk1 : 0 < k := by omega
      have e1 : ((k:Int) - 1).toNat = k - 1 := by omega
      have b1 : 0 ≤ (k:Int) - 1 := by omega
      have b2 : (k:Int) - 1 < n := by omega
      have hM : r * 10 + d < 10 * q := by omega
      have HD := Lib.hid hdd
      clear hdd hcell0
      have hMl : (dg (r * 10 + d)).length ≤ 4294967296 := by
        have h1 : (dg q).length ≤ n' := by have := hn'.out; omega
        have h2 := dg_len_le.1 h1
        have h3 : r * 10 + d < 10 ^ (n' + 1) := by rw [Nat.pow_succ]; omega
        have := dg_len_le.2 h3
        omega
      have HS : ∀ W, Rd W A1 (B8 (dg r)) → Calls Try.prog 41 #[.slice A1 n1 c1, .int .i64 10, .int .i64 d] W (RetS W (B8 (dg (r * 10 + d)))) := fun W h => by
        have := small_any A1 n1 c1 r 10 d W hn1 h hc1 (by omega) (by omega) (by omega) (by omega) (by omega)
        simpa using this
      have HSM := Lib.hid HS
      clear HS
      go_wp2_with (first | (go_at_call 41; go_loud (refine (HSM.out _ hr1).mono ?_; rintro e w2 ⟨A2, n2, c2, rfl, hn2, hc2, hr2, hf2, hb2⟩)) | (go_at_call 56; go_loud (refine (trim_dg A2 n2 c2 (r * 10 + d) w2 (by have := hn2.out; rw [length_B8] at this; exact this) hr2 hc2 (by have := hn2.out; rw [length_B8] at this; omega)).mono ?_; rintro e w3 ⟨rfl, rfl⟩)))
      have hn2' : Hid (n2 = (dg (r * 10 + d)).length) := by have := hn2.out; rw [length_B8] at this; exact this
      have e0 : List.replicate k 0 ++ qs = List.replicate (k - 1) 0 ++ 0 :: qs := by
        have : List.replicate k 0 = List.replicate (k - 1) 0 ++ [0] := by rw [← List.replicate_succ', show k - 1 + 1 = k by omega]
        rw [this, List.append_assoc]; rfl
      have ha2 : Hid (Arr w2 g 5 (B8 (List.replicate (k - 1) 0 ++ 0 :: qs))) := by rw [← e0]; exact ha.out.keep hb2
      have hB2 : Below w.heap.size w w2 := hb.trans (hb2.mono hb.size)
      have hgw2 : g < w2.heap.size := by have := hb2.size; omega
      have hA2 : ∀ ad, A2 = some ad → ad.block ≠ g := fun ad e => by have := hf2 ad e; omega
      have hvalk : Hid (val (ds.drop (k - 1)) = d + 10 * val (ds.drop k)) := by
        show _ = _
        have := List.getElem?_eq_some_iff.1 HD.out
        rw [List.drop_eq_getElem_cons this.1, this.2, val, show k - 1 + 1 = k by omega]
      clear ha hb hr1 hA1 hn2 hb2 hf2 e0 hgw hcell
      go_loopw [7] (fun rv wr => ∃ (r' t : Nat) (A3 : Option Addr) (n3 c3 : Nat), rv = .slice A3 n3 c3 ∧ Hid (n3 = (dg r').length) ∧ n3 ≤ c3 ∧ n3 ≤ 4294967296 ∧ Rd wr A3 (B8 (dg r')) ∧ (∀ ad, A3 = some ad → ad.block ≠ g) ∧
          Hid (t * q + r' = r * 10 + d) ∧ t ≤ 9 ∧ Hid (Arr wr g 5 (B8 (List.replicate (k - 1) 0 ++ t :: qs))) ∧ Below w.heap.size w wr ∧ g < wr.heap.size) (fun _ wr => 10 - cntAt wr g (k - 1))
      case atStart => exact ⟨r * 10 + d, 0, A2, n2, c2, rfl, hn2', hc2, by have := hn2'.out; omega, hr2, hA2, by show _ = _; omega, by omega, ha2, hB2, hgw2⟩
      case round =>
        clear hr2 hA2 hn2' ha2 hB2 hgw2 hc2 HSM
        obtain ⟨r', t, A3, n3, c3, rfl, hn3, hc3, hn3b, hr3, hA3, hsum, ht9, ha, hb, hgw⟩ := hrel
        have hr0 := (hr'.below hb (fun ad e => by
          by_cases hq0 : (dg q).length = 0
          · rw [dg_length_zero] at hq0; omega
          · obtain ⟨u, hu⟩ : ∃ u, (B8 (dg q))[0]? = some u := ⟨_, List.getElem?_eq_getElem (by rw [length_B8]; omega)⟩
            obtain ⟨ad', e', hc'⟩ := hr' 0 u hu
            rw [e] at e'
            obtain rfl := Option.some.inj e'
            have := block_lt_of_cell hc'
            rwa [blk_add] at this))
        by_cases hlt : r' < q
        · have hcm : cmpN r' q = -1 := by unfold cmpN; rw [if_pos hlt]
          have hsz : Calls Try.prog 52 #[.slice A3 n3 c3, .slice B n' c'] wr fun e w' => e = .returned (.int .i64 (-1)) ∧ ∃ k, w' = wr.drewN k := by
            have := size_any A3 B n3 n' c3 c' r' q wr hn3 hn' hr3 hr0 hn3b (by omega); rwa [hcm] at this
          have HSZ := Lib.hid hsz
          clear hsz hcm
          go_wp2_with (go_at_call 52; go_loud (refine HSZ.out.mono ?_; rintro e w6 ⟨rfl, k6, rfl⟩))
          go_roundw
          case rel =>
            refine ⟨k - 1, r', t :: qs, A3, n3, c3, by omega, hlt, i64e (by omega), rfl, hn3, hc3, hr3.drewN k6, hA3, ?_, Ten.cons (by omega) htq, ?_, ha, Below.drewN' hb k6, hgw⟩
            · show _ = _
              rw [hvalk.out, ← hval.out, val, Nat.add_mul, Nat.mul_assoc]
              have := hsum.out
              omega
            · show _ = _
              have := hlq.out
              simp; omega
          case measure => simp [intOf]; omega
        · have hge : (0 : Int) ≤ cmpN r' q := by unfold cmpN; rw [if_neg hlt]; split <;> omega
          have hsz : Calls Try.prog 52 #[.slice A3 n3 c3, .slice B n' c'] wr fun e w' => e = .returned (.int .i64 (cmpN r' q)) ∧ ∃ k, w' = wr.drewN k := size_any A3 B n3 n' c3 c' r' q wr hn3 hn' hr3 hr0 hn3b (by omega)
          have HSZ := Lib.hid hsz
          have ht8 : t + 1 ≤ 9 := by
            have h1 := hsum.out
            have h2 : (t + 1) * q ≤ r * 10 + d := by rw [Nat.add_mul]; omega
            have h3 : (t + 1) * q < 10 * q := by omega
            have := Nat.lt_of_mul_lt_mul_right h3
            omega
          have hget : (List.replicate (k - 1) 0 ++ t :: qs)[k - 1]? = some t := by rw [List.getElem?_append_right (by simp)]; simp
          have HG := Lib.hid hget
          have hmi : ∀ W, Rd W A3 (B8 (dg r')) → Rd W B (B8 (dg q)) → Calls Try.prog 58 #[.slice A3 n3 c3, .slice B n' c'] W (RetS W (B8 (dg (r' - q)))) := fun W h h' => minus_any A3 B n3 c3 n' c' r' q W hn3 hn' h h' hn3b (by omega)
          have HMI := Lib.hid hmi
          clear hsz hmi hget
          go_wp2_with (first | (go_at_call 52; go_loud (refine HSZ.out.mono ?_; rintro e w6 ⟨rfl, k6, rfl⟩)) | (go_at_call 58; go_loud (refine (HMI.out _ (hr3.drewN _) (hr0.drewN _)).mono ?_; rintro e w5 ⟨A5, n5, c5, rfl, hn5, hc5, hr5, hf5, hb5⟩; have ha5 := Lib.hid ((show Arr (wr.drewN k6) g _ _ from ha.out).keep hb5); have c5' := ha5.out.cell' (B8_get HG.out); have f5' := ha5.out.frozen (k - 1))))
          go_roundw
          case rel =>
            have hn5' := hn5.out
            rw [length_B8] at hn5'
            have hgw5 : g < w5.heap.size := by have := hb5.size; simp at this; omega
            refine ⟨r' - q, t + 1, A5, n5, c5, rfl, hn5', hc5, ?_, hr5.setCell _ ?_, ?_, ?_, ht8, ?_, ((Below.drewN' hb k6).trans (hb5.mono (by have := hb.size; simpa using this))).setCell (by have := HGS.out; show w.heap.size ≤ g; omega) _, by simpa using hgw5⟩
            · have := dg_len_mono (show r' - q ≤ r' by omega); have := hn3.out; omega
            · intro ad e; have := hf5 ad e; simp at this; dsimp only; omega
            · intro ad e; have := hf5 ad e; simp at this; omega
            · show _ = _; have := hsum.out; rw [Nat.add_mul]; omega
            · have h1 := ha5.out.store (k - 1) (.int .u8 ((t + 1 : Nat) : Int))
              rw [B8_set, set_mid (by simp), List.append_assoc] at h1
              have e : ((t + 1 : Nat) : Int) = (t : Int) + 1 := by omega
              rw [e] at h1
              exact h1
          case measure =>
            have h1 := ha5.out.store (k - 1) (.int .u8 ((t + 1 : Nat) : Int))
            rw [B8_set] at h1
            have e : ((t + 1 : Nat) : Int) = (t : Int) + 1 := by omega
            rw [e] at h1
            rw [cntAt_arr ha.out HG.out, cntAt_arr (m := t + 1) h1 (by rw [List.getElem?_set_self (by simp)])]
            omega
end Go.Proofs.Ytgnddobonboloaa
