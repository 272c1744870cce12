/- The reference's integers: signed, Long, Neg, Cmp. -/
import Derived.Test.YtgnddobonboloaaCmp
namespace Go.Proofs.Ytgnddobonboloaa
open Go.RowKit

set_option maxHeartbeats 1000000 in
theorem signed_any (A : Option Addr) (n c : Nat) (ds : List Nat) (neg : Bool) (w : World) (hn : Hid (n = ds.length)) (hr : Rd w A (B8 ds)) (hd : Ten ds) (hc : n ≤ c) (hm : n ≤ maxLen) :
    Calls Try.prog 46 #[.slice A n c, .bool neg] w fun e w' => ∃ k, e = .returned (.agg #[.bool (neg && decide (0 < val ds)), .slice A k c]) ∧ Hid (k = (dg (val ds)).length) ∧ k ≤ n ∧ Below w.heap.size w w' := by
  have HR : Hid (Arr (w.alloc (.cells #[.bool false, .slice none 0 0] 28)) w.heap.size 28 [.bool false, .slice none 0 0]) := Arr.new w _ _
  have HB : Below w.heap.size w (w.alloc (.cells #[.bool false, .slice none 0 0] 28)) := (Below.refl _ _).alloc (Nat.le_refl _) _
  have hrW := hr.alloc (.cells #[.bool false, .slice none 0 0] 28)
  generalize hpo : (fun (e : Ending) (w' : World) => ∃ k, e = .returned (.agg #[.bool (neg && decide (0 < val ds)), .slice A k c]) ∧ Hid (k = (dg (val ds)).length) ∧ k ≤ n ∧ Below w.heap.size w w') = Q
  have HQ := Lib.hid hpo
  clear hpo
  go_enter Try.func46, Try.ntmps46
  go_upto_region 2 with (go_at_call 49; go_loud (refine (rtrim_any _ _ _ ds _ hn hrW hd hc hm).mono ?_; rintro e w1 ⟨k, rfl, hk, hkn, _, rfl⟩))
  have hkn' : k ≤ n := by have := hn.out; omega
  generalize (w.alloc (.cells #[.bool false, .slice none 0 0] 28)) = W at *
  have r0 := HR.out.cell' (i := 0) rfl
  have r1 := HR.out.cell' (i := 1) rfl
  have f0 := HR.out.frozen 0
  have f1 := HR.out.frozen 1
  have hbE : ∀ u v, Below w.heap.size w ((W.setCell ⟨w.heap.size, 0, none⟩ u).setCell ⟨w.heap.size, 1, none⟩ v) := fun u v => (HB.setCell (Nat.le_refl _) _).setCell (Nat.le_refl _) _
  have HBE := Lib.hid hbE
  clear hbE
  cases neg
  · go_wp2
    refine bodyPost_ret (v := .agg #[.bool false, .slice A k c]) (by simp [results, Try.results46, go_sem, r0, r1]) rfl ?_
    rw [← HQ.out]
    exact ⟨k, rfl, hk, hkn', HBE.out _ _⟩
  · by_cases h0 : k = 0
    · subst h0
      have hv : decide (0 < val ds) = false := by have := dg_length_zero.1 hk.out.symm; simp; omega
      have HV := Lib.hid hv
      clear hv
      go_wp2
      refine bodyPost_ret (v := .agg #[.bool false, .slice A 0 c]) (by simp [results, Try.results46, go_sem, r0, r1]) rfl ?_
      rw [← HQ.out]
      exact ⟨0, by rw [HV.out]; rfl, hk, hkn', HBE.out _ _⟩
    · have h0' : 0 < k := by omega
      have hv : decide (0 < val ds) = true := by
        have h1 : val ds ≠ 0 := fun e => h0 (by rw [hk.out]; exact dg_length_zero.2 e)
        simp; omega
      have HV := Lib.hid hv
      clear hv h0
      go_wp2
      refine bodyPost_ret (v := .agg #[.bool true, .slice A k c]) (by simp [results, Try.results46, go_sem, r0, r1]) rfl ?_
      rw [← HQ.out]
      exact ⟨k, by rw [HV.out]; rfl, hk, hkn', HBE.out _ _⟩

theorem long_any (b : Bool) (A : Option Addr) (n c : Nat) (w : World) : Calls Try.prog 47 #[.agg #[.bool b, .slice A n c]] w fun e w' => e = .returned (.bool (decide ((400 : Int) < (n : Int)))) ∧ Below w.heap.size w w' := by
  go_enter Try.func47, Try.ntmps47
  go_wp2
  go_ret
  exact ⟨rfl, (Below.refl _ _).alloc (Nat.le_refl _) _⟩

set_option maxHeartbeats 1000000 in
theorem rneg_any (b : Bool) (A : Option Addr) (n c m : Nat) (w : World) (hn : Hid (n = (dg m).length)) (hr : Rd w A (B8 (dg m))) (hc : n ≤ c) (hm : n ≤ maxLen) :
    Calls Try.prog 37 #[.agg #[.bool b, .slice A n c]] w fun e w' => e = .returned (.agg #[.bool (negN (b, m)).1, .slice A n c]) ∧ Below w.heap.size w w' := by
  obtain ⟨HX, HR, HB, HZ⟩ := two_box w 28 28 [.bool b, .slice A n c] [.bool false, .slice none 0 0]
  have hs := fun w hr => signed_any A n c (dg m) (!b) w hn hr (ten_dg m) hc hm
  rw [val_dg] at hs
  have hv : (!b && decide (0 < m)) = (negN (b, m)).1 := rfl
  rw [hv] at hs
  generalize (negN (b, m)).1 = nb at *
  have HS : Hid (∀ w, Rd w A (B8 (dg m)) → Calls Try.prog 46 #[.slice A n c, .bool (!b)] w fun e w' => e = .returned (.agg #[.bool nb, .slice A n c]) ∧ Below w.heap.size w w') := by
    intro w h
    refine (hs w h).mono ?_
    rintro e w' ⟨k, rfl, hk, _, hb⟩
    have : k = n := by rw [hk.out, hn.out]
    subst this
    exact ⟨rfl, hb⟩
  clear hs hv
  go_enter Try.func37, Try.ntmps37
  go_wp2_with (go_at_call 46; go_loud (refine (HS.out _ (hr.keep HB)).mono ?_; rintro e w1 ⟨rfl, hb1⟩; have r0 := (HR.out.keep hb1).cell' (i := 0) rfl; have r1 := (HR.out.keep hb1).cell' (i := 1) rfl; have f0 := (HR.out.keep hb1).frozen 0; have f1 := (HR.out.keep hb1).frozen 1))
  refine bodyPost_ret (v := .agg #[.bool nb, .slice A n c]) (by simp [results, Try.results37, go_sem, r0, r1]) rfl ⟨rfl, ?_⟩
  exact ((HB.trans (hb1.mono HB.size)).setCell (by dsimp only; omega) _).setCell (by dsimp only; omega) _

set_option maxHeartbeats 1000000 in
theorem rcmp_any (b b' : Bool) (A A' : Option Addr) (n n' c c' p q : Nat) (w : World) (hn : Hid (n = (dg p).length)) (hn' : Hid (n' = (dg q).length)) (hr : Rd w A (B8 (dg p))) (hr' : Rd w A' (B8 (dg q)))
    (hm : n ≤ 4294967296) (hm' : n' ≤ 4294967296) :
    Calls Try.prog 35 #[.agg #[.bool b, .slice A n c], .agg #[.bool b', .slice A' n' c']] w fun e w' => e = .returned (.int .i64 (cmpP (b, p) (b', q))) ∧ Below w.heap.size w w' := by
  obtain ⟨HX, HR, HB, HZ⟩ := two_box w 28 28 [.bool b, .slice A n c] [.bool b', .slice A' n' c']
  have h1 := rsize_any A A' n n' c c' p q _ hn hn' (hr.keep HB) (hr'.keep HB) hm hm'
  have h2 := rsize_any A' A n' n c' c q p _ hn' hn (hr'.keep HB) (hr.keep HB) hm' hm
  generalize hpo : cmpP (b, p) (b', q) = Z
  have HP := Lib.hid hpo
  clear hpo
  go_enter Try.func35, Try.ntmps35
  cases b <;> cases b'
  · go_wp2_with (go_at_call 53; go_loud (refine h1.mono ?_; rintro e w1 ⟨rfl, k1, rfl⟩))
    go_ret
    exact ⟨by rw [← HP.out]; rfl, Below.drewN' HB k1⟩
  · go_wp2
    go_ret
    exact ⟨by rw [← HP.out]; rfl, HB⟩
  · go_wp2
    go_ret
    exact ⟨by rw [← HP.out]; rfl, HB⟩
  · go_wp2_with (go_at_call 53; go_loud (refine h2.mono ?_; rintro e w1 ⟨rfl, k1, rfl⟩))
    go_ret
    exact ⟨by rw [← HP.out]; rfl, Below.drewN' HB k1⟩
end Go.Proofs.Ytgnddobonboloaa
