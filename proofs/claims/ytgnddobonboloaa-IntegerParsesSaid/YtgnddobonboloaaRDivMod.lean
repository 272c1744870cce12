/- The reference's DivMod. -/
import Derived.Test.YtgnddobonboloaaRMul
import Derived.Test.YtgnddobonboloaaDivMod
namespace Go.Proofs.Ytgnddobonboloaa
open Go.RowKit

theorem boxes4 (w : World) (t : TypeId) (xs ys zs us : List Value) :
    Hid (Arr ((((w.alloc (.cells xs.toArray t)).alloc (.cells ys.toArray t)).alloc (.cells zs.toArray t)).alloc (.cells us.toArray t)) w.heap.size t xs) ∧ Hid (Arr ((((w.alloc (.cells xs.toArray t)).alloc (.cells ys.toArray t)).alloc (.cells zs.toArray t)).alloc (.cells us.toArray t)) (w.heap.size + 1) t ys) ∧
    Hid (Arr ((((w.alloc (.cells xs.toArray t)).alloc (.cells ys.toArray t)).alloc (.cells zs.toArray t)).alloc (.cells us.toArray t)) (w.heap.size + 1 + 1) t zs) ∧ Hid (Arr ((((w.alloc (.cells xs.toArray t)).alloc (.cells ys.toArray t)).alloc (.cells zs.toArray t)).alloc (.cells us.toArray t)) (w.heap.size + 1 + 1 + 1) t us) ∧
    Below w.heap.size w ((((w.alloc (.cells xs.toArray t)).alloc (.cells ys.toArray t)).alloc (.cells zs.toArray t)).alloc (.cells us.toArray t)) ∧ Hid (((((w.alloc (.cells xs.toArray t)).alloc (.cells ys.toArray t)).alloc (.cells zs.toArray t)).alloc (.cells us.toArray t)).heap.size = w.heap.size + 4) := by
  obtain ⟨h1, h2, h3, h4, h5⟩ := three_box w t t t xs ys zs
  refine ⟨h1.out.alloc _, h2.out.alloc _, h3.out.alloc _, ?_, h4.alloc h4.size _, by show _ = _; simp⟩
  have h := Arr.new (((w.alloc (.cells xs.toArray t)).alloc (.cells ys.toArray t)).alloc (.cells zs.toArray t)) t us
  rw [h5.out] at h
  exact h

/-- Two integers of the reference. -/
def RI2 (w : World) (x y : Bool × Nat) (e : Ending) (w' : World) : Prop :=
  ∃ A n c A' n' c', e = .returned (.tuple #[.agg #[.bool x.1, .slice A n c], .agg #[.bool y.1, .slice A' n' c']]) ∧ Hid (n = (dg x.2).length) ∧ Hid (n' = (dg y.2).length) ∧ Rd w' A (B8 (dg x.2)) ∧ Rd w' A' (B8 (dg y.2)) ∧ Below w.heap.size w w'
theorem ri2_end {w w5 : World} {x y : Bool × Nat} {b b' : Bool} {A A' : Option Addr} {n c n' c' R : Nat} (hb1 : Hid (b = x.1)) (hb2 : Hid (b' = y.1)) (hn : Hid (n = (dg x.2).length)) (hn' : Hid (n' = (dg y.2).length)) (hr : Rd w5 A (B8 (dg x.2))) (hr' : Rd w5 A' (B8 (dg y.2)))
    (hf : From (R + 2) A) (hf' : From (R + 2) A') (hb : Below w.heap.size w w5) (hR : w.heap.size ≤ R) :
    RI2 w x y (.returned (.tuple #[.agg #[.bool b, .slice A n c], .agg #[.bool b', .slice A' n' c']])) ((((w5.setCell ⟨R, 0, none⟩ (.bool b)).setCell ⟨R, 1, none⟩ (.slice A n c)).setCell ⟨R + 1, 0, none⟩ (.bool b')).setCell ⟨R + 1, 1, none⟩ (.slice A' n' c')) := by
  refine ⟨A, n, c, A', n', c', by rw [hb1.out, hb2.out], hn, hn', ?_, ?_, ?_⟩
  · exact (((hr.setCell _ (fun ad e => by have := hf ad e; dsimp only; omega)).setCell _ (fun ad e => by have := hf ad e; dsimp only; omega)).setCell _ (fun ad e => by have := hf ad e; dsimp only; omega)).setCell _ (fun ad e => by have := hf ad e; dsimp only; omega)
  · exact (((hr'.setCell _ (fun ad e => by have := hf' ad e; dsimp only; omega)).setCell _ (fun ad e => by have := hf' ad e; dsimp only; omega)).setCell _ (fun ad e => by have := hf' ad e; dsimp only; omega)).setCell _ (fun ad e => by have := hf' ad e; dsimp only; omega)
  · exact (((hb.setCell hR _).setCell hR _).setCell (by dsimp only; omega) _).setCell (by dsimp only; omega) _
theorem dg_len_ten {m q k : Nat} (h : (dg q).length ≤ k) (hm : m < 10 * q) : (dg m).length ≤ k + 1 := by
  have h2 := dg_len_le.1 h
  refine dg_len_le.2 ?_
  rw [Nat.pow_succ]; omega
theorem rd_one (w : World) (t : TypeId) : Rd (w.alloc (.cells #[.int .u8 1] t)) (some ⟨w.heap.size, 0, none⟩) (B8 [1]) := (Arr.new w t [.int .u8 1]).rd
theorem snoc_dg (r d : Nat) (hd : d < 10) : Ten (d :: dg r) ∧ val (d :: dg r) = r * 10 + d := by
  refine ⟨Ten.cons hd (ten_dg r), ?_⟩
  rw [val, val_dg]; omega

set_option maxHeartbeats 8000000 in
theorem rdivmod_any (b b' : Bool) (A B : Option Addr) (n n' c c' p q : Nat) (w : World) (hn : Hid (n = (dg p).length)) (hn' : Hid (n' = (dg q).length)) (hr0 : Rd w A (B8 (dg p))) (hr0' : Rd w B (B8 (dg q)))
    (hm : n ≤ 400) (hm' : n' ≤ 400) (hq : 0 < q) :
    Calls Try.prog 28 #[.agg #[.bool b, .slice A n c], .agg #[.bool b', .slice B n' c']] w (RI2 w (dmQN (b, p) (b', q)) (dmRN (b, p) (b', q))) := by
  obtain ⟨X, hX⟩ : ∃ X, X = dmQN (b, p) (b', q) := ⟨_, rfl⟩
  obtain ⟨Y, hY⟩ : ∃ Y, Y = dmRN (b, p) (b', q) := ⟨_, rfl⟩
  rw [← hX, ← hY]
  have HXX := Lib.hid hX
  have HYY := Lib.hid hY
  clear hX hY
  obtain ⟨HX, HY, HR, HR2, HB, HZ⟩ := boxes4 w 28 [.bool b, .slice A n c] [.bool b', .slice B n' c'] [.bool false, .slice none 0 0] [.bool false, .slice none 0 0]
  have hr := hr0.keep HB
  have hr' := hr0'.keep HB
  have ht := ten_dg p
  have HV := Lib.hid (val_dg p)
  go_enter Try.func28, Try.ntmps28
  go_upto_region 2 with (fail)
  generalize ((((w.alloc (.cells #[.bool b, .slice A n c] 28)).alloc (.cells #[.bool b', .slice B n' c'] 28)).alloc (.cells #[.bool false, .slice none 0 0] 28)).alloc (.cells #[.bool false, .slice none 0 0] 28)) = W at *
  generalize hds : dg p = ds at *
  have x1 := HX.out.cell' (i := 1) rfl
  have hzW := HZ.out
  have hzW2 : w.heap.size + 4 ≤ W.heap.size := by omega
  clear hzW
  go_upto_region 4 with ((at_make; go_loud (refine wpList_mk rfl _ _ 26 rfl 5 _ _ Try.underlying26 Try.info5 rfl _ _ _ _ rfl rfl (n) (n) (by omega) (by omega) (by omega) (by omega) (by unfold maxLen; omega) ?_; intro g w1 hg harr hbl hsz; have x11 := (HX.out.keep hbl).cell' (i := 1) rfl)))
  have hcs : Hid (Arr w1 g 5 (B8 (List.replicate n 0 ++ []))) := by
    have h := harr.out
    show Arr _ _ _ _
    rw [List.append_nil]
    unfold B8
    rwa [List.map_replicate]
  have hgs : w.heap.size + 4 = g := by have := hg.out; have := HZ.out; omega
  have HGS := Lib.hid hgs
  have hgs2 : w.heap.size + 4 ≤ g := by omega
  have hbl4 : Below (w.heap.size + 4) W w1 := hbl.mono (by omega)
  clear harr hgs hg x11 hbl
  have hrB := hr'
  go_loopw [6, 8] (fun rv iv wr => ∃ (k r : Nat) (qs : List Nat) (A1 : Option Addr) (n1 c1 : Nat), k ≤ n ∧ r < q ∧ iv = .int .i64 ((k : Int) - 1) ∧ rv = .slice A1 n1 c1 ∧ Hid (n1 = (dg r).length) ∧ n1 ≤ c1 ∧ (A1 = none → c1 = 0) ∧ Rd wr A1 (B8 (dg r)) ∧
      (∀ ad, A1 = some ad → ad.block ≠ g ∧ w.heap.size + 4 ≤ ad.block) ∧ Hid (val qs * q + r = val (ds.drop k)) ∧ Ten qs ∧ Hid (qs.length + k = n) ∧ Hid (Arr wr g 5 (B8 (List.replicate k 0 ++ qs))) ∧ Below (w.heap.size + 4) W wr) (fun _ iv _ => (intOf iv + 1).toNat)
  case atStart =>
    refine ⟨n, 0, [], none, 0, 0, Nat.le_refl _, hq, rfl, rfl, by show _ = _; rw [dg_zero]; rfl, Nat.le_refl _, fun _ => rfl, by rw [dg_zero]; exact Rd.nil, fun _ h => (by cases h), ?_, Ten.nil, by show _ = _; simp, hcs, hbl4⟩
    show _ = _
    rw [List.drop_eq_nil_of_le (by have := hn.out; omega)]; simp [val]
  case round =>
    obtain ⟨k, r, qs, A1, n1, c1, hk, hrq, rfl, rfl, hn1, hc1, hz1, hr1, hA1, hval, htq, hlq, ha, hb⟩ := hrel
    clear hcs hbl4
    have hgw := ha.out.lt
    have hbz := hb.size
    have x1 := (HX.out.below hb (by omega)).cell' (i := 1) rfl
    have y1 := (HY.out.below hb (by omega)).cell' (i := 1) rfl
    have x0 := (HX.out.below hb (by omega)).cell' (i := 0) rfl
    have y0 := (HY.out.below hb (by omega)).cell' (i := 0) rfl
    have hn1q : n1 ≤ n' := by have h1 := hn1.out; have h2 := hn'.out; have := dg_len_mono (Nat.le_of_lt hrq); omega
    by_cases h0 : k = 0
    · subst h0
      have hv := hval.out
      rw [List.drop_zero, HV.out] at hv
      have hdq : val qs = p / q := by rw [← hv, Nat.add_comm, Nat.mul_comm, Nat.add_mul_div_left _ _ hq, Nat.div_eq_of_lt hrq]; omega
      have hmq : r = p % q := by rw [← hv, Nat.add_comm, Nat.mul_comm, Nat.add_mul_mod_self_left, Nat.mod_eq_of_lt hrq]
      have HDQ := Lib.hid hdq
      have HMQ := Lib.hid hmq
      have hrd : Rd wr (some ⟨g, 0, none⟩) (B8 qs) := by have := ha.out.rd; simpa using this
      have hlq' : Hid (n = qs.length) := by show _ = _; have := hlq.out; omega
      have hR4 := HR.out.below hb (by omega)
      have hR5 := HR2.out.below hb (by omega)
      have hBB := HB.trans (hb.mono (by omega))
      clear hv hdq hmq hval ha hlq hds
      by_cases hbb : b = b'
      · subst hbb
        have hqq : X = (false, p / q) ∧ Y = (b && decide (0 < p % q), p % q) := by
          rw [HXX.out, HYY.out]; unfold dmQN dmRN dmQ dmR; simp
        have HQQ := Lib.hid hqq
        clear hqq
        go_upto_region 11 with (fail)
        have HR4 : Hid (Arr wr.drew (w.heap.size + 1 + 1) 28 [.bool false, .slice none 0 0]) := hR4
        have HR5 : Hid (Arr wr.drew (w.heap.size + 1 + 1 + 1) 28 [.bool false, .slice none 0 0]) := hR5
        have hY5 := HY.out.below hb (by omega)
        have HY5 : Hid (Arr wr.drew (w.heap.size + 1) 28 [.bool b, .slice B n' c']) := hY5
        obtain ⟨zz, hzz1, hzz2, hzz3⟩ : ∃ zz, w.heap.size + 4 ≤ zz ∧ zz ≤ wr.drew.heap.size ∧ Hid (wr.drew.heap.size = zz) := ⟨wr.drew.heap.size, by show _ ≤ wr.heap.size; omega, Nat.le_refl _, rfl⟩
        have yd0 : ∀ w', Below (w.heap.size + 2) wr.drew w' → w'.cell? ⟨w.heap.size + 1, 0, none⟩ = some (.bool b) := fun w' h => (Arr.below (w := wr.drew) HY5.out h (by omega)).cell' (i := 0) rfl; have ydf0 : ∀ w', Below (w.heap.size + 2) wr.drew w' → w'.frozen? ⟨w.heap.size + 1, 0, none⟩ = false := fun w' h => (Arr.below (w := wr.drew) HY5.out h (by omega)).frozen 0
        have rd0 : ∀ w', Below zz wr.drew w' → w'.cell? ⟨w.heap.size + 1 + 1, 0, none⟩ = some (.bool false) := fun w' h => (Arr.below (w := wr.drew) HR4.out h (by omega)).cell' (i := 0) rfl; have rdf0 : ∀ w', Below zz wr.drew w' → w'.frozen? ⟨w.heap.size + 1 + 1, 0, none⟩ = false := fun w' h => (Arr.below (w := wr.drew) HR4.out h (by omega)).frozen 0; have rd1 : ∀ w', Below zz wr.drew w' → w'.cell? ⟨w.heap.size + 1 + 1, 1, none⟩ = some (.slice none 0 0) := fun w' h => (Arr.below (w := wr.drew) HR4.out h (by omega)).cell' (i := 1) rfl; have rdf1 : ∀ w', Below zz wr.drew w' → w'.frozen? ⟨w.heap.size + 1 + 1, 1, none⟩ = false := fun w' h => (Arr.below (w := wr.drew) HR4.out h (by omega)).frozen 1
        have re0 : ∀ w', Below zz wr.drew w' → w'.cell? ⟨w.heap.size + 1 + 1 + 1, 0, none⟩ = some (.bool false) := fun w' h => (Arr.below (w := wr.drew) HR5.out h (by omega)).cell' (i := 0) rfl; have ref0 : ∀ w', Below zz wr.drew w' → w'.frozen? ⟨w.heap.size + 1 + 1 + 1, 0, none⟩ = false := fun w' h => (Arr.below (w := wr.drew) HR5.out h (by omega)).frozen 0; have re1 : ∀ w', Below zz wr.drew w' → w'.cell? ⟨w.heap.size + 1 + 1 + 1, 1, none⟩ = some (.slice none 0 0) := fun w' h => (Arr.below (w := wr.drew) HR5.out h (by omega)).cell' (i := 1) rfl; have ref1 : ∀ w', Below zz wr.drew w' → w'.frozen? ⟨w.heap.size + 1 + 1 + 1, 1, none⟩ = false := fun w' h => (Arr.below (w := wr.drew) HR5.out h (by omega)).frozen 1
        have hS : Below (w.heap.size + 2) wr.drew wr.drew := Below.refl _ _
        have hT : Below zz wr.drew wr.drew := Below.refl _ _
        have hzz4 : zz ≤ wr.heap.size := hzz2
        have hrdd : Rd wr.drew (some ⟨g, 0, none⟩) (B8 qs) := hrd
        have hr1d : Rd wr.drew A1 (B8 (dg r)) := hr1
        go_region_held3 (fun w' => Below (w.heap.size + 2) wr.drew w')
          (first | assumption | exact Below.setCell (Below.setCell (by assumption) (by dsimp only; omega) _) (by dsimp only; omega) _)
          (first | (go_at_call 46; ((with_reducible refine (signed_any (some ⟨g, 0, none⟩) n n qs false _ hlq' (hrdd.keep (by rw [hzz3.out]; assumption)) htq (Nat.le_refl _) (by unfold maxLen; omega)).mono ?_)); (all_goals try (fail)); rintro e w6 ⟨k6, rfl, hk6, hkn6, hb6⟩; have z6 := hb6.size; (try simp at z6); have hS6_0 : Below (w.heap.size + 2) wr.drew w6 := Below.trans (by first | assumption | exact Below.alloc (by assumption) (by first | omega | (simp; omega)) _ | exact Below.allocDrew (by assumption) (by first | omega | (simp; omega)) _) (hb6.mono (by first | omega | (simp; omega))); have hS6_1 : Below zz wr.drew w6 := Below.trans (by first | assumption | exact Below.alloc (by assumption) (by first | omega | (simp; omega)) _ | exact Below.allocDrew (by assumption) (by first | omega | (simp; omega)) _) (hb6.mono (by first | omega | (simp; omega)))) | (go_at_call 46; ((with_reducible refine (signed_any A1 n1 c1 (dg r) b _ hn1 (hr1d.keep (by rw [hzz3.out]; assumption)) (ten_dg r) hc1 (by unfold maxLen; omega)).mono ?_)); (all_goals try (fail)); rintro e w8 ⟨k8, rfl, hk8, hkn8, hb8⟩; have z8 := hb8.size; (try simp at z8); have hS8_0 : Below (w.heap.size + 2) wr.drew w8 := Below.trans (by first | assumption | exact Below.alloc (by assumption) (by first | omega | (simp; omega)) _ | exact Below.allocDrew (by assumption) (by first | omega | (simp; omega)) _) (hb8.mono (by first | omega | (simp; omega))); have hS8_1 : Below zz wr.drew w8 := Below.trans (by first | assumption | exact Below.alloc (by assumption) (by first | omega | (simp; omega)) _ | exact Below.allocDrew (by assumption) (by first | omega | (simp; omega)) _) (hb8.mono (by first | omega | (simp; omega)))))
        all_goals
          rw [val_dg] at hk8
          rw [HDQ.out] at hk6
          rw [HMQ.out] at hk8
          have hrq2 := rd_trim hrdd htq
          rw [HDQ.out] at hrq2
          rw [HMQ.out] at hr1d
          go_wp2
          refine bodyPost_ret (v := .tuple #[.agg #[.bool false, .slice (some ⟨g, 0, none⟩) k6 n], .agg #[.bool (b && decide (0 < val (dg r))), .slice A1 k8 c1]]) (by simp [results, Try.results28, go_sem, rd0, rd1, re0, re1, hS8_1]) rfl ?_
          rw [HQQ.out.1, HQQ.out.2]
          exact ri2_end (R := w.heap.size + 1 + 1) (x := (false, p / q)) (y := (b && decide (0 < p % q), p % q)) rfl (by show _ = _; rw [val_dg, HMQ.out]) hk6 hk8 (hrq2.keep (by rw [hzz3.out]; assumption)) (hr1d.keep (by rw [hzz3.out]; assumption)) (fun ad e => by obtain rfl := Option.some.inj e; dsimp only; omega) (fun ad e => by have := hA1 ad e; omega) (hBB.drew.trans (Below.mono (by assumption) (show w.heap.size ≤ zz by omega))) (by omega)
      · have hbe : (b == b') = false := by cases b <;> cases b' <;> simp_all
        by_cases hr00 : n1 = 0
        · subst hr00
          have hrz : r = 0 := by have := hn1.out; exact dg_length_zero.1 this.symm
          have hqq : X = (true && decide (0 < p / q), p / q) ∧ Y = (false, 0) := by
            rw [HXX.out, HYY.out]; unfold dmQN dmRN dmQ dmR; rw [← HMQ.out, hrz]; simp [hbb]
          have HQQ := Lib.hid hqq
          have HRZ := Lib.hid hrz
          have h4 := hR4
          have h5 := hR5
          clear hqq hrz
          go_wp2_with (go_at_call 46; go_loud (refine (signed_any (some ⟨g, 0, none⟩) n n qs true _ hlq' hrd htq (Nat.le_refl _) (by unfold maxLen; omega)).mono ?_; rintro e w6 ⟨k6, rfl, hk6, hkn6, hb6⟩; have r40 := (h4.keep hb6).cell' (i := 0) rfl; have r41 := (h4.keep hb6).cell' (i := 1) rfl; have r50 := (h5.keep hb6).cell' (i := 0) rfl; have r51 := (h5.keep hb6).cell' (i := 1) rfl; have f40 := (h4.keep hb6).frozen 0; have f41 := (h4.keep hb6).frozen 1; have f50 := (h5.keep hb6).frozen 0; have f51 := (h5.keep hb6).frozen 1))
          rw [HDQ.out] at hk6
          have hrq2 := rd_trim hrd htq
          rw [HDQ.out] at hrq2
          refine bodyPost_ret (v := .tuple #[.agg #[.bool (decide (0 < val qs)), .slice (some ⟨g, 0, none⟩) k6 n], .agg #[.bool false, .slice none 0 0]]) (by simp [results, Try.results28, go_sem, r40, r41, r50, r51]) rfl ?_
          rw [HQQ.out.1, HQQ.out.2]
          exact ri2_end (R := w.heap.size + 1 + 1) (x := (true && decide (0 < p / q), p / q)) (y := (false, 0)) (by show _ = _; rw [HDQ.out]; rfl) rfl hk6 (by show _ = _; rw [dg_zero]; rfl) (hrq2.keep hb6) (by rw [dg_zero]; exact Rd.nil) (fun ad e => by obtain rfl := Option.some.inj e; dsimp only; omega) (fun ad e => by cases e) (hBB.trans (hb6.mono hBB.size)) (by omega)
        · have hrz : r ≠ 0 := by intro e; apply hr00; rw [hn1.out, e, dg_zero]; rfl
          have hn1p : ((n1 : Int) == 0) = false := by simp; omega
          have hqq : X = (true, p / q + 1) ∧ Y = (b' && decide (0 < q - r), q - r) := by
            rw [HXX.out, HYY.out]; unfold dmQN dmRN dmQ dmR; rw [← HMQ.out]; simp [hbb, hrz]
          have HQQ := Lib.hid hqq
          clear hqq hrz hr00
          go_upto_region 14 with (fail)
          have HR4 : Hid (Arr wr.drew (w.heap.size + 1 + 1) 28 [.bool false, .slice none 0 0]) := hR4
          have HR5 : Hid (Arr wr.drew (w.heap.size + 1 + 1 + 1) 28 [.bool false, .slice none 0 0]) := hR5
          have hY5 := HY.out.below hb (by omega)
          have HY5 : Hid (Arr wr.drew (w.heap.size + 1) 28 [.bool b', .slice B n' c']) := hY5
          obtain ⟨zz, hzz1, hzz2, hzz3⟩ : ∃ zz, w.heap.size + 4 ≤ zz ∧ zz ≤ wr.drew.heap.size ∧ Hid (wr.drew.heap.size = zz) := ⟨wr.drew.heap.size, by show _ ≤ wr.heap.size; omega, Nat.le_refl _, rfl⟩
          have yd0 : ∀ w', Below (w.heap.size + 2) wr.drew w' → w'.cell? ⟨w.heap.size + 1, 0, none⟩ = some (.bool b') := fun w' h => (Arr.below (w := wr.drew) HY5.out h (by omega)).cell' (i := 0) rfl; have ydf0 : ∀ w', Below (w.heap.size + 2) wr.drew w' → w'.frozen? ⟨w.heap.size + 1, 0, none⟩ = false := fun w' h => (Arr.below (w := wr.drew) HY5.out h (by omega)).frozen 0; have yd1 : ∀ w', Below (w.heap.size + 2) wr.drew w' → w'.cell? ⟨w.heap.size + 1, 1, none⟩ = some (.slice B n' c') := fun w' h => (Arr.below (w := wr.drew) HY5.out h (by omega)).cell' (i := 1) rfl; have ydf1 : ∀ w', Below (w.heap.size + 2) wr.drew w' → w'.frozen? ⟨w.heap.size + 1, 1, none⟩ = false := fun w' h => (Arr.below (w := wr.drew) HY5.out h (by omega)).frozen 1
          have rd0 : ∀ w', Below zz wr.drew w' → w'.cell? ⟨w.heap.size + 1 + 1, 0, none⟩ = some (.bool false) := fun w' h => (Arr.below (w := wr.drew) HR4.out h (by omega)).cell' (i := 0) rfl; have rdf0 : ∀ w', Below zz wr.drew w' → w'.frozen? ⟨w.heap.size + 1 + 1, 0, none⟩ = false := fun w' h => (Arr.below (w := wr.drew) HR4.out h (by omega)).frozen 0; have rd1 : ∀ w', Below zz wr.drew w' → w'.cell? ⟨w.heap.size + 1 + 1, 1, none⟩ = some (.slice none 0 0) := fun w' h => (Arr.below (w := wr.drew) HR4.out h (by omega)).cell' (i := 1) rfl; have rdf1 : ∀ w', Below zz wr.drew w' → w'.frozen? ⟨w.heap.size + 1 + 1, 1, none⟩ = false := fun w' h => (Arr.below (w := wr.drew) HR4.out h (by omega)).frozen 1
          have re0 : ∀ w', Below zz wr.drew w' → w'.cell? ⟨w.heap.size + 1 + 1 + 1, 0, none⟩ = some (.bool false) := fun w' h => (Arr.below (w := wr.drew) HR5.out h (by omega)).cell' (i := 0) rfl; have ref0 : ∀ w', Below zz wr.drew w' → w'.frozen? ⟨w.heap.size + 1 + 1 + 1, 0, none⟩ = false := fun w' h => (Arr.below (w := wr.drew) HR5.out h (by omega)).frozen 0; have re1 : ∀ w', Below zz wr.drew w' → w'.cell? ⟨w.heap.size + 1 + 1 + 1, 1, none⟩ = some (.slice none 0 0) := fun w' h => (Arr.below (w := wr.drew) HR5.out h (by omega)).cell' (i := 1) rfl; have ref1 : ∀ w', Below zz wr.drew w' → w'.frozen? ⟨w.heap.size + 1 + 1 + 1, 1, none⟩ = false := fun w' h => (Arr.below (w := wr.drew) HR5.out h (by omega)).frozen 1
          have hS : Below (w.heap.size + 2) wr.drew wr.drew := Below.refl _ _
          have hT : Below zz wr.drew wr.drew := Below.refl _ _
          have hrdd : Rd wr.drew (some ⟨g, 0, none⟩) (B8 qs) := hrd
          have hr1d : Rd wr.drew A1 (B8 (dg r)) := hr1
          have hrBd : Rd wr.drew B (B8 (dg q)) := hr0'.keep hBB.drew
          have hzz4 : zz ≤ wr.heap.size := hzz2
          have hT1 : Ten [1] := Ten.cons (by omega) Ten.nil
          clear hR4 hR5 hY5 hrd hr1 y0 y1 x0 x1
          go_region_held3 (fun w' => Below (w.heap.size + 2) wr.drew w')
            (first | assumption | exact Below.alloc (by assumption) (by first | omega | (simp; omega)) _ | exact Below.allocDrew (by assumption) (by first | omega | (simp; omega)) _ | exact Below.setCell (Below.setCell (by assumption) (by dsimp only; omega) _) (by dsimp only; omega) _)
            (first | (go_at_call 60; ((with_reducible refine (rplus_any (some ⟨g, 0, none⟩) _ n n 1 1 qs [1] _ hlq' (Lib.hid (rfl : 1 = [1].length)) (hrdd.keep (by rw [hzz3.out]; first | assumption | exact Below.alloc (by assumption) (by first | omega | (simp; omega)) _ | exact Below.allocDrew (by assumption) (by first | omega | (simp; omega)) _)) (by first | exact rd_one _ _ | exact (rd_one _ _).drew | exact (rd_one _ _).keep hb7 | exact ((rd_one _ _).keep hb7).keep hb8 | exact (rd_one _ _).keep hb8 | exact (rd_one _ _).drew.keep hb7 | exact ((rd_one _ _).drew.keep hb7).keep hb8) htq hT1 (by omega) (by omega)).mono ?_)); (all_goals try (fail)); rintro e w5 ⟨zs, htz, hvz, hlz, A5, n5, c5, rfl, hn5, hc5, hr5, hf5, hb5⟩; have HVZ : Hid (val zs = p / q + 1) := (by show _ = _; rw [hvz, HDQ.out]; simp [val]); clear hvz; have z5 := hb5.size; (try simp at z5); have hS5_0 : Below (w.heap.size + 2) wr.drew w5 := Below.trans (by first | assumption | exact Below.alloc (by assumption) (by first | omega | (simp; omega)) _ | exact Below.allocDrew (by assumption) (by first | omega | (simp; omega)) _) (hb5.mono (by first | omega | (simp; omega))); have hS5_1 : Below zz wr.drew w5 := Below.trans (by first | assumption | exact Below.alloc (by assumption) (by first | omega | (simp; omega)) _ | exact Below.allocDrew (by assumption) (by first | omega | (simp; omega)) _) (hb5.mono (by first | omega | (simp; omega)))) | (go_at_call 46; ((with_reducible refine (signed_any A5 n5 c5 zs true _ (Lib.hid (by have := hn5.out; rw [length_B8] at this; exact this)) (hr5.keep (by repeat (first | exact Below.refl _ _ | refine Below.alloc ?_ (by first | omega | (simp; omega)) _ | refine Below.allocDrew ?_ (by first | omega | (simp; omega)) _ | refine Below.trans ?_ (Below.mono hb7 (by first | omega | (simp; omega))) | refine Below.trans ?_ (Below.mono hb8 (by first | omega | (simp; omega)))))) htz hc5 (by have := hn5.out; rw [length_B8] at this; unfold maxLen; omega)).mono ?_)); (all_goals try (fail)); rintro e w6 ⟨k6, rfl, hk6, hkn6, hb6⟩; have z6 := hb6.size; (try simp at z6); have hS6_0 : Below (w.heap.size + 2) wr.drew w6 := Below.trans (by first | assumption | exact Below.alloc (by assumption) (by first | omega | (simp; omega)) _ | exact Below.allocDrew (by assumption) (by first | omega | (simp; omega)) _) (hb6.mono (by first | omega | (simp; omega))); have hS6_1 : Below zz wr.drew w6 := Below.trans (by first | assumption | exact Below.alloc (by assumption) (by first | omega | (simp; omega)) _ | exact Below.allocDrew (by assumption) (by first | omega | (simp; omega)) _) (hb6.mono (by first | omega | (simp; omega)))) | (go_at_call 59; ((with_reducible refine (rminus_any B A1 n' c' n1 c1 q r _ hn' hn1 (hrBd.keep (by rw [hzz3.out]; first | assumption | exact Below.alloc (by assumption) (by first | omega | (simp; omega)) _ | exact Below.allocDrew (by assumption) (by first | omega | (simp; omega)) _)) (hr1d.keep (by rw [hzz3.out]; first | assumption | exact Below.alloc (by assumption) (by first | omega | (simp; omega)) _ | exact Below.allocDrew (by assumption) (by first | omega | (simp; omega)) _)) (by omega) (by omega)).mono ?_)); (all_goals try (fail)); rintro e w7 ⟨A7, n7, c7, rfl, hn7, hc7, hr7, hf7, hb7⟩; have z7 := hb7.size; (try simp at z7); have hS7_0 : Below (w.heap.size + 2) wr.drew w7 := Below.trans (by first | assumption | exact Below.alloc (by assumption) (by first | omega | (simp; omega)) _ | exact Below.allocDrew (by assumption) (by first | omega | (simp; omega)) _) (hb7.mono (by first | omega | (simp; omega))); have hS7_1 : Below zz wr.drew w7 := Below.trans (by first | assumption | exact Below.alloc (by assumption) (by first | omega | (simp; omega)) _ | exact Below.allocDrew (by assumption) (by first | omega | (simp; omega)) _) (hb7.mono (by first | omega | (simp; omega)))) | (go_at_call 46; ((with_reducible refine (signed_any A7 n7 c7 (dg (q - r)) b' _ (Lib.hid (by have := hn7.out; rw [length_B8] at this; exact this)) (hr7.keep (by repeat (first | exact Below.refl _ _ | refine Below.alloc ?_ (by first | omega | (simp; omega)) _ | refine Below.allocDrew ?_ (by first | omega | (simp; omega)) _ | refine Below.trans ?_ (Below.mono hb5 (by first | omega | (simp; omega))) | refine Below.trans ?_ (Below.mono hb6 (by first | omega | (simp; omega)))))) (ten_dg _) hc7 (by have := hn7.out; rw [length_B8] at this; have := dg_len_mono (show q - r ≤ q by omega); have := hn'.out; unfold maxLen; omega)).mono ?_)); (all_goals try (fail)); rintro e w8 ⟨k8, rfl, hk8, hkn8, hb8⟩; have z8 := hb8.size; (try simp at z8); have hS8_0 : Below (w.heap.size + 2) wr.drew w8 := Below.trans (by first | assumption | exact Below.alloc (by assumption) (by first | omega | (simp; omega)) _ | exact Below.allocDrew (by assumption) (by first | omega | (simp; omega)) _) (hb8.mono (by first | omega | (simp; omega))); have hS8_1 : Below zz wr.drew w8 := Below.trans (by first | assumption | exact Below.alloc (by assumption) (by first | omega | (simp; omega)) _ | exact Below.allocDrew (by assumption) (by first | omega | (simp; omega)) _) (hb8.mono (by first | omega | (simp; omega)))))
          all_goals
            have hrz5 := rd_trim hr5 htz
            rw [HVZ.out] at hrz5 hk6
            rw [val_dg] at hk8
            go_wp2
            refine bodyPost_ret (v := .tuple #[.agg #[.bool (decide (0 < val zs)), .slice A5 k6 c5], .agg #[.bool (b' && decide (0 < val (dg (q - r)))), .slice A7 k8 c7]]) (by simp [results, Try.results28, go_sem, rd0, rd1, re0, re1, hS8_1]) rfl ?_
            rw [HQQ.out.1, HQQ.out.2]
            exact ri2_end (R := w.heap.size + 1 + 1) (x := (true, p / q + 1)) (y := (b' && decide (0 < q - r), q - r)) (by show _ = _; rw [HVZ.out]; exact decide_eq_true (Nat.succ_pos _)) (by show _ = _; rw [val_dg]) hk6 hk8 (hrz5.keep (by repeat (first | exact Below.refl _ _ | refine Below.alloc ?_ (by first | omega | (simp; omega)) _ | refine Below.allocDrew ?_ (by first | omega | (simp; omega)) _ | refine Below.trans ?_ (Below.mono hb6 (by first | omega | (simp; omega))) | refine Below.trans ?_ (Below.mono hb7 (by first | omega | (simp; omega))) | refine Below.trans ?_ (Below.mono hb8 (by first | omega | (simp; omega)))))) (hr7.keep (by repeat (first | exact Below.refl _ _ | refine Below.alloc ?_ (by first | omega | (simp; omega)) _ | refine Below.allocDrew ?_ (by first | omega | (simp; omega)) _ | refine Below.trans ?_ (Below.mono hb5 (by first | omega | (simp; omega))) | refine Below.trans ?_ (Below.mono hb6 (by first | omega | (simp; omega))) | refine Below.trans ?_ (Below.mono hb8 (by first | omega | (simp; omega)))))) (fun ad e => by have := hf5 ad e; (try simp at this); omega) (fun ad e => by have := hf7 ad e; (try simp at this); omega) (hBB.drew.trans (Below.mono (by assumption) (show w.heap.size ≤ zz by omega))) (by omega)
    · obtain ⟨d, hdd⟩ : ∃ d, ds[k-1]? = some d := ⟨_, List.getElem?_eq_getElem (by have := hn.out; omega)⟩
      have hd10 := ht.get hdd
      obtain ⟨ad, rfl, hcell0⟩ := hr.at_ (B8_get hdd)
      have hcell : wr.cell? (ad.add (k - 1)) = some (.int .u8 (d : Int)) := by
        obtain ⟨ad', e', hc'⟩ := (hr0.keep (HB.trans (hb.mono (by omega)))).at_ (B8_get hdd)
        obtain rfl := Option.some.inj e'
        exact hc'
      have hk1 : 0 < k := by omega
      have e1 : ((k:Int) - 1).toNat = k - 1 := by omega
      have b1 : 0 ≤ (k:Int) - 1 := by omega
      have b2 : (k:Int) - 1 < n := by omega
      have hM : r * 10 + d < 10 * q := by omega
      have HD := Lib.hid hdd
      clear hdd hcell0
      have hMl : (dg (r * 10 + d)).length ≤ 401 := by
        have h1 : (dg q).length ≤ 400 := by have := hn'.out; omega
        exact dg_len_ten h1 hM
      obtain ⟨hts, hvs⟩ := snoc_dg r d hd10
      have HVS := Lib.hid hvs
      clear hvs
      have HO := own_one wr 5 (.int .u8 (d : Int)) (g + 1) (by omega)
      go_wp2_with (first | (at_builtin; go_loud (refine wpList_apl rfl (.tmp 26) (.tmp 27) 26 rfl (g + 1) 5 _ _ Try.underlying26 Try.info5 rfl _ 1 [.int .u8 (d : Int)] rfl HO A1 n1 c1 (B8 (dg r)) rfl (hr1.alloc _) (by rw [length_B8]; exact hn1.out.symm) hz1 (B8_one _) (by unfold maxLen; omega) (by omega) (by simp; omega) ?_; intro v' w3 hown3 hgr3; obtain ⟨A3, c3, rfl, hln3, hnc3, hmx3, hr3, hf3⟩ := own_rd hown3)) | (go_at_call 49; go_loud (refine (rtrim_any A3 (1 + n1) c3 (d :: dg r) w3 (by show _ = _; have := hn1.out; simp; omega) hr3 hts hnc3 (by unfold maxLen; omega)).mono ?_; rintro e w4 ⟨kk, rfl, hkk, hkn, hrr, rfl⟩)))
      have hkk' : Hid (kk = (dg (r * 10 + d)).length) := by rw [← HVS.out]; exact hkk
      have hr2 : Rd w3 A3 (B8 (dg (r * 10 + d))) := by rw [← HVS.out]; exact hrr
      have e0 : List.replicate k 0 ++ qs = List.replicate (k - 1) 0 ++ 0 :: qs := by
        have : List.replicate k 0 = List.replicate (k - 1) 0 ++ [0] := by rw [← List.replicate_succ', show k - 1 + 1 = k by omega]
        rw [this, List.append_assoc]; rfl
      have hb3 : Below wr.heap.size wr w3 := ((Below.refl _ _).alloc (Nat.le_refl _) _).grown hgr3 (by simp) (fun k h => by have h' : wr.heap.size = k := Option.some.inj h; omega)
      have ha2 : Hid (Arr w3 g 5 (B8 (List.replicate (k - 1) 0 ++ 0 :: qs))) := by rw [← e0]; exact ha.out.keep hb3
      have hB2 : Below (w.heap.size + 4) W w3 := hb.trans (hb3.mono (by omega))
      have hA2 : ∀ ad, A3 = some ad → ad.block ≠ g ∧ w.heap.size + 4 ≤ ad.block := fun ad e => by have := hf3 ad e; omega
      have hz3 : A3 = none → c3 = 0 := by
        rintro rfl
        obtain ⟨_, h, _⟩ := hr3 0 _ rfl
        cases h
      have hvalk : Hid (val (ds.drop (k - 1)) = d + 10 * val (ds.drop k)) := by
        show _ = _
        have := List.getElem?_eq_some_iff.1 HD.out
        rw [List.drop_eq_getElem_cons this.1, this.2, val, show k - 1 + 1 = k by omega]
      have hkb : kk ≤ 401 := by have := hkk'.out; omega
      have hkc : kk ≤ c3 := by have := hkk'.out; have h1 := hkn; have := hn1.out; simp at h1; omega
      clear ha hb hr1 hA1 hr3 hb3 hf3 e0 hcell hkk hrr hgr3 hown3 hln3 hkn HO
      go_loopw [6] (fun rv wr => ∃ (r' t : Nat) (A3 : Option Addr) (n3 c3 : Nat), rv = .slice A3 n3 c3 ∧ Hid (n3 = (dg r').length) ∧ n3 ≤ c3 ∧ n3 ≤ 401 ∧ (A3 = none → c3 = 0) ∧ Rd wr A3 (B8 (dg r')) ∧ (∀ ad, A3 = some ad → ad.block ≠ g ∧ w.heap.size + 4 ≤ ad.block) ∧
          Hid (t * q + r' = r * 10 + d) ∧ t ≤ 9 ∧ Hid (Arr wr g 5 (B8 (List.replicate (k - 1) 0 ++ t :: qs))) ∧ Below (w.heap.size + 4) W wr) (fun _ wr => 10 - cntAt wr g (k - 1))
      case atStart => exact ⟨r * 10 + d, 0, A3, kk, c3, rfl, hkk', hkc, hkb, hz3, hr2, hA2, by show _ = _; omega, by omega, ha2, hB2⟩
      case round =>
        clear hr2 hA2 hkk' ha2 hB2 hkc hkb hz3 x0 x1 y0 y1
        obtain ⟨r', t, A3, n3, c3, rfl, hn3, hc3, hn3b, hz3, hr3, hA3, hsum, ht9, ha, hb⟩ := hrel
        have x1 := (HX.out.below hb (by omega)).cell' (i := 1) rfl
        have y1 := (HY.out.below hb (by omega)).cell' (i := 1) rfl
        have hbz2 := hb.size
        have hgw2 := ha.out.lt
        have hr0 : Rd wr B (B8 (dg q)) := hr0'.keep (HB.trans (hb.mono (by omega)))
        by_cases hlt : r' < q
        · have hcm : cmpN r' q = -1 := by unfold cmpN; rw [if_pos hlt]
          have hsz : Calls Try.prog 53 #[.slice A3 n3 c3, .slice B n' c'] wr fun e w' => e = .returned (.int .i64 (-1)) ∧ ∃ k, w' = wr.drewN k := by
            have := rsize_any A3 B n3 n' c3 c' r' q wr hn3 hn' hr3 hr0 (by omega) (by omega); rwa [hcm] at this
          have HSZ := Lib.hid hsz
          clear hsz hcm
          go_wp2_with (go_at_call 53; go_loud (refine HSZ.out.mono ?_; rintro e w6 ⟨rfl, k6, rfl⟩))
          go_roundw
          case rel =>
            refine ⟨k - 1, r', t :: qs, A3, n3, c3, by omega, hlt, i64e (by omega), rfl, hn3, hc3, hz3, hr3.drewN k6, hA3, ?_, Ten.cons (by omega) htq, ?_, ha, Below.drewN' hb k6⟩
            · show _ = _
              rw [hvalk.out, ← hval.out, val, Nat.add_mul, Nat.mul_assoc]
              have := hsum.out
              omega
            · show _ = _
              have := hlq.out
              simp; omega
          case measure => simp [intOf]; omega
        · have hge : (0 : Int) ≤ cmpN r' q := by unfold cmpN; rw [if_neg hlt]; split <;> omega
          have hsz : Calls Try.prog 53 #[.slice A3 n3 c3, .slice B n' c'] wr fun e w' => e = .returned (.int .i64 (cmpN r' q)) ∧ ∃ k, w' = wr.drewN k := rsize_any A3 B n3 n' c3 c' r' q wr hn3 hn' hr3 hr0 (by omega) (by omega)
          have HSZ := Lib.hid hsz
          have ht8 : t + 1 ≤ 9 := by
            have h1 := hsum.out
            have h2 : (t + 1) * q ≤ r * 10 + d := by rw [Nat.add_mul]; omega
            have h3 : (t + 1) * q < 10 * q := by omega
            have := Nat.lt_of_mul_lt_mul_right h3
            omega
          have hget : (List.replicate (k - 1) 0 ++ t :: qs)[k - 1]? = some t := by rw [List.getElem?_append_right (by simp)]; simp
          have HG := Lib.hid hget
          have hmi : ∀ W, Rd W A3 (B8 (dg r')) → Rd W B (B8 (dg q)) → Calls Try.prog 59 #[.slice A3 n3 c3, .slice B n' c'] W (RetSN W (B8 (dg (r' - q)))) := fun W h h' => rminus_nn A3 B n3 c3 n' c' r' q W hn3 hn' h h' (by omega) (by omega)
          have HMI := Lib.hid hmi
          clear hsz hmi hget
          go_wp2_with (first | (go_at_call 53; go_loud (refine HSZ.out.mono ?_; rintro e w6 ⟨rfl, k6, rfl⟩)) | (go_at_call 59; go_loud (refine (HMI.out _ (hr3.drewN _) (hr0.drewN _)).mono ?_; rintro e w5 ⟨A5, n5, c5, rfl, hn5, hc5, hr5, hf5, hb5, hz5⟩; have ha5 := Lib.hid ((show Arr (wr.drewN k6) g _ _ from ha.out).keep hb5); have c5' := ha5.out.cell' (B8_get HG.out); have f5' := ha5.out.frozen (k - 1))))
          go_roundw
          case rel =>
            have hn5' := hn5.out
            rw [length_B8] at hn5'
            refine ⟨r' - q, t + 1, A5, n5, c5, rfl, hn5', hc5, ?_, hz5, hr5.setCell _ ?_, ?_, ?_, ht8, ?_, ((Below.drewN' hb k6).trans (hb5.mono (by have := hb.size; simp; omega))).setCell (by dsimp only; omega) _⟩
            · have := dg_len_mono (show r' - q ≤ r' by omega); have := hn3.out; omega
            · intro ad e; have := hf5 ad e; simp at this; dsimp only; omega
            · intro ad e; have := hf5 ad e; simp at this; omega
            · show _ = _; have := hsum.out; rw [Nat.add_mul]; omega
            · have h1 := ha5.out.store (k - 1) (.int .u8 ((t + 1 : Nat) : Int))
              rw [B8_set, set_mid (by simp), List.append_assoc] at h1
              have e : ((t + 1 : Nat) : Int) = (t : Int) + 1 := by omega
              rw [e] at h1
              exact h1
          case measure =>
            have h1 := ha5.out.store (k - 1) (.int .u8 ((t + 1 : Nat) : Int))
            rw [B8_set] at h1
            have e : ((t + 1 : Nat) : Int) = (t : Int) + 1 := by omega
            rw [e] at h1
            rw [cntAt_arr ha.out HG.out, cntAt_arr (m := t + 1) h1 (by rw [List.getElem?_set_self (by simp)])]
            omega
end Go.Proofs.Ytgnddobonboloaa
