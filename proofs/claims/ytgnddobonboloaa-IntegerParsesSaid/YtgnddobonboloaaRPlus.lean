/- The walks of plus and minus of the reference. -/
import Derived.Test.YtgnddobonboloaaPlus
import Derived.Test.YtgnddobonboloaaMinus
namespace Go.Proofs.Ytgnddobonboloaa
open Go.RowKit

theorem raddc_walk {L vs dn T : List Nat} {k c x y : Nat} (h : Hid (dn ++ raddc (L.drop k) (vs.drop k) c = T)) (hx : (L.drop k).headD 0 = x) (hy : (vs.drop k).headD 0 = y) (hne : k < L.length ∨ k < vs.length ∨ c = 1) :
    Hid (dn ++ [(c + x + y) % 10] ++ raddc (L.drop (k + 1)) (vs.drop (k + 1)) ((c + x + y) / 10) = T) := by
  have h1 := h.out
  rw [raddc_step _ _ _ (by
    rcases hne with h | h | h
    · left; simp; omega
    · right; left; simp; omega
    · right; right; exact h), hx, hy, List.tail_drop, List.tail_drop] at h1
  show _ = _
  rw [← h1]; simp

/-- A call's result is a slice of digits, perhaps with leading zeros, of the number N. -/
def RetV (w : World) (N : Nat) (e : Ending) (w' : World) : Prop := ∃ zs, Ten zs ∧ val zs = N ∧ zs.length ≤ 4294967296 * 3 ∧ RetS w (B8 zs) e w'

set_option maxHeartbeats 4000000 in
theorem rplus_any (A B : Option Addr) (n c n' c' : Nat) (us vs : List Nat) (w : World) (hn : Hid (n = us.length)) (hn' : Hid (n' = vs.length)) (hr : Rd w A (B8 us)) (hr' : Rd w B (B8 vs)) (ht : Ten us) (ht' : Ten vs)
    (hm : n ≤ 4294967296) (hm' : n' ≤ 4294967296) :
    Calls Try.prog 60 #[.slice A n c, .slice B n' c'] w (RetV w (val us + val vs)) := by
  go_enter Try.func60, Try.ntmps60
  go_wp2
  go_loopw [5, 6, 7] (fun ov cv iv wr => ∃ (k q : Nat) (dn : List Nat), k ≤ 4294967296 * 2 + 1 ∧ q ≤ 1 ∧ iv = .int .i64 k ∧ cv = .int .u8 q ∧ Hid (dn.length = k) ∧ Hid (dn ++ raddc (us.drop k) (vs.drop k) q = raddc us vs 0) ∧
      wr.ownsRow w.heap.size 5 1 ov k (B8 dn) ∧ Below w.heap.size w wr) (fun _ cv iv _ => n + n' + 2 - (intOf iv).toNat)
  case atStart => exact ⟨0, 0, [], by omega, by omega, rfl, rfl, rfl, rfl, World.ownsRow_nil _ _ _ _, Below.refl _ _⟩
  case round =>
    obtain ⟨k, q, dn, hk, hq, rfl, rfl, hdl, heq, hown, hb⟩ := hrel
    have hkb : k ≤ n + n' + 1 := by
      have h1 := congrArg List.length heq.out
      rw [List.length_append, hdl.out] at h1
      have h2 := len_raddc us vs 0
      have := hn.out; have := hn'.out
      omega
    have hlo := hown.lt
    by_cases hdone : n ≤ k ∧ n' ≤ k ∧ q = 0
    · obtain ⟨hd1, hd2, rfl⟩ := hdone
      have h1 := heq.out
      rw [List.drop_eq_nil_of_le (by have := hn.out; omega), List.drop_eq_nil_of_le (by have := hn'.out; omega)] at h1
      have HD : Hid (dn = raddc us vs 0) := by show _ = _; rw [← h1]; simp [raddc, addr]
      clear h1
      go_wp2
      go_ret
      refine ⟨dn, by rw [HD.out]; exact ten_raddc _ _ _ ht ht' (by omega), by rw [HD.out, val_raddc]; rfl, ?_, own_ret hown hb (Nat.le_refl _)⟩
      have := hdl.out; omega
    · have hrest : k < n ∨ k < n' ∨ q = 1 := by omega
      have hrest' : k < us.length ∨ k < vs.length ∨ q = 1 := by rw [← hn.out, ← hn'.out]; exact hrest
      have hku : k + 1 ≤ n + n' + 1 := by
        have h1 := congrArg List.length (raddc_walk heq rfl rfl hrest').out
        rw [List.length_append, List.length_append, hdl.out] at h1
        have h2 := len_raddc us vs 0
        have := hn.out; have := hn'.out
        simp only [List.length_cons, List.length_nil] at h1
        omega
      have hX : ∃ x, (us.drop k).headD 0 = x ∧ x < 10 ∧ (n ≤ k → x = 0) ∧ (k < n → us[k]? = some x) := by
        by_cases h : k < n
        · obtain ⟨x, hx⟩ : ∃ x, us[k]? = some x := ⟨_, List.getElem?_eq_getElem (by have := hn.out; omega)⟩
          exact ⟨x, headD_drop hx, ht.get hx, by omega, fun _ => hx⟩
        · exact ⟨0, headD_drop_none (by have := hn.out; omega), by omega, fun _ => rfl, fun h' => absurd h' h⟩
      have hY : ∃ x, (vs.drop k).headD 0 = x ∧ x < 10 ∧ (n' ≤ k → x = 0) ∧ (k < n' → vs[k]? = some x) := by
        by_cases h : k < n'
        · obtain ⟨x, hx⟩ : ∃ x, vs[k]? = some x := ⟨_, List.getElem?_eq_getElem (by have := hn'.out; omega)⟩
          exact ⟨x, headD_drop hx, ht'.get hx, by omega, fun _ => hx⟩
        · exact ⟨0, headD_drop_none (by have := hn'.out; omega), by omega, fun _ => rfl, fun h' => absurd h' h⟩
      obtain ⟨x, hxe, hx10, hx0, hxg⟩ := hX
      obtain ⟨y, hye, hy10, hy0, hyg⟩ := hY
      have HST := raddc_walk heq hxe hye hrest'
      have HXG := Lib.hid hxg
      have HYG := Lib.hid hyg
      have HX0 := Lib.hid hx0
      have HY0 := Lib.hid hy0
      have ecast : (((q + x + y) % 10 : Nat) : Int) = ((q : Int) + (x : Int) + (y : Int)) % 10 := by omega
      have HEC := Lib.hid ecast
      clear hxg hyg hx0 hy0 ecast hxe hye heq hrest' hrest
      have hfin : ∀ (v' : Value) (wc w3 : World) (u : Value), u = .int .u8 (((q + x + y) % 10 : Nat) : Int) → Below w.heap.size w wc → w3.ownsRow w.heap.size 5 1 v' (k + 1) (B8 dn ++ [u]) → Below w.heap.size wc w3 →
          ∃ (k_1 q_1 : Nat) (dn_1 : List Nat), k_1 ≤ 4294967296 * 2 + 1 ∧ q_1 ≤ 1 ∧ Value.int .i64 ((k : Int) + 1) = Value.int .i64 (k_1 : Int) ∧ Value.int .u8 ((((q + x + y) / 10 : Nat)) : Int) = Value.int .u8 (q_1 : Int) ∧ Hid (dn_1.length = k_1) ∧
            Hid (dn_1 ++ raddc (us.drop k_1) (vs.drop k_1) q_1 = raddc us vs 0) ∧ w3.ownsRow w.heap.size 5 1 v' k_1 (B8 dn_1) ∧ Below w.heap.size w w3 := by
        intro v' wc w3 u hu hb1 hown3 hb2
        subst hu
        refine ⟨k + 1, (q + x + y) / 10, _, by omega, by omega, by go_num, rfl, ?_, HST, by rw [B8_append]; exact hown3, hb1.trans hb2⟩
        show _ = _
        have := hdl.out; simp [this]
      have HFIN := Lib.hid hfin
      clear hfin
      by_cases h1 : k < n <;> by_cases h2 : k < n'
      · have hx' := HXG.out
        have hy' := HYG.out
        obtain ⟨ad, rfl, hcx⟩ := hr.at_ (B8_get (hx' h1)); have hcx' := (hb.cell (block_lt_of_cell hcx)).trans hcx
        obtain ⟨ad', rfl, hcy⟩ := hr'.at_ (B8_get (hy' h2)); have hcy' := (hb.cell (block_lt_of_cell hcy)).trans hcy
        clear hx' hy'
        try (have hq1 : 0 < q := by omega)
        go_wp2_with (at_builtin; go_loud (refine wpList_ap1 rfl (.tmp 44) (.tmp 47) 26 rfl w.heap.size 5 _ _ Try.underlying26 Try.info5 rfl _ (k) (B8 dn) rfl (hown.alloc _) ⟨wr.heap.size, 0, none⟩ _ (.int .u8 (((↑q+↑x+↑y) : Int) % 10)) rfl (cell_new _ _ _) rfl (by unfold maxLen; omega) (by omega) (by have := hb.size; simp; omega) ?_; intro v' w3 hown3 hgr3))
        · refine ⟨?_, by simp [intOf]; omega⟩
          have hf := HFIN.out v' _ w3 _ (u8e (by have := HEC.out; omega)) (hb.alloc hb.size _) hown3 ((Below.refl _ _).grown hgr3 (by have := hb.size; simp; omega) (fun k e => (hlo k e).1))
          have e2 : ((((q + x + y) / 10 : Nat)) : Int) = ((↑q+↑x+↑y) : Int) / 10 := by omega
          rw [e2] at hf
          exact hf
      · have hx' := HXG.out
        have hy' := HYG.out
        obtain ⟨ad, rfl, hcx⟩ := hr.at_ (B8_get (hx' h1)); have hcx' := (hb.cell (block_lt_of_cell hcx)).trans hcx
        obtain rfl := HY0.out (by omega)
        clear hx' hy'
        try (have hq1 : 0 < q := by omega)
        go_wp2_with (at_builtin; go_loud (refine wpList_ap1 rfl (.tmp 44) (.tmp 47) 26 rfl w.heap.size 5 _ _ Try.underlying26 Try.info5 rfl _ (k) (B8 dn) rfl (hown.alloc _) ⟨wr.heap.size, 0, none⟩ _ (.int .u8 (((↑q+↑x) : Int) % 10)) rfl (cell_new _ _ _) rfl (by unfold maxLen; omega) (by omega) (by have := hb.size; simp; omega) ?_; intro v' w3 hown3 hgr3))
        · refine ⟨?_, by simp [intOf]; omega⟩
          have hf := HFIN.out v' _ w3 _ (u8e (by have := HEC.out; omega)) (hb.alloc hb.size _) hown3 ((Below.refl _ _).grown hgr3 (by have := hb.size; simp; omega) (fun k e => (hlo k e).1))
          have e2 : ((((q + x + 0) / 10 : Nat)) : Int) = ((↑q+↑x) : Int) / 10 := by omega
          rw [e2] at hf
          exact hf
      · have hx' := HXG.out
        have hy' := HYG.out
        obtain rfl := HX0.out (by omega)
        obtain ⟨ad', rfl, hcy⟩ := hr'.at_ (B8_get (hy' h2)); have hcy' := (hb.cell (block_lt_of_cell hcy)).trans hcy
        clear hx' hy'
        try (have hq1 : 0 < q := by omega)
        go_wp2_with (at_builtin; go_loud (refine wpList_ap1 rfl (.tmp 44) (.tmp 47) 26 rfl w.heap.size 5 _ _ Try.underlying26 Try.info5 rfl _ (k) (B8 dn) rfl (hown.alloc _) ⟨wr.heap.size, 0, none⟩ _ (.int .u8 (((↑q+↑y) : Int) % 10)) rfl (cell_new _ _ _) rfl (by unfold maxLen; omega) (by omega) (by have := hb.size; simp; omega) ?_; intro v' w3 hown3 hgr3))
        · refine ⟨?_, by simp [intOf]; omega⟩
          have hf := HFIN.out v' _ w3 _ (u8e (by have := HEC.out; omega)) (hb.alloc hb.size _) hown3 ((Below.refl _ _).grown hgr3 (by have := hb.size; simp; omega) (fun k e => (hlo k e).1))
          have e2 : ((((q + 0 + y) / 10 : Nat)) : Int) = ((↑q+↑y) : Int) / 10 := by omega
          rw [e2] at hf
          exact hf
      · have hx' := HXG.out
        have hy' := HYG.out
        obtain rfl := HX0.out (by omega)
        obtain rfl := HY0.out (by omega)
        clear hx' hy'
        try (have hq1 : 0 < q := by omega)
        go_wp2_with (at_builtin; go_loud (refine wpList_ap1 rfl (.tmp 44) (.tmp 47) 26 rfl w.heap.size 5 _ _ Try.underlying26 Try.info5 rfl _ (k) (B8 dn) rfl (hown.alloc _) ⟨wr.heap.size, 0, none⟩ _ (.int .u8 ((↑q : Int) % 10)) rfl (cell_new _ _ _) rfl (by unfold maxLen; omega) (by omega) (by have := hb.size; simp; omega) ?_; intro v' w3 hown3 hgr3))
        · refine ⟨?_, by simp [intOf]; omega⟩
          have hf := HFIN.out v' _ w3 _ (u8e (by have := HEC.out; omega)) (hb.alloc hb.size _) hown3 ((Below.refl _ _).grown hgr3 (by have := hb.size; simp; omega) (fun k e => (hlo k e).1))
          have e2 : ((((q + 0 + 0) / 10 : Nat)) : Int) = (↑q : Int) / 10 := by omega
          rw [e2] at hf
          exact hf
end Go.Proofs.Ytgnddobonboloaa
