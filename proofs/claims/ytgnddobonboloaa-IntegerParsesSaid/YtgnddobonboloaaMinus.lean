/- The walk of minus of integer. -/
import Derived.Test.YtgnddobonboloaaPlus
namespace Go.Proofs.Ytgnddobonboloaa
open Go.RowKit

/-- One digit of the difference. -/
def sdig (x y c : Nat) : Nat := if x < y + c then x + 10 - (y + c) else x - (y + c)
def sbor (x y c : Nat) : Nat := if x < y + c then 1 else 0
theorem subc_step {L vs dn T : List Nat} {k c x y : Nat} (h : Hid (dn ++ subc (L.drop k) (vs.drop k) c = T)) (hx : L[k]? = some x) (hy : (vs.drop k).headD 0 = y) :
    Hid (dn ++ [sdig x y c] ++ subc (L.drop (k + 1)) (vs.drop (k + 1)) (sbor x y c) = T) := by
  have h1 := h.out
  rw [dropc hx, subc, hy, List.tail_drop] at h1
  show _ = _
  rw [← h1]; simp [sdig, sbor]

set_option maxHeartbeats 4000000 in
theorem minus_any (A B : Option Addr) (n c n' c' p q : Nat) (w : World) (hn : Hid (n = (dg p).length)) (hn' : Hid (n' = (dg q).length)) (hr : Rd w A (B8 (dg p))) (hr' : Rd w B (B8 (dg q)))
    (hm : n ≤ 4294967296) (hle : q ≤ p) :
    Calls Try.prog 58 #[.slice A n c, .slice B n' c'] w (RetS w (B8 (dg (p - q)))) := by
  have hlen : n' ≤ n := by have := dg_len_mono hle; have := hn.out; have := hn'.out; omega
  have ht := ten_dg p
  have ht' := ten_dg q
  have hv := val_dg p
  have hv' := val_dg q
  have hsum := val_subc (dg p) (dg q) 0 (by have := hn.out; have := hn'.out; omega) ht ht' (by omega) (by omega)
  have HSUM : Hid (val (subc (dg p) (dg q) 0) = p - q) := by show _ = _; omega
  have hta : Ten (subc (dg p) (dg q) 0) := ten_subc _ _ _ ht ht' (by omega)
  clear hsum hv hv' hle
  generalize dg p = L at *
  generalize dg q = vs at *
  go_enter Try.func58, Try.ntmps58
  go_wp2_with (first | (at_make; go_loud (refine wpList_mk rfl _ _ 26 rfl 5 _ _ Try.underlying26 Try.info5 rfl _ _ _ _ rfl rfl (n) (n) (by omega) (by omega) (by omega) (by omega) (by unfold maxLen; omega) ?_; intro g w1 hg harr hbl hsz)) | (with_reducible refine wpList_cp rfl (.tmp 12) (.tmp 13) 26 26 rfl 5 Try.underlying26 Try.size5 g (n) (n) (n) c A rfl rfl _ _ harr.out (by simp) (B8 L) (hr.keep hbl) (by rw [length_B8]; exact hn.out.symm) (by omega) (B8_one _) ?_; intro w2 harr2 hgr2 hsz2))
  have hB : Below w.heap.size w w2 := hbl.grown hgr2 hbl.size (fun k e => by have := hg.out; have := Option.some.inj e; omega)
  have hS2 : Hid (Arr w2 g 5 (B8 L)) := by
    have h := harr2.out
    rw [List.drop_replicate, show n - n = 0 by omega, List.replicate_zero, List.append_nil] at h
    exact h
  clear harr harr2 hgr2 hbl
  go_loopw [6, 17] (fun cv iv wr => ∃ (k q : Nat) (dn : List Nat), k ≤ n ∧ q ≤ 1 ∧ iv = .int .i64 k ∧ cv = .int .i64 q ∧ Hid (dn.length = k) ∧ Hid (dn ++ subc (L.drop k) (vs.drop k) q = subc L vs 0) ∧
      Hid (Arr wr g 5 (B8 (dn ++ L.drop k))) ∧ Below w.heap.size w wr) (fun _ iv _ => n - (intOf iv).toNat)
  case atStart => exact ⟨0, 0, [], by omega, by omega, rfl, rfl, rfl, rfl, hS2, hB⟩
  case round =>
    obtain ⟨k, q, dn, hk, hq, rfl, rfl, hdl, heq, ha, hb⟩ := hrel
    have hgs : w.heap.size ≤ g := by have := hg.out; omega
    by_cases hlt : k < n
    · obtain ⟨x, hx⟩ : ∃ x, L[k]? = some x := ⟨_, List.getElem?_eq_getElem (by have := hn.out; omega)⟩
      have hx10 := ht.get hx
      have hcell := ha.out.cell' (B8_get (get_mid hdl.out hx))
      have hfr := ha.out.frozen k
      by_cases hks : k < n'
      · obtain ⟨y, hy⟩ : ∃ y, vs[k]? = some y := ⟨_, List.getElem?_eq_getElem (by have := hn'.out; omega)⟩
        have hy10 := ht'.get hy
        obtain ⟨ad, rfl, hcy⟩ := hr'.at_ (B8_get hy)
        have hcy' := (hb.cell (block_lt_of_cell hcy)).trans hcy
        have HST := subc_step heq hx (headD_drop hy)
        have HAR := Lib.hid (store_mid (y := sdig x y q) ha.out hdl.out hx)
        clear hx hy hcy heq
        by_cases hneg : x < y + q
        · have e1 : sdig x y q = x + 10 - (y + q) := by unfold sdig; rw [if_pos hneg]
          have e2 : sbor x y q = 1 := by unfold sbor; rw [if_pos hneg]
          have hcast : ((x + 10 - (y + q) : Nat) : Int) = (x : Int) - (q : Int) - (y : Int) + 10 := by omega
          rw [e1, hcast] at HAR
          rw [e1, e2] at HST
          have hneg' : (x : Int) - (q : Int) - (y : Int) < 0 := by omega
          clear hcast e1 e2
          go_wp2
          go_roundw
          case rel => exact ⟨k + 1, 1, _, by omega, by omega, by go_num, rfl, by show _ = _; have := hdl.out; simp [this], HST, HAR, hb.setCell hgs _⟩
          case measure => simp [intOf]; omega
        · have e1 : sdig x y q = x - (y + q) := by unfold sdig; rw [if_neg hneg]
          have e2 : sbor x y q = 0 := by unfold sbor; rw [if_neg hneg]
          have hcast : ((x - (y + q) : Nat) : Int) = (x : Int) - (q : Int) - (y : Int) := by omega
          rw [e1, hcast] at HAR
          rw [e1, e2] at HST
          have hneg' : ¬ (x : Int) - (q : Int) - (y : Int) < 0 := by omega
          clear hcast e1 e2
          go_wp2
          go_roundw
          case rel => exact ⟨k + 1, 0, _, by omega, by omega, by go_num, rfl, by show _ = _; have := hdl.out; simp [this], HST, HAR, hb.setCell hgs _⟩
          case measure => simp [intOf]; omega
      · have HST := subc_step (y := 0) heq hx (headD_drop_none (by have := hn'.out; omega))
        have HAR := Lib.hid (store_mid (y := sdig x 0 q) ha.out hdl.out hx)
        clear hx heq
        by_cases hneg : x < 0 + q
        · have e1 : sdig x 0 q = x + 10 - (0 + q) := by unfold sdig; rw [if_pos hneg]
          have e2 : sbor x 0 q = 1 := by unfold sbor; rw [if_pos hneg]
          have hcast : ((x + 10 - (0 + q) : Nat) : Int) = (x : Int) - (q : Int) + 10 := by omega
          rw [e1, hcast] at HAR
          rw [e1, e2] at HST
          have hneg' : (x : Int) - (q : Int) < 0 := by omega
          clear hcast e1 e2
          go_wp2
          go_roundw
          case rel => exact ⟨k + 1, 1, _, by omega, by omega, by go_num, rfl, by show _ = _; have := hdl.out; simp [this], HST, HAR, hb.setCell hgs _⟩
          case measure => simp [intOf]; omega
        · have e1 : sdig x 0 q = x - (0 + q) := by unfold sdig; rw [if_neg hneg]
          have e2 : sbor x 0 q = 0 := by unfold sbor; rw [if_neg hneg]
          have hcast : ((x - (0 + q) : Nat) : Int) = (x : Int) - (q : Int) := by omega
          rw [e1, hcast] at HAR
          rw [e1, e2] at HST
          have hneg' : ¬ (x : Int) - (q : Int) < 0 := by omega
          clear hcast e1 e2
          go_wp2
          go_roundw
          case rel => exact ⟨k + 1, 0, _, by omega, by omega, by go_num, rfl, by show _ = _; have := hdl.out; simp [this], HST, HAR, hb.setCell hgs _⟩
          case measure => simp [intOf]; omega
    · obtain rfl : k = n := by omega
      have hdr : L.drop k = [] := List.drop_eq_nil_of_le (by have := hn.out; omega)
      have HD : Hid (dn = subc L vs 0) := by
        have h1 := heq.out
        rw [hdr] at h1
        show _ = _
        simpa [subc] using h1
      have hrd : Rd wr (some ⟨g, 0, none⟩) (B8 dn) := by
        have h1 := ha.out.rd
        rw [hdr] at h1
        simpa using h1
      have htd : Ten dn := by rw [HD.out]; exact hta
      clear hdr heq ha
      go_wp2_with (go_at_call 56; go_loud (refine (trim_any _ _ _ dn _ (show Hid (_ = _) from hdl.out.symm) hrd htd (Nat.le_refl _) (by unfold maxLen; omega)).mono ?_; rintro e w' ⟨kk, rfl, hkk, hkn, hrr, rfl⟩))
      go_ret
      refine retS_eq (xs := B8 (dg (val dn))) ⟨some ⟨g, 0, none⟩, kk, k, rfl, ?_, by have := hdl.out; omega, hrr, ?_, hb⟩ (by rw [HD.out, HSUM.out])
      · show _ = _; rw [length_B8]; exact hkk.out
      · rintro ad e; obtain rfl := Option.some.inj e; exact hgs
end Go.Proofs.Ytgnddobonboloaa
