/- The walk of text of integer. -/
import Derived.Test.YtgnddobonboloaaTrim
namespace Go.Proofs.Ytgnddobonboloaa
open Go.RowKit

theorem asc_step {ds : List Nat} {k d n : Nat} (hd : ds[k]? = some d) (hn : ds.length = n) :
    ((List.replicate (n - k) 0 ++ (asc (ds.take k)).reverse).set (n - 1 - k) (48 + d)) = List.replicate (n - (k + 1)) 0 ++ (asc (ds.take (k + 1))).reverse := by
  have h := List.getElem?_eq_some_iff.1 hd
  have e1 : List.replicate (n - k) 0 = List.replicate (n - (k + 1)) 0 ++ [0] := by
    rw [← List.replicate_succ']; congr 1; have := h.1; omega
  rw [e1, List.append_assoc, show n - 1 - k = n - (k + 1) by omega]
  have e2 : ([0] ++ (asc (ds.take k)).reverse) = 0 :: (asc (ds.take k)).reverse := rfl
  rw [e2, set_mid (by simp), List.append_assoc]
  congr 1
  rw [List.take_succ_eq_append_getElem h.1, h.2]
  simp [asc]

def TextPost (neg : Bool) (m : Nat) (w : World) (e : Ending) (w' : World) : Prop :=
  e = .returned (if (dg m).length ≤ 400 then .tuple #[.string (mks (ntx neg m)), .int .i64 0] else .tuple #[.string (mks []), .int .i64 6]) ∧ Below w.heap.size w w'

set_option maxHeartbeats 4000000 in
theorem text_any (neg : Bool) (A : Option Addr) (n c m : Nat) (w : World) (hn : Hid (n = (dg m).length)) (hr : Rd w A (B8 (dg m))) (hm : n ≤ 4294967296) :
    Calls Try.prog 42 #[.agg #[.bool neg, .slice A n c]] w (TextPost neg m w) := by
  have hB0 : Below w.heap.size w (w.alloc (.cells #[.bool neg, .slice A n c] 62)) := (Below.refl _ _).alloc (Nat.le_refl _) _
  by_cases hlong : n ≤ 400
  · by_cases h0 : n = 0
    · subst h0
      have hm0 : m = 0 := by have := hn.out; exact dg_length_zero.1 this.symm
      subst hm0
      go_enter Try.func42, Try.ntmps42
      go_wp2
      go_ret2
      refine ⟨?_, hB0⟩
      rw [if_pos (by simp [dg_zero])]
      rfl
    · have hn0 : 0 < n := by omega
      have h0' : ((n : Int) == 0) = false := by simp; omega
      have hlong' : ¬ (400 : Int) < n := by omega
      have HP : Hid (TextPost neg m w = fun e w' => e = .returned (.tuple #[.string (mks ((if neg then [45] else []) ++ (asc (dg m)).reverse)), .int .i64 0]) ∧ Below w.heap.size w w') := by
        show _ = _
        funext e w'
        unfold TextPost
        rw [if_pos (by have := hn.out; omega)]
        unfold ntx
        rw [if_neg (by rintro rfl; have := hn.out; rw [dg_zero] at this; simp at this; omega)]
      rw [HP.out]
      clear HP h0
      have ht := ten_dg m
      generalize dg m = ds at *
      have hr1 := hr.keep hB0
      have hsz0 : (w.alloc (.cells #[.bool neg, .slice A n c] 62)).heap.size = w.heap.size + 1 := by simp
      have hbox : Arr (w.alloc (.cells #[.bool neg, .slice A n c] 62)) w.heap.size 62 [.bool neg, .slice A n c] := Arr.new _ _ _
      have HBOX := Lib.hid hbox
      have HSZ := Lib.hid hsz0
      clear hsz0 hbox
      go_enter Try.func42, Try.ntmps42
      go_wp2_with (first | ((at_make; go_loud (refine wpList_mk rfl _ _ 26 rfl 5 _ _ Try.underlying26 Try.info5 rfl _ _ _ _ rfl rfl (n) (n) (by omega) (by omega) (by omega) (by omega) (by unfold maxLen; omega) ?_; intro g w1 hg harr hbl hsz)); have q1 := (HBOX.out.keep hbl).cell' (i := 1) rfl))
      have hgs : w.heap.size < g := by have h1 := hg.out; rw [HSZ.out] at h1; omega
      have hS1 : Hid (Arr w1 g 5 (B8 (List.replicate n 0 ++ (asc (ds.take 0)).reverse))) := by
        have h := harr.out
        show Arr _ _ _ _
        have e : B8 (List.replicate n 0 ++ (asc (ds.take 0)).reverse) = List.replicate n (.int .u8 0) := by simp [asc, B8]
        rw [e]; exact h
      have hB1 : Below w.heap.size w w1 := hB0.trans (hbl.mono (by rw [HSZ.out]; omega))
      have hbx1 := Lib.hid (HBOX.out.keep hbl)
      clear harr q1
      go_loopw [21] (fun iv wr => ∃ k : Nat, k ≤ n ∧ iv = .int .i64 k ∧ Hid (Arr wr g 5 (B8 (List.replicate (n - k) 0 ++ (asc (ds.take k)).reverse))) ∧ Hid (Arr wr w.heap.size 62 [.bool neg, .slice A n c]) ∧ Below w.heap.size w wr)
        (fun iv _ => n - (intOf iv).toNat)
      case atStart => exact ⟨0, by omega, rfl, hS1, hbx1, hB1⟩
      case round =>
        obtain ⟨k, hk, rfl, ha, hbx, hb⟩ := hrel
        have q0 := hbx.out.cell' (i := 0) rfl
        have q1 := hbx.out.cell' (i := 1) rfl
        by_cases hlt : k < n
        · obtain ⟨d, hd⟩ : ∃ d, ds[k]? = some d := ⟨_, List.getElem?_eq_getElem (by have := hn.out; omega)⟩
          have hd10 := ht.get hd
          obtain ⟨ad, rfl, hcd0⟩ := hr.at_ (B8_get hd)
          have hcd := (hb.cell (block_lt_of_cell hcd0)).trans hcd0
          have hget : (List.replicate (n - k) 0 ++ (asc (ds.take k)).reverse)[n - 1 - k]? = some 0 := by
            rw [List.getElem?_append_left (by simp; omega), List.getElem?_replicate, if_pos (by omega)]
          have hc2 := ha.out.cell' (B8_get hget)
          have hfr := ha.out.frozen (n - 1 - k)
          have hst := ha.out.store (n - 1 - k) (.int .u8 ((48 + d : Nat) : Int))
          rw [B8_set, asc_step hd hn.out.symm] at hst
          have ecast : ((48 + d : Nat) : Int) = 48 + (d : Int) := by omega
          rw [ecast] at hst
          have HST := Lib.hid hst
          have hbx2 := Lib.hid (hbx.out.far (p := ⟨g, n - 1 - k, none⟩) (by show w.heap.size ≠ g; omega) (.int .u8 (48 + (d : Int))))
          have hB2 := hb.setCell (p := ⟨g, n - 1 - k, none⟩) (by show w.heap.size ≤ g; omega) (.int .u8 (48 + (d : Int)))
          have b1 : 0 ≤ (n : Int) - 1 - k := by omega
          have b2 : (n : Int) - 1 - k < n := by omega
          have b3 : ((n : Int) - 1 - k).toNat = n - 1 - k := by omega
          clear hst ecast hget hcd0 hd hbx
          go_wp2
          go_region
          go_wp2
          go_roundw
          case rel => exact ⟨k + 1, by omega, by go_num, HST, hbx2, hB2.drew⟩
          case measure => simp [intOf]; omega
        · obtain rfl : k = n := by omega
          have e1 : List.replicate (k - k) 0 ++ (asc (ds.take k)).reverse = (asc ds).reverse := by
            rw [Nat.sub_self, List.take_of_length_le (by have := hn.out; omega)]; rfl
          have hrd := ha.out.rd
          rw [e1] at hrd
          have hcv := run_str (P := Try.prog) wr 26 9 5 Try.underlying26 Try.underlying5 Try.underlying9 (some ⟨g, 0, none⟩) k k _ hrd (by have := hn.out; simp [asc]; omega)
          have hl : (asc ds).length ≤ 400 := by have := hn.out; simp [asc]; omega
          clear e1 hrd ha hS1
          cases neg
          · go_wp2
            go_ret2
            exact ⟨rfl, hb⟩
          · have e45 : (ByteArray.mk #[45] : ByteArray) = mks [45] := mks_lit1 45
            go_wp2
            go_ret2
            exact ⟨rfl, hb⟩
  · have hlong' : (400 : Int) < n := by omega
    go_enter Try.func42, Try.ntmps42
    go_wp2
    go_ret2
    refine ⟨?_, hB0⟩
    rw [if_neg (by have := hn.out; omega)]
    rfl
end Go.Proofs.Ytgnddobonboloaa
