/- Text of integer. -/
import Derived.Test.YtgnddobonboloaaDtx
namespace Go.Proofs.Ytgnddobonboloaa
open Go.RowKit
set_option maxHeartbeats 1000000 in
theorem itext_unknown (l : List Nat) (base : Int) (w : World) (hk : knownB base = false) : Calls Try.prog 30 #[.string (mks l), .int .i64 base] w fun e w' =>
    e = .returned (.tuple #[.string ⟨#[]⟩, .int .i64 1]) ∧ w = w' := by
  have HK := Lib.hid hk
  clear hk
  go_enter Try.func30, Try.ntmps30
  go_wp2_with (go_at_call 39; go_loud (refine (known_any _ _).mono ?_; rintro e w1 ⟨rfl, rfl⟩; rw [HK.out]))
  go_ret2
  exact ⟨rfl, rfl⟩
set_option maxHeartbeats 1000000 in
theorem itext_bad (l : List Nat) (base : Int) (w : World) (hk : knownB base = true) (hl : By l) (h : parseC l = none) : Calls Try.prog 30 #[.string (mks l), .int .i64 base] w fun e w' =>
    e = .returned (.tuple #[.string ⟨#[]⟩, .int .i64 3]) ∧ Below w.heap.size w w' := by
  have HK := Lib.hid hk
  have H1 := Lib.hid (read_bad l w hl h)
  clear hk h
  go_enter Try.func30, Try.ntmps30
  go_wp2_with (first | (go_at_call 39; go_loud (refine (known_any _ _).mono ?_; rintro e w1 ⟨rfl, rfl⟩; rw [HK.out])) | (go_at_call 48; go_loud (refine H1.out.mono ?_; rintro e w1 ⟨rfl, hb1⟩)))
  go_ret2
  exact ⟨rfl, hb1.alloc hb1.size _⟩
set_option maxHeartbeats 1000000 in
theorem itext_ten (l : List Nat) (x : Bool × Nat) (w : World) (hk : knownB 10 = true) (hl : By l) (h : parseC l = some x) (_h0 : True) : Calls Try.prog 30 #[.string (mks l), .int .i64 10] w fun e w' =>
    e = .returned (.tuple #[.string (mks l), .int .i64 0]) ∧ Below w.heap.size w w' := by
  have HK := Lib.hid hk
  have H1 := Lib.hid (read_ok l x w hl h)
  clear hk h
  go_enter Try.func30, Try.ntmps30
  go_upto_region 4 with (first | (go_at_call 39; go_loud (refine (known_any _ _).mono ?_; rintro e w1 ⟨rfl, rfl⟩; rw [HK.out])) | (go_at_call 48; go_loud (refine H1.out.mono ?_; rintro e w1 ⟨A, n, c, rfl, hn, hn4, hc, hr1, hb1⟩)))
  skip
  go_wp2
  go_ret2
  exact ⟨rfl, hb1.alloc hb1.size _⟩
set_option maxHeartbeats 1000000 in
theorem itext_z (l : List Nat) (x : Bool × Nat)(b : Int) (w : World) (hk : knownB b = true) (hl : By l) (h : parseC l = some x) (h0 : x.2 = 0) (h10 : ((b : Int) == 10) = false) : Calls Try.prog 30 #[.string (mks l), .int .i64 b] w fun e w' =>
    e = .returned (.tuple #[.string (mks l), .int .i64 0]) ∧ Below w.heap.size w w' := by
  have HK := Lib.hid hk
  have H1 := Lib.hid (read_ok l x w hl h)
  clear hk h
  go_enter Try.func30, Try.ntmps30
  go_upto_region 4 with (first | (go_at_call 39; go_loud (refine (known_any _ _).mono ?_; rintro e w1 ⟨rfl, rfl⟩; rw [HK.out])) | (go_at_call 48; go_loud (refine H1.out.mono ?_; rintro e w1 ⟨A, n, c, rfl, hn, hn4, hc, hr1, hb1⟩)))
  obtain rfl : n = 0 := by rw [hn.out, h0, dg_zero]; rfl
  go_wp2
  go_ret2
  exact ⟨rfl, hb1.alloc hb1.size _⟩
/-- A row of the call's own through a step that makes memory alone. -/
theorem own_keep {w w' : World} {base : Nat} {e : TypeId} {size : Nat} {v : Value} {n : Nat} {xs : List Value} (h : w.ownsRow base e size v n xs) (hb : Below w.heap.size w w') : w'.ownsRow base e size v n xs := by
  obtain ⟨h1, h2⟩ := h
  refine ⟨h1, ?_⟩
  rcases h2 with h2 | ⟨g, cap, cur, hv, hg, hh, r⟩
  · exact Or.inl h2
  · have hlt : g < w.heap.size := by
      rcases Nat.lt_or_ge g w.heap.size with hl | hl
      · exact hl
      · rw [Array.getElem?_eq_none hl] at hh; cases hh
    exact Or.inr ⟨g, cap, cur, hv, hg, (hb.block g hlt).trans hh, r⟩
theorem own_open {w : World} {base : Nat} {e : TypeId} {v : Value} {n : Nat} {xs : List Value} (h : w.ownsRow base e 1 v n xs) (hn : 0 < n) : ∃ g cap, v = .slice (some ⟨g, 0, none⟩) n cap ∧ base ≤ g ∧ n ≤ cap := by
  rcases h.2 with ⟨_, h0⟩ | ⟨g, cap, cur, hv, hb, _, hc, _⟩
  · omega
  · exact ⟨g, cap, hv, hb, hc⟩
/-- i pairs are exchanged. -/
def Swp (l xs : List Nat) (i : Nat) : Prop := xs.length = l.length ∧ ∀ j, j < l.length → xs[j]? = if j < i ∨ l.length - 1 - j < i then l[l.length - 1 - j]? else l[j]?
theorem Swp.zero (l : List Nat) : Swp l l 0 := ⟨rfl, fun j hj => by rw [if_neg (by omega)]⟩
theorem Swp.done {l xs : List Nat} {i : Nat} (h : Swp l xs i) (hi : l.length / 2 ≤ i) : xs = l.reverse := by
  refine List.ext_getElem? fun j => ?_
  by_cases hj : j < l.length
  · rw [h.2 j hj, List.getElem?_reverse hj]
    by_cases hc : j < i ∨ l.length - 1 - j < i
    · rw [if_pos hc]
    · rw [if_neg hc]
      have : l.length - 1 - j = j := by omega
      rw [this]
  · rw [List.getElem?_eq_none (by rw [h.1]; omega), List.getElem?_eq_none (by simp; omega)]
theorem Swp.step {l xs : List Nat} {i a b : Nat} (h : Swp l xs i) (hi : i < l.length / 2) (ha : xs[l.length - 1 - i]? = some a) (hb : xs[i]? = some b) : Swp l ((xs.set i a).set (l.length - 1 - i) b) (i + 1) := by
  refine ⟨by simp [h.1], fun j hj => ?_⟩
  have h1 := h.2 i (by omega)
  have h2 := h.2 (l.length - 1 - i) (by omega)
  rw [hb, if_neg (by omega)] at h1
  rw [ha, if_neg (by omega)] at h2
  by_cases e1 : j = l.length - 1 - i
  · subst e1
    rw [List.getElem?_set_self (by simp [h.1]; omega), if_pos (by omega), h1]
    congr 1; omega
  · rw [List.getElem?_set_ne (by omega)]
    by_cases e2 : j = i
    · subst e2
      rw [List.getElem?_set_self (by rw [h.1]; omega), if_pos (by omega), h2]
    · rw [List.getElem?_set_ne (by omega), h.2 j hj]
      by_cases hc : j < i ∨ l.length - 1 - j < i
      · rw [if_pos hc, if_pos (by omega)]
      · rw [if_neg hc, if_neg (by omega)]

set_option maxHeartbeats 8000000 in
theorem itext_digits_p (l : List Nat) (x2 : Nat) (b : Nat) (w : World) (hk : knownB (b : Int) = true) (hl : By l) (h : parseC l = some (false, x2)) (hm0 : x2 ≠ 0) (hb10 : b ≠ 10) : Calls Try.prog 30 #[.string (mks l), .int .i64 (b : Int)] w fun e w' =>
    e = .returned (.tuple #[.string (mks ([] ++ (dgb b x2).reverse.map hexch)), .int .i64 0]) ∧ Below w.heap.size w w' := by
  have hb2 : 2 ≤ b ∧ b ≤ 16 := by unfold knownB at hk; have := of_decide_eq_true hk; omega
  have h10 : ((b : Int) == 10) = false := by simp; omega
  have HK := Lib.hid hk
  have H1 := Lib.hid (read_ok l (false, x2) w hl h)
  clear hk h
  go_enter Try.func30, Try.ntmps30
  go_upto_region 4 with (first | (go_at_call 39; go_loud (refine (known_any _ _).mono ?_; rintro e w1 ⟨rfl, rfl⟩; rw [HK.out])) | (go_at_call 48; go_loud (refine H1.out.mono ?_; rintro e w1 ⟨A, n, c, rfl, hn, hn4, hc, hr1, hb1⟩)))
  (try dsimp only at hn hr1)
  have hn0 : 0 < n := dg_pos_len hn hm0
  have hn0' : ((n : Int) == 0) = false := by simp; omega
  have HX := Lib.hid (Arr.new w1 62 [.bool false, .slice A n c])
  have hBW : Below w.heap.size w (w1.alloc (.cells #[.bool false, .slice A n c] 62)) := hb1.alloc hb1.size _
  have hrW := hr1.alloc (.cells #[.bool false, .slice A n c] 62)
  have hA : ∀ ad, A = some ad → ad.block ≠ w1.heap.size ∨ (dg x2).length = 0 := by
    intro ad e
    by_cases h0 : (dg x2).length = 0
    · exact .inr h0
    · left
      obtain ⟨u, hu⟩ : ∃ u, (B8 (dg x2))[0]? = some u := ⟨_, List.getElem?_eq_getElem (by rw [length_B8]; omega)⟩
      obtain ⟨ad', e', hc'⟩ := hr1 0 u hu
      rw [e] at e'
      obtain rfl := Option.some.inj e'
      have := block_lt_of_cell hc'
      rw [blk_add] at this
      omega
  have hw1 := hb1.size
  have hsW : w1.heap.size < (w1.alloc (.cells #[.bool false, .slice A n c] 62)).heap.size := by simp
  have hlen := dgb_len (b := b) (by omega) (dg_len2 (m := x2) (k := 200) (by have := hn.out; omega))
  clear hr1 hb1 H1
  generalize (w1.alloc (.cells #[.bool false, .slice A n c] 62)) = W at *
  have x1c := HX.out.cell' (i := 1) rfl
  go_wp2
  clear x1c
  go_loopw [8] (fun ov wr => ∃ (m q : Nat) (os : List Nat) (A1 : Option Addr) (n1 c1 : Nat), wr.ownsRow (w1.heap.size + 1) 5 1 ov q (B8 os) ∧ Hid (q = os.length) ∧
      Hid (os ++ (dgb b m).map hexch = (dgb b x2).map hexch) ∧ Hid (n1 = (dg m).length) ∧ n1 ≤ 400 ∧ Rd wr A1 (B8 (dg m)) ∧ (∀ ad, A1 = some ad → ad.block ≠ w1.heap.size ∨ (dg m).length = 0) ∧
      Hid (Arr wr w1.heap.size 62 [.bool false, .slice A1 n1 c1]) ∧ Below w.heap.size w wr ∧ w1.heap.size < wr.heap.size) (fun ov _ => 1401 - lenV ov)
  case atStart => exact ⟨x2, 0, [], A, n, c, World.ownsRow_nil _ _ _ _, rfl, by show _ = _; simp, hn, hn4, hrW, hA, HX, hBW, hsW⟩
  case round =>
    clear hrW hA HX hBW hsW
    obtain ⟨m, q, os, A1, n1, c1, hown, hq, heq, hn1, hn1b, hr1, hA1, hx, hb, hsz⟩ := hrel
    have q1 := hx.out.cell' (i := 1) rfl
    have q0 := hx.out.cell' (i := 0) rfl
    have f1 := hx.out.frozen 1
    have hlo := hown.lt
    have hbz := hb.size
    have hob : os.length ≤ 1400 := by
      have h1 := congrArg List.length heq.out
      simp at h1
      omega
    have hqb : q ≤ 1400 := by have := hq.out; omega
    by_cases h0 : m = 0
    · have HE : Hid (os = (dgb b x2).map hexch) := by
        have h1 := heq.out
        rw [h0, dgb_zero] at h1
        show _ = _
        simpa using h1
      have hnz : n1 = 0 := by rw [hn1.out, h0, dg_zero]; rfl
      subst hnz
      clear h0 heq hn1
      have hos0 : 0 < os.length := by
        rw [HE.out, List.length_map]
        have := dgb_ne_nil (b := b) (by omega) hm0
        exact List.length_pos_iff.2 this
      have hq0 : 0 < q := by have := hq.out; omega
      have hx0 := hx
      go_upto_region 15 with (fail)
      obtain ⟨L, hL, hLb⟩ : ∃ L : List Nat, L = os ∧ L.length = q := ⟨_, rfl, by have := hq.out; (try simp); omega⟩
      have HLE : Hid (L.reverse = [] ++ (dgb b x2).reverse.map hexch) := by
        show _ = _
        rw [hL, HE.out]
        simp
      have hownL : wr.ownsRow (w1.heap.size + 1) 5 1 u8 L.length (B8 L) := by
        rw [hLb, hL]
        first | exact hown | (rw [B8_append]; exact hown)
      have hbL : Below w.heap.size w wr := hb
      obtain ⟨g, cap, rfl, hgb, hqc⟩ := own_open hownL (by omega)
      have hLL : L.length ≤ 1401 := by omega
      have hL0 : 0 < L.length := by omega
      have HLN := Lib.hid hLb
      clear hL hown hq HE hob hLb
      rw [← HLN.out] at *
      go_wp2
      go_loopw [55] (fun iv w2 => ∃ (i : Nat) (xs : List Nat), iv = .int .i64 i ∧ i ≤ L.length / 2 ∧ Swp L xs i ∧ w2.ownsRow (w1.heap.size + 1) 5 1 (.slice (some ⟨g, 0, none⟩) L.length cap) L.length (B8 xs) ∧ Below w.heap.size w w2) (fun iv _ => L.length - (intOf iv).toNat)
      case atStart => exact ⟨0, L, rfl, Nat.zero_le _, Swp.zero L, hownL, hbL⟩
      case round =>
        clear hownL hbL q0 q1 f1 hb hsz hx hx0 hr1 hA1 hlo
        obtain ⟨i, xs, rfl, hi, hsw, hown, hb⟩ := hrel
        by_cases hlt : i < L.length / 2
        · obtain ⟨a, ha⟩ : ∃ a, xs[L.length - 1 - i]? = some a := ⟨_, List.getElem?_eq_getElem (by rw [hsw.1]; omega)⟩
          obtain ⟨bb, hbb⟩ : ∃ bb, xs[i]? = some bb := ⟨_, List.getElem?_eq_getElem (by rw [hsw.1]; omega)⟩
          have hc1 := (hown.cellAt (L.length - 1 - i) (by omega)).trans (B8_get ha)
          have hc2 := (hown.cellAt i (by omega)).trans (B8_get hbb)
          have hf1 := hown.frozenAt (L.length - 1 - i)
          have hf2 := hown.frozenAt i
          have HST := hsw.step hlt ha hbb
          have b1 : 0 ≤ (L.length : Int) - 1 - i := by omega
          have b2 : (L.length : Int) - 1 - i < L.length := by omega
          have b3 : ((L.length : Int) - 1 - i).toNat = L.length - 1 - i := by omega
          have b4 : (i : Int) < L.length := by omega
          have b5 : (i : Int) < (L.length : Int) / 2 := by omega
          have hst := ((hown.stored i (.int .u8 (a : Int))).1.stored (L.length - 1 - i) (.int .u8 (bb : Int))).1
          rw [B8_set, B8_set] at hst
          have HS2 := Lib.hid hst
          clear ha hbb hst
          go_wp2
          go_region
          go_wp2
          go_roundw
          case rel => exact ⟨i + 1, _, by go_num, by omega, HST, HS2.out, ((Below.drew hb).setCell (by dsimp only; omega) _).setCell (by dsimp only; omega) _⟩
          case measure => simp [intOf]; omega
        · have b5 : ¬ (i : Int) < (L.length : Int) / 2 := by omega
          have hdone := hsw.done (by omega)
          obtain ⟨A', c', he, hl', hc', _, hr', _⟩ := own_rd hown
          simp only [Value.slice.injEq, true_and] at he
          obtain ⟨rfl, rfl⟩ := he
          have hcv := run_str (P := Try.prog) wr 26 9 5 Try.underlying26 Try.underlying5 Try.underlying9 (some ⟨g, 0, none⟩) L.length cap _ hr' hsw.1.symm
          rw [hdone, HLE.out] at hcv
          clear hdone hl' hr'
          go_wp2
          go_ret2
          exact ⟨rfl, hb⟩
    · have hn0 : 0 < n1 := dg_pos_len hn1 h0
      have HSH := Lib.hid (short_d A1 n1 c1 m b wr hn1 hr1 (by omega) (by omega) (by omega))
      have HM0 := Lib.hid h0
      clear h0
      go_upto_region 12 with (first | (go_at_call 50; go_loud (refine HSH.out.mono ?_; rintro e w5 ⟨A5, n5, c5, d, rfl, hd, hd5, hn5, hc5, hr5, hf5, hb5⟩; have q15 := (hx.out.keep hb5).cell' (i := 1) rfl; have f15 := (hx.out.keep hb5).frozen 1)))
      have hz5 := hb5.size
      have hown5 : (w5.setCell ⟨w1.heap.size, 1, none⟩ (.slice A5 n5 c5)).ownsRow (w1.heap.size + 1) 5 1 u8 q (B8 os) := ownsRow_setCell_below (own_keep hown hb5) (by dsimp only; omega) _
      have hX6 := Lib.hid ((hx.out.keep hb5).store 1 (.slice A5 n5 c5))
      have hr6 : Rd (w5.setCell ⟨w1.heap.size, 1, none⟩ (.slice A5 n5 c5)) A5 (B8 (dg (m / b))) := hr5.setCell _ (fun ad e => by have := hf5 ad e; dsimp only; omega)
      have hb6 : Below w.heap.size w (w5.setCell ⟨w1.heap.size, 1, none⟩ (.slice A5 n5 c5)) := (hb.trans (hb5.mono hbz)).setCell (by dsimp only; omega) _
      have hz6 : w1.heap.size < (w5.setCell ⟨w1.heap.size, 1, none⟩ (.slice A5 n5 c5)).heap.size := by simp; omega
      have hd16 : d < 16 := by omega
      have hgk := get_mks (hexs_get hd16) (hexch_lt hd16) (by rw [size_mks]; exact hd16)
      change ((⟨#[48, 49, 50, 51, 52, 53, 54, 55, 56, 57, 97, 98, 99, 100, 101, 102]⟩ : ByteArray)[d]'_).toNat = _ at hgk
      have HGK := Lib.hid hgk
      clear hgk
      have hlo6 := hown5.lt
      generalize (w5.setCell ⟨w1.heap.size, 1, none⟩ (.slice A5 n5 c5)) = W6 at *
      have hfA : ∀ ad, A5 = some ad → ad.block ≠ w1.heap.size := fun ad e => by have := hf5 ad e; omega
      have hfB : ∀ ad, A5 = some ad → wr.heap.size ≤ ad.block := fun ad e => hf5 ad e
      clear hr5 q15 f15 hf5 q1 q0 f1
      go_wp2_with (at_builtin; go_loud (refine wpList_ap1 rfl (.tmp 42) (.tmp 45) 26 rfl (w1.heap.size + 1) 5 _ _ Try.underlying26 Try.info5 rfl _ (q) (B8 os) rfl (hown5.alloc _) ⟨W6.heap.size, 0, none⟩ _ (_) rfl (cell_new _ _ _) rfl (by unfold maxLen; omega) (by omega) (by have := hb6.size; simp; omega) ?_; intro v' w7 hown7 hgr7))
      have hown8 : w7.ownsRow (w1.heap.size + 1) 5 1 v' (q + 1) (B8 os ++ [.int .u8 ((hexch d : Nat) : Int)]) := Eq.mp (congrArg (fun x : Nat => w7.ownsRow (w1.heap.size + 1) 5 1 v' (q + 1) (B8 os ++ [.int .u8 (x : Int)])) HGK.out) hown7
      have hX7 := (hX6.out.alloc _).grown hgr7 (fun h => by have := hlo6 w1.heap.size h.symm; omega)
      have hr7 := (hr6.alloc _).grown hgr7 (fun ad e h => by have := hlo _ h.symm; have := hfB ad e; omega)
      have hb7 : Below w.heap.size w w7 := (hb6.alloc hb6.size _).grown hgr7 (by simp; omega) (fun k e => by have := hlo6 k e; omega)
      have hlt : (dg (m / b)).length ≤ (dg m).length := dg_len_mono (Nat.div_le_self _ _)
      have h9 := hn5.out
      have h10 := hn1.out
      refine ⟨⟨m / b, q + 1, os ++ [hexch d], A5, n5, c5, by rw [B8_append]; exact hown8, ?_, ?_, hn5, by omega, hr7, fun ad e => .inl (hfA ad e), hX7, hb7, hX7.lt⟩, ?_⟩
      · show _ = _; have := hq.out; simp; omega
      · show _ = _
        rw [← heq.out, dgb_pos HM0.out (by omega), hd.out]
        simp
      · obtain ⟨_, _, e1, _⟩ := own_rd hown8
        obtain ⟨_, _, e2, _⟩ := own_rd hown
        rw [e1, e2]
        show 1401 - (q + 1) < 1401 - q
        omega
set_option maxHeartbeats 8000000 in
theorem itext_digits_n (l : List Nat) (x2 : Nat) (b : Nat) (w : World) (hk : knownB (b : Int) = true) (hl : By l) (h : parseC l = some (true, x2)) (hm0 : x2 ≠ 0) (hb10 : b ≠ 10) : Calls Try.prog 30 #[.string (mks l), .int .i64 (b : Int)] w fun e w' =>
    e = .returned (.tuple #[.string (mks ([45] ++ (dgb b x2).reverse.map hexch)), .int .i64 0]) ∧ Below w.heap.size w w' := by
  have hb2 : 2 ≤ b ∧ b ≤ 16 := by unfold knownB at hk; have := of_decide_eq_true hk; omega
  have h10 : ((b : Int) == 10) = false := by simp; omega
  have HK := Lib.hid hk
  have H1 := Lib.hid (read_ok l (true, x2) w hl h)
  clear hk h
  go_enter Try.func30, Try.ntmps30
  go_upto_region 4 with (first | (go_at_call 39; go_loud (refine (known_any _ _).mono ?_; rintro e w1 ⟨rfl, rfl⟩; rw [HK.out])) | (go_at_call 48; go_loud (refine H1.out.mono ?_; rintro e w1 ⟨A, n, c, rfl, hn, hn4, hc, hr1, hb1⟩)))
  (try dsimp only at hn hr1)
  have hn0 : 0 < n := dg_pos_len hn hm0
  have hn0' : ((n : Int) == 0) = false := by simp; omega
  have HX := Lib.hid (Arr.new w1 62 [.bool true, .slice A n c])
  have hBW : Below w.heap.size w (w1.alloc (.cells #[.bool true, .slice A n c] 62)) := hb1.alloc hb1.size _
  have hrW := hr1.alloc (.cells #[.bool true, .slice A n c] 62)
  have hA : ∀ ad, A = some ad → ad.block ≠ w1.heap.size ∨ (dg x2).length = 0 := by
    intro ad e
    by_cases h0 : (dg x2).length = 0
    · exact .inr h0
    · left
      obtain ⟨u, hu⟩ : ∃ u, (B8 (dg x2))[0]? = some u := ⟨_, List.getElem?_eq_getElem (by rw [length_B8]; omega)⟩
      obtain ⟨ad', e', hc'⟩ := hr1 0 u hu
      rw [e] at e'
      obtain rfl := Option.some.inj e'
      have := block_lt_of_cell hc'
      rw [blk_add] at this
      omega
  have hw1 := hb1.size
  have hsW : w1.heap.size < (w1.alloc (.cells #[.bool true, .slice A n c] 62)).heap.size := by simp
  have hlen := dgb_len (b := b) (by omega) (dg_len2 (m := x2) (k := 200) (by have := hn.out; omega))
  clear hr1 hb1 H1
  generalize (w1.alloc (.cells #[.bool true, .slice A n c] 62)) = W at *
  have x1c := HX.out.cell' (i := 1) rfl
  go_wp2
  clear x1c
  go_loopw [8] (fun ov wr => ∃ (m q : Nat) (os : List Nat) (A1 : Option Addr) (n1 c1 : Nat), wr.ownsRow (w1.heap.size + 1) 5 1 ov q (B8 os) ∧ Hid (q = os.length) ∧
      Hid (os ++ (dgb b m).map hexch = (dgb b x2).map hexch) ∧ Hid (n1 = (dg m).length) ∧ n1 ≤ 400 ∧ Rd wr A1 (B8 (dg m)) ∧ (∀ ad, A1 = some ad → ad.block ≠ w1.heap.size ∨ (dg m).length = 0) ∧
      Hid (Arr wr w1.heap.size 62 [.bool true, .slice A1 n1 c1]) ∧ Below w.heap.size w wr ∧ w1.heap.size < wr.heap.size) (fun ov _ => 1401 - lenV ov)
  case atStart => exact ⟨x2, 0, [], A, n, c, World.ownsRow_nil _ _ _ _, rfl, by show _ = _; simp, hn, hn4, hrW, hA, HX, hBW, hsW⟩
  case round =>
    clear hrW hA HX hBW hsW
    obtain ⟨m, q, os, A1, n1, c1, hown, hq, heq, hn1, hn1b, hr1, hA1, hx, hb, hsz⟩ := hrel
    have q1 := hx.out.cell' (i := 1) rfl
    have q0 := hx.out.cell' (i := 0) rfl
    have f1 := hx.out.frozen 1
    have hlo := hown.lt
    have hbz := hb.size
    have hob : os.length ≤ 1400 := by
      have h1 := congrArg List.length heq.out
      simp at h1
      omega
    have hqb : q ≤ 1400 := by have := hq.out; omega
    by_cases h0 : m = 0
    · have HE : Hid (os = (dgb b x2).map hexch) := by
        have h1 := heq.out
        rw [h0, dgb_zero] at h1
        show _ = _
        simpa using h1
      have hnz : n1 = 0 := by rw [hn1.out, h0, dg_zero]; rfl
      subst hnz
      clear h0 heq hn1
      have hos0 : 0 < os.length := by
        rw [HE.out, List.length_map]
        have := dgb_ne_nil (b := b) (by omega) hm0
        exact List.length_pos_iff.2 this
      have hq0 : 0 < q := by have := hq.out; omega
      have hx0 := hx
      (go_upto_region 15 with (at_builtin; go_loud (refine wpList_ap1 rfl (.tmp 49) (.tmp 50) 26 rfl (w1.heap.size + 1) 5 _ _ Try.underlying26 Try.info5 rfl _ (q) (B8 os) rfl (hown.alloc _) ⟨wr.heap.size, 0, none⟩ _ (.int .u8 (45 : Nat)) rfl (cell_new _ _ _) rfl (by unfold maxLen; omega) (by omega) (by have := hb.size; simp; omega) ?_; intro v' wv hownv hgrv)))
      obtain ⟨L, hL, hLb⟩ : ∃ L : List Nat, L = os++ [45] ∧ L.length = q+ 1 := ⟨_, rfl, by have := hq.out; (try simp); omega⟩
      have HLE : Hid (L.reverse = [45] ++ (dgb b x2).reverse.map hexch) := by
        show _ = _
        rw [hL, HE.out]
        simp
      have hownL : wv.ownsRow (w1.heap.size + 1) 5 1 v' L.length (B8 L) := by
        rw [hLb, hL]
        first | exact hownv | (rw [B8_append]; exact hownv)
      have hbL : Below w.heap.size w wv := (hb.alloc hb.size _).grown hgrv (by simp; omega) (fun k e => by have := hlo k e; omega)
      obtain ⟨g, cap, rfl, hgb, hqc⟩ := own_open hownL (by omega)
      have hLL : L.length ≤ 1401 := by omega
      have hL0 : 0 < L.length := by omega
      have HLN := Lib.hid hLb
      clear hL hown hq HE hob hLb
      rw [← HLN.out] at *
      go_wp2
      go_loopw [55] (fun iv w2 => ∃ (i : Nat) (xs : List Nat), iv = .int .i64 i ∧ i ≤ L.length / 2 ∧ Swp L xs i ∧ w2.ownsRow (w1.heap.size + 1) 5 1 (.slice (some ⟨g, 0, none⟩) L.length cap) L.length (B8 xs) ∧ Below w.heap.size w w2) (fun iv _ => L.length - (intOf iv).toNat)
      case atStart => exact ⟨0, L, rfl, Nat.zero_le _, Swp.zero L, hownL, hbL⟩
      case round =>
        clear hownL hbL q0 q1 f1 hb hsz hx hx0 hr1 hA1 hlo
        obtain ⟨i, xs, rfl, hi, hsw, hown, hb⟩ := hrel
        by_cases hlt : i < L.length / 2
        · obtain ⟨a, ha⟩ : ∃ a, xs[L.length - 1 - i]? = some a := ⟨_, List.getElem?_eq_getElem (by rw [hsw.1]; omega)⟩
          obtain ⟨bb, hbb⟩ : ∃ bb, xs[i]? = some bb := ⟨_, List.getElem?_eq_getElem (by rw [hsw.1]; omega)⟩
          have hc1 := (hown.cellAt (L.length - 1 - i) (by omega)).trans (B8_get ha)
          have hc2 := (hown.cellAt i (by omega)).trans (B8_get hbb)
          have hf1 := hown.frozenAt (L.length - 1 - i)
          have hf2 := hown.frozenAt i
          have HST := hsw.step hlt ha hbb
          have b1 : 0 ≤ (L.length : Int) - 1 - i := by omega
          have b2 : (L.length : Int) - 1 - i < L.length := by omega
          have b3 : ((L.length : Int) - 1 - i).toNat = L.length - 1 - i := by omega
          have b4 : (i : Int) < L.length := by omega
          have b5 : (i : Int) < (L.length : Int) / 2 := by omega
          have hst := ((hown.stored i (.int .u8 (a : Int))).1.stored (L.length - 1 - i) (.int .u8 (bb : Int))).1
          rw [B8_set, B8_set] at hst
          have HS2 := Lib.hid hst
          clear ha hbb hst
          go_wp2
          go_region
          go_wp2
          go_roundw
          case rel => exact ⟨i + 1, _, by go_num, by omega, HST, HS2.out, ((Below.drew hb).setCell (by dsimp only; omega) _).setCell (by dsimp only; omega) _⟩
          case measure => simp [intOf]; omega
        · have b5 : ¬ (i : Int) < (L.length : Int) / 2 := by omega
          have hdone := hsw.done (by omega)
          obtain ⟨A', c', he, hl', hc', _, hr', _⟩ := own_rd hown
          simp only [Value.slice.injEq, true_and] at he
          obtain ⟨rfl, rfl⟩ := he
          have hcv := run_str (P := Try.prog) wr 26 9 5 Try.underlying26 Try.underlying5 Try.underlying9 (some ⟨g, 0, none⟩) L.length cap _ hr' hsw.1.symm
          rw [hdone, HLE.out] at hcv
          clear hdone hl' hr'
          go_wp2
          go_ret2
          exact ⟨rfl, hb⟩
    · have hn0 : 0 < n1 := dg_pos_len hn1 h0
      have HSH := Lib.hid (short_d A1 n1 c1 m b wr hn1 hr1 (by omega) (by omega) (by omega))
      have HM0 := Lib.hid h0
      clear h0
      go_upto_region 12 with (first | (go_at_call 50; go_loud (refine HSH.out.mono ?_; rintro e w5 ⟨A5, n5, c5, d, rfl, hd, hd5, hn5, hc5, hr5, hf5, hb5⟩; have q15 := (hx.out.keep hb5).cell' (i := 1) rfl; have f15 := (hx.out.keep hb5).frozen 1)))
      have hz5 := hb5.size
      have hown5 : (w5.setCell ⟨w1.heap.size, 1, none⟩ (.slice A5 n5 c5)).ownsRow (w1.heap.size + 1) 5 1 u8 q (B8 os) := ownsRow_setCell_below (own_keep hown hb5) (by dsimp only; omega) _
      have hX6 := Lib.hid ((hx.out.keep hb5).store 1 (.slice A5 n5 c5))
      have hr6 : Rd (w5.setCell ⟨w1.heap.size, 1, none⟩ (.slice A5 n5 c5)) A5 (B8 (dg (m / b))) := hr5.setCell _ (fun ad e => by have := hf5 ad e; dsimp only; omega)
      have hb6 : Below w.heap.size w (w5.setCell ⟨w1.heap.size, 1, none⟩ (.slice A5 n5 c5)) := (hb.trans (hb5.mono hbz)).setCell (by dsimp only; omega) _
      have hz6 : w1.heap.size < (w5.setCell ⟨w1.heap.size, 1, none⟩ (.slice A5 n5 c5)).heap.size := by simp; omega
      have hd16 : d < 16 := by omega
      have hgk := get_mks (hexs_get hd16) (hexch_lt hd16) (by rw [size_mks]; exact hd16)
      change ((⟨#[48, 49, 50, 51, 52, 53, 54, 55, 56, 57, 97, 98, 99, 100, 101, 102]⟩ : ByteArray)[d]'_).toNat = _ at hgk
      have HGK := Lib.hid hgk
      clear hgk
      have hlo6 := hown5.lt
      generalize (w5.setCell ⟨w1.heap.size, 1, none⟩ (.slice A5 n5 c5)) = W6 at *
      have hfA : ∀ ad, A5 = some ad → ad.block ≠ w1.heap.size := fun ad e => by have := hf5 ad e; omega
      have hfB : ∀ ad, A5 = some ad → wr.heap.size ≤ ad.block := fun ad e => hf5 ad e
      clear hr5 q15 f15 hf5 q1 q0 f1
      go_wp2_with (at_builtin; go_loud (refine wpList_ap1 rfl (.tmp 42) (.tmp 45) 26 rfl (w1.heap.size + 1) 5 _ _ Try.underlying26 Try.info5 rfl _ (q) (B8 os) rfl (hown5.alloc _) ⟨W6.heap.size, 0, none⟩ _ (_) rfl (cell_new _ _ _) rfl (by unfold maxLen; omega) (by omega) (by have := hb6.size; simp; omega) ?_; intro v' w7 hown7 hgr7))
      have hown8 : w7.ownsRow (w1.heap.size + 1) 5 1 v' (q + 1) (B8 os ++ [.int .u8 ((hexch d : Nat) : Int)]) := Eq.mp (congrArg (fun x : Nat => w7.ownsRow (w1.heap.size + 1) 5 1 v' (q + 1) (B8 os ++ [.int .u8 (x : Int)])) HGK.out) hown7
      have hX7 := (hX6.out.alloc _).grown hgr7 (fun h => by have := hlo6 w1.heap.size h.symm; omega)
      have hr7 := (hr6.alloc _).grown hgr7 (fun ad e h => by have := hlo _ h.symm; have := hfB ad e; omega)
      have hb7 : Below w.heap.size w w7 := (hb6.alloc hb6.size _).grown hgr7 (by simp; omega) (fun k e => by have := hlo6 k e; omega)
      have hlt : (dg (m / b)).length ≤ (dg m).length := dg_len_mono (Nat.div_le_self _ _)
      have h9 := hn5.out
      have h10 := hn1.out
      refine ⟨⟨m / b, q + 1, os ++ [hexch d], A5, n5, c5, by rw [B8_append]; exact hown8, ?_, ?_, hn5, by omega, hr7, fun ad e => .inl (hfA ad e), hX7, hb7, hX7.lt⟩, ?_⟩
      · show _ = _; have := hq.out; simp; omega
      · show _ = _
        rw [← heq.out, dgb_pos HM0.out (by omega), hd.out]
        simp
      · obtain ⟨_, _, e1, _⟩ := own_rd hown8
        obtain ⟨_, _, e2, _⟩ := own_rd hown
        rw [e1, e2]
        show 1401 - (q + 1) < 1401 - q
        omega
end Go.Proofs.Ytgnddobonboloaa
