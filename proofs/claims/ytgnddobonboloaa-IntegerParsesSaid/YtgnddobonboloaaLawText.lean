/- The canonical text of a description. -/
import Derived.Test.YtgnddobonboloaaPlain
namespace Go.Proofs.Ytgnddobonboloaa
open Go.RowKit

/-- Bytes of a canonical magnitude, or none. -/
def Good (cs : List Nat) : Prop := cs.all isDig = true ∧ cs[0]? ≠ some 48
theorem Good.nil : Good [] := ⟨rfl, by simp⟩
theorem Good.snoc {cs : List Nat} {c : Nat} (h : Good cs) (h1 : 48 ≤ c) (h2 : c ≤ 57) (h3 : c ≠ 48 ∨ 0 < cs.length) : Good (cs ++ [c]) := by
  refine ⟨?_, ?_⟩
  · rw [List.all_append, h.1]; simp [isDig, h1, h2]
  · cases cs with
    | nil => simp at h3 ⊢; exact h3
    | cons d ds => have := h.2; simpa using this
theorem Good.take {cs : List Nat} (h : Good cs) (k : Nat) : Good (cs.take k) := by
  refine ⟨List.all_eq_true.2 fun c hc => List.all_eq_true.1 h.1 c (List.mem_of_mem_take hc), ?_⟩
  intro h'
  rw [List.getElem?_take] at h'
  split at h'
  · exact h.2 h'
  · cases h'
theorem Good.num {cs : List Nat} (h : Good cs) (h0 : cs ≠ []) : ∃ m, m ≠ 0 ∧ cs = (asc (dg m)).reverse ∧ (dg m).length = cs.length := by
  have hten := ten_dec h.1
  have hcan : Can (dec cs).reverse := by
    cases cs with
    | nil => exact absurd rfl h0
    | cons c r =>
      have h1 := List.all_eq_true.1 h.1 c List.mem_cons_self
      unfold isDig at h1
      have h2 := of_decide_eq_true h1
      have h3 : c ≠ 48 := fun e => h.2 (by rw [e]; rfl)
      have e : (dec (c :: r)).reverse = (dec r).reverse ++ [c - 48] := by simp [dec]
      unfold Can
      rw [e, tlen_snoc, if_neg (by omega)]
      simp
  have hne : (dec cs).reverse ≠ [] := by
    intro e
    have := congrArg List.length e
    simp [dec] at this
    exact h0 this
  refine ⟨val (dec cs).reverse, ?_, ?_, ?_⟩
  · have := can_val_ge hcan hne
    have h1 : 0 < 10 ^ ((dec cs).reverse.length - 1) := Nat.pow_pos (by decide)
    omega
  · rw [dg_val_can hten hcan]
    unfold asc dec
    rw [← List.map_reverse, List.reverse_reverse, List.map_map]
    conv => lhs; rw [← List.map_id cs]
    refine List.map_congr_left fun x hx => ?_
    have h1 := List.all_eq_true.1 h.1 x hx
    unfold isDig at h1
    have h2 := of_decide_eq_true h1
    simp; omega
  · rw [dg_val_can hten hcan]; simp [dec]

set_option maxRecDepth 8000 in
set_option maxHeartbeats 4000000 in
theorem lawtext_any (neg : Bool) (l : List Nat) (ni : Nat) (w : World) (hl : By l) (hn : ni < 65536) : Calls Try.prog 17 #[.agg #[.bool neg, .string (mks l), .int .u16 (ni : Int)]] w fun e w' =>
    ∃ m, Hid (e = .returned (.string (mks (ntx neg m)))) ∧ (dg m).length ≤ 400 ∧ Below w.heap.size w w' := by
  generalize hQ : (fun (e : Ending) (w' : World) => ∃ m, Hid (e = .returned (.string (mks (ntx neg m)))) ∧ (dg m).length ≤ 400 ∧ Below w.heap.size w w') = Q
  have HQ := Lib.hid hQ
  clear hQ
  have HX : Hid (Arr (w.alloc (.cells #[.bool neg, .string (mks l), .int .u16 (ni : Int)] 36)) w.heap.size 36 [.bool neg, .string (mks l), .int .u16 (ni : Int)]) := Arr.new w 36 [.bool neg, .string (mks l), .int .u16 (ni : Int)]
  have hBW : Below w.heap.size w (w.alloc (.cells #[.bool neg, .string (mks l), .int .u16 (ni : Int)] 36)) := (Below.refl _ _).alloc (Nat.le_refl _) _
  have hsW : w.heap.size + 1 ≤ (w.alloc (.cells #[.bool neg, .string (mks l), .int .u16 (ni : Int)] 36)).heap.size := by simp
  go_enter Try.func17, Try.ntmps17
  go_upto_region 1 with (fail)
  generalize (w.alloc (.cells #[.bool neg, .string (mks l), .int .u16 (ni : Int)] 36)) = W at *
  go_upto_region 3 with (fail)
  go_loopw [3, 4] (fun bv iv wr => ∃ (k n : Nat) (cs : List Nat), iv = .int .i64 k ∧ k ≤ 450 ∧ k ≤ l.length ∧ Hid (n = cs.length) ∧ n ≤ k ∧ Good cs ∧ wr.ownsRow (w.heap.size + 1) 5 1 bv n (B8 cs) ∧ Below (w.heap.size + 1) W wr) (fun _ iv _ => 450 - (intOf iv).toNat)
  case atStart => exact ⟨0, 0, [], rfl, by omega, Nat.zero_le _, rfl, Nat.le_refl _, Good.nil, ⟨rfl, .inl ⟨rfl, rfl⟩⟩, Below.refl _ _⟩
  case round =>
    obtain ⟨k, n, cs, rfl, hk, hk2, hnc, hnk, hgood, hown, hb⟩ := hrel
    obtain ⟨A, cc, rfl, hln, hncc, hmx, hr, hf⟩ := own_rd hown
    have hx := HX.out.below hb (by omega)
    have q0 := hx.cell' (i := 0) rfl
    have q1 := hx.cell' (i := 1) rfl
    have q2 := hx.cell' (i := 2) rfl
    clear hx
    have hlo := hown.lt
    by_cases hlt : k < l.length
    · by_cases hlt2 : k < 450
      · obtain ⟨c, hc⟩ : ∃ c, l[k]? = some c := ⟨_, List.getElem?_eq_getElem hlt⟩
        have hcb := hl.get hc
        have hgk := get_mks hc hcb (by rw [size_mks]; exact hlt)
        have hcase : c < 48 ∨ (48 ≤ c ∧ 57 < c) ∨ (48 ≤ c ∧ c ≤ 57 ∧ ((c : Int) == 48) = false ∧ c ≠ 48) ∨ (c = 48 ∧ 0 < n) ∨ (c = 48 ∧ n = 0) := by
          simp only [beq_eq_false_iff_ne]; omega
        clear hc hln
        rcases hcase with h1 | ⟨h1, h2⟩ | ⟨h1, h2, h3, h4⟩ | ⟨rfl, h1⟩ | ⟨rfl, h1⟩
        · skip
          skip
          go_wp2_with (at_builtin; go_loud (refine wpList_ap1 rfl (.tmp 40) (.tmp 45) 26 rfl (w.heap.size + 1) 5 _ _ Try.underlying26 Try.info5 rfl _ (n) (B8 cs) rfl (hown.alloc _) ⟨wr.heap.size, 0, none⟩ _ (.int .u8 (c : Nat)) rfl (cell_new _ _ _) rfl (by unfold maxLen; omega) (by omega) (by have := hb.size; simp; omega) ?_; intro v' w' hown' hgr'))
          go_roundw
          case rel => exact ⟨k + 1, _, cs, by go_num, by omega, by omega, hnc, by omega, hgood, hown, hb⟩
          case measure => simp [intOf]; omega
        · skip
          skip
          go_wp2_with (at_builtin; go_loud (refine wpList_ap1 rfl (.tmp 40) (.tmp 45) 26 rfl (w.heap.size + 1) 5 _ _ Try.underlying26 Try.info5 rfl _ (n) (B8 cs) rfl (hown.alloc _) ⟨wr.heap.size, 0, none⟩ _ (.int .u8 (c : Nat)) rfl (cell_new _ _ _) rfl (by unfold maxLen; omega) (by omega) (by have := hb.size; simp; omega) ?_; intro v' w' hown' hgr'))
          go_roundw
          case rel => exact ⟨k + 1, _, cs, by go_num, by omega, by omega, hnc, by omega, hgood, hown, hb⟩
          case measure => simp [intOf]; omega
        · skip
          have hgs := hgood.snoc h1 h2 (.inl h4)
          go_wp2_with (at_builtin; go_loud (refine wpList_ap1 rfl (.tmp 40) (.tmp 45) 26 rfl (w.heap.size + 1) 5 _ _ Try.underlying26 Try.info5 rfl _ (n) (B8 cs) rfl (hown.alloc _) ⟨wr.heap.size, 0, none⟩ _ (.int .u8 (c : Nat)) rfl (cell_new _ _ _) rfl (by unfold maxLen; omega) (by omega) (by have := hb.size; simp; omega) ?_; intro v' w' hown' hgr'))
          go_roundw
          case rel => exact ⟨k + 1, n + 1, cs ++ [c], by go_num, by omega, by omega, by show _ = _; have := hnc.out; simp; omega, by omega, hgs, by rw [B8_append]; exact hown', (hb.alloc (by have := hb.size; omega) _).grown hgr' (by have := hb.size; simp; omega) (fun k e => (hlo k e).1)⟩
          case measure => simp [intOf]; omega
        · skip
          have hgs := hgood.snoc (c := 48) (by omega) (by omega) (.inr (by have := hnc.out; omega))
          go_wp2_with (at_builtin; go_loud (refine wpList_ap1 rfl (.tmp 40) (.tmp 45) 26 rfl (w.heap.size + 1) 5 _ _ Try.underlying26 Try.info5 rfl _ (n) (B8 cs) rfl (hown.alloc _) ⟨wr.heap.size, 0, none⟩ _ (.int .u8 (48 : Nat)) rfl (cell_new _ _ _) rfl (by unfold maxLen; omega) (by omega) (by have := hb.size; simp; omega) ?_; intro v' w' hown' hgr'))
          go_roundw
          case rel => exact ⟨k + 1, n + 1, cs ++ [48], by go_num, by omega, by omega, by show _ = _; have := hnc.out; simp; omega, by omega, hgs, by rw [B8_append]; exact hown', (hb.alloc (by have := hb.size; omega) _).grown hgr' (by have := hb.size; simp; omega) (fun k e => (hlo k e).1)⟩
          case measure => simp [intOf]; omega
        · subst h1
          skip
          go_wp2_with (at_builtin; go_loud (refine wpList_ap1 rfl (.tmp 40) (.tmp 45) 26 rfl (w.heap.size + 1) 5 _ _ Try.underlying26 Try.info5 rfl _ (n) (B8 cs) rfl (hown.alloc _) ⟨wr.heap.size, 0, none⟩ _ (.int .u8 (c : Nat)) rfl (cell_new _ _ _) rfl (by unfold maxLen; omega) (by omega) (by have := hb.size; simp; omega) ?_; intro v' w' hown' hgr'))
          go_roundw
          case rel => exact ⟨k + 1, _, cs, by go_num, by omega, by omega, hnc, by omega, hgood, hown, hb⟩
          case measure => simp [intOf]; omega
      · clear hln
        go_wp2
        go_loopw [3, 51] (fun bv iv w2 => ∃ (j n : Nat) (cs : List Nat), iv = .int .i64 j ∧ j ≤ ni % 450 ∧ Hid (n = cs.length) ∧ n ≤ 450 + j ∧ Good cs ∧ w2.ownsRow (w.heap.size + 1) 5 1 bv n (B8 cs) ∧ Below (w.heap.size + 1) W w2) (fun _ iv _ => 450 - (intOf iv).toNat)
        case atStart => exact ⟨0, n, cs, rfl, Nat.zero_le _, hnc, by omega, hgood, hown, hb⟩
        case round =>
          clear hr hf hlo q0 q1 q2
          clear hnc hgood hown hb
          obtain ⟨j, n, cs, rfl, hj, hnc, hnk, hgood, hown, hb⟩ := hrel
          obtain ⟨A, cc, rfl, hln, hncc, hmx, hr, hf⟩ := own_rd hown
          have hx := HX.out.below hb (by omega)
          have q0 := hx.cell' (i := 0) rfl
          clear hx
          have hlo := hown.lt
          by_cases hlt2 : j < ni % 450
          · have hgs := hgood.snoc (c := 57) (by omega) (by omega) (.inl (by omega))
            go_wp2_with (at_builtin; go_loud (refine wpList_ap1 rfl (.tmp 53) (.tmp 54) 26 rfl (w.heap.size + 1) 5 _ _ Try.underlying26 Try.info5 rfl _ (n) (B8 cs) rfl (hown.alloc _) ⟨wr.heap.size, 0, none⟩ _ (.int .u8 (57 : Nat)) rfl (cell_new _ _ _) rfl (by unfold maxLen; omega) (by omega) (by have := hb.size; simp; omega) ?_; intro v' w' hown' hgr'))
            go_roundw
            case rel => exact ⟨j + 1, n + 1, cs ++ [57], by go_num, by omega, by show _ = _; have := hnc.out; simp; omega, by omega, hgs, by rw [B8_append]; exact hown', (hb.alloc (by have := hb.size; omega) _).grown hgr' (by have := hb.size; simp; omega) (fun k e => (hlo k e).1)⟩
            case measure => simp [intOf]; omega
          · have hlt3 : ¬ (j : Int) < (ni : Int) % 450 := by omega
            have hbb : Below w.heap.size w wr := hBW.trans (hb.mono (by omega))
            have e45 : (ByteArray.mk #[45] : ByteArray) = mks [45] := mks_lit1 45
            clear hlo hown hlt2
            by_cases hbig : 400 < n
            · obtain ⟨ad, rfl⟩ : ∃ ad, A = some ad := by
                obtain ⟨u, hu⟩ : ∃ u, (B8 cs)[0]? = some u := ⟨_, List.getElem?_eq_getElem (by rw [length_B8]; have := hnc.out; omega)⟩
                obtain ⟨ad, e, _⟩ := hr 0 u hu
                exact ⟨ad, e⟩
              have hr4 : Rd wr (some ad) (B8 (cs.take 400)) := by have := hr.take 400; rwa [show (B8 cs).take 400 = B8 (cs.take 400) from by simp [B8, List.map_take]] at this
              have hl4 : 400 = (cs.take 400).length := by have := hnc.out; simp; omega
              obtain ⟨m, hm0, hme, hml⟩ := (hgood.take 400).num (by intro e; rw [e] at hl4; simp at hl4)
              have hcv := run_str (P := Try.prog) wr 26 9 5 Try.underlying26 Try.underlying5 Try.underlying9 (some ad) 400 cc _ hr4 hl4
              have HM := Lib.hid hme
              have HL := Lib.hid hl4
              have HML := Lib.hid hml
              have HM0 := Lib.hid hm0
              clear hme hl4 hml hm0 hln hmx hr hr4 hf
              cases neg
              all_goals
                go_wp2
                rw [← HQ.out]
                refine ⟨m, ?_, by rw [HML.out, ← HL.out]; exact Nat.le_refl _, hbb⟩
                show _ = _
                rw [ntx_pos HM0.out, ← HM.out]
                rfl
            · by_cases hn0 : n = 0
              · subst hn0
                clear hln hmx hr hf
                go_wp2
                rw [← HQ.out]
                exact ⟨0, by show _ = _; rw [show ntx neg 0 = [48] from by unfold ntx; rw [if_pos rfl]]; rfl, by rw [dg_zero]; exact Nat.zero_le _, hbb⟩
              · have hn0' : ((n : Int) == 0) = false := by simp; omega
                obtain ⟨m, hm0, hme, hml⟩ := hgood.num (by intro e; rw [e] at hnc; exact hn0 hnc.out)
                have hcv := run_str (P := Try.prog) wr 26 9 5 Try.underlying26 Try.underlying5 Try.underlying9 A n cc _ hr hnc.out
                have HM := Lib.hid hme
                have HML := Lib.hid hml
                have HM0 := Lib.hid hm0
                have hcl : cs.length ≤ 400 := by have := hnc.out; omega
                clear hme hml hm0 hln hmx hr hf
                cases neg
                all_goals
                  go_wp2
                  rw [← HQ.out]
                  refine ⟨m, ?_, by rw [HML.out, ← hnc.out]; omega, hbb⟩
                  show _ = _
                  rw [ntx_pos HM0.out, ← HM.out]
                  rfl
    · clear hln
      go_wp2
      go_loopw [3, 51] (fun bv iv w2 => ∃ (j n : Nat) (cs : List Nat), iv = .int .i64 j ∧ j ≤ ni % 450 ∧ Hid (n = cs.length) ∧ n ≤ 450 + j ∧ Good cs ∧ w2.ownsRow (w.heap.size + 1) 5 1 bv n (B8 cs) ∧ Below (w.heap.size + 1) W w2) (fun _ iv _ => 450 - (intOf iv).toNat)
      case atStart => exact ⟨0, n, cs, rfl, Nat.zero_le _, hnc, by omega, hgood, hown, hb⟩
      case round =>
        clear hr hf hlo q0 q1 q2
        clear hnc hgood hown hb
        obtain ⟨j, n, cs, rfl, hj, hnc, hnk, hgood, hown, hb⟩ := hrel
        obtain ⟨A, cc, rfl, hln, hncc, hmx, hr, hf⟩ := own_rd hown
        have hx := HX.out.below hb (by omega)
        have q0 := hx.cell' (i := 0) rfl
        clear hx
        have hlo := hown.lt
        by_cases hlt2 : j < ni % 450
        · have hgs := hgood.snoc (c := 57) (by omega) (by omega) (.inl (by omega))
          go_wp2_with (at_builtin; go_loud (refine wpList_ap1 rfl (.tmp 53) (.tmp 54) 26 rfl (w.heap.size + 1) 5 _ _ Try.underlying26 Try.info5 rfl _ (n) (B8 cs) rfl (hown.alloc _) ⟨wr.heap.size, 0, none⟩ _ (.int .u8 (57 : Nat)) rfl (cell_new _ _ _) rfl (by unfold maxLen; omega) (by omega) (by have := hb.size; simp; omega) ?_; intro v' w' hown' hgr'))
          go_roundw
          case rel => exact ⟨j + 1, n + 1, cs ++ [57], by go_num, by omega, by show _ = _; have := hnc.out; simp; omega, by omega, hgs, by rw [B8_append]; exact hown', (hb.alloc (by have := hb.size; omega) _).grown hgr' (by have := hb.size; simp; omega) (fun k e => (hlo k e).1)⟩
          case measure => simp [intOf]; omega
        · have hlt3 : ¬ (j : Int) < (ni : Int) % 450 := by omega
          have hbb : Below w.heap.size w wr := hBW.trans (hb.mono (by omega))
          have e45 : (ByteArray.mk #[45] : ByteArray) = mks [45] := mks_lit1 45
          clear hlo hown hlt2
          by_cases hbig : 400 < n
          · obtain ⟨ad, rfl⟩ : ∃ ad, A = some ad := by
              obtain ⟨u, hu⟩ : ∃ u, (B8 cs)[0]? = some u := ⟨_, List.getElem?_eq_getElem (by rw [length_B8]; have := hnc.out; omega)⟩
              obtain ⟨ad, e, _⟩ := hr 0 u hu
              exact ⟨ad, e⟩
            have hr4 : Rd wr (some ad) (B8 (cs.take 400)) := by have := hr.take 400; rwa [show (B8 cs).take 400 = B8 (cs.take 400) from by simp [B8, List.map_take]] at this
            have hl4 : 400 = (cs.take 400).length := by have := hnc.out; simp; omega
            obtain ⟨m, hm0, hme, hml⟩ := (hgood.take 400).num (by intro e; rw [e] at hl4; simp at hl4)
            have hcv := run_str (P := Try.prog) wr 26 9 5 Try.underlying26 Try.underlying5 Try.underlying9 (some ad) 400 cc _ hr4 hl4
            have HM := Lib.hid hme
            have HL := Lib.hid hl4
            have HML := Lib.hid hml
            have HM0 := Lib.hid hm0
            clear hme hl4 hml hm0 hln hmx hr hr4 hf
            cases neg
            all_goals
              go_wp2
              rw [← HQ.out]
              refine ⟨m, ?_, by rw [HML.out, ← HL.out]; exact Nat.le_refl _, hbb⟩
              show _ = _
              rw [ntx_pos HM0.out, ← HM.out]
              rfl
          · by_cases hn0 : n = 0
            · subst hn0
              clear hln hmx hr hf
              go_wp2
              rw [← HQ.out]
              exact ⟨0, by show _ = _; rw [show ntx neg 0 = [48] from by unfold ntx; rw [if_pos rfl]]; rfl, by rw [dg_zero]; exact Nat.zero_le _, hbb⟩
            · have hn0' : ((n : Int) == 0) = false := by simp; omega
              obtain ⟨m, hm0, hme, hml⟩ := hgood.num (by intro e; rw [e] at hnc; exact hn0 hnc.out)
              have hcv := run_str (P := Try.prog) wr 26 9 5 Try.underlying26 Try.underlying5 Try.underlying9 A n cc _ hr hnc.out
              have HM := Lib.hid hme
              have HML := Lib.hid hml
              have HM0 := Lib.hid hm0
              have hcl : cs.length ≤ 400 := by have := hnc.out; omega
              clear hme hml hm0 hln hmx hr hf
              cases neg
              all_goals
                go_wp2
                rw [← HQ.out]
                refine ⟨m, ?_, by rw [HML.out, ← hnc.out]; omega, hbb⟩
                show _ = _
                rw [ntx_pos HM0.out, ← HM.out]
                rfl
end Go.Proofs.Ytgnddobonboloaa
