/- Plain laws: a step of the reference's lexer is a step of the scan, and ends where a character ends. -/
import Derived.Test.YtbdnamcjhndpjaaGreatDoorMQj
import Derived.Test.YtbdnamcjhndpjaaGreatDoorMQb
set_option linter.unusedVariables false
set_option linter.unusedSimpArgs false
set_option linter.defProp false
set_option linter.constructorNameAsVariable false
namespace Go.Proofs.YtbdnamcjhndpjaaGreatDoor
open Go.RowKit
theorem VU.after {l : List Nat} (h : VU l) {n : Nat} (h1 : 1 ≤ n) (hn : n ≤ l.length) (hc : l.getD (n - 1) 0 < 128) : VU (l.drop n) := by
 have h2 := h.drop (n - 1) (by rw [getD_drop]; exact hc)
 obtain ⟨c, hx⟩ : ∃ c, l[n - 1]? = some c := ⟨_, List.getElem?_eq_getElem (by omega)⟩
 rw [drop_cons hx] at h2
 rw [List.getD_eq_getElem?_getD, hx] at hc
 have h3 := h2.tail hc
 rwa [show n - 1 + 1 = n by omega] at h3
theorem text_last (f : Nat) : ∀ (l : List Nat) (p : Nat) (acc t : List Nat) (n : Nat), textG f l p acc = (t, n, 0) → p < n ∧ l.getD (n - 1 - p) 0 = 34 := by
 induction f with
 | zero => intro l p acc t n h; simp [textG] at h
 | succ f ih =>
  intro l p acc t n h
  rw [textG] at h
  by_cases hl : l = []
  ·rw [if_pos hl] at h; simp at h
  rw [if_neg hl] at h
  by_cases h34 : l.getD 0 0 = 34
  ·rw [if_pos h34] at h
   injection h with _ h
   injection h with h _
   rw [← h]
   refine ⟨by omega, ?_⟩
   rw [show p + 1 - 1 - p = 0 by omega]
   exact h34
  rw [if_neg h34] at h
  by_cases h32 : l.getD 0 0 < 32
  ·rw [if_pos h32] at h; simp at h
  rw [if_neg h32] at h
  have step : ∀ m acc', textG f (l.drop m) (p + m) acc' = (t, n, 0) → p < n ∧ l.getD (n - 1 - p) 0 = 34 := by
   intro m acc' h
   obtain ⟨h1, h2⟩ := ih _ _ _ _ _ h
   refine ⟨by omega, ?_⟩
   rw [List.getD_eq_getElem?_getD, List.getElem?_drop, show m + (n - 1 - (p + m)) = n - 1 - p by omega, ← List.getD_eq_getElem?_getD] at h2
   exact h2
  by_cases h92 : l.getD 0 0 = 92
  ·rw [if_pos h92] at h
   by_cases he : (escV l).2.2 = 0
   ·rw [if_pos he] at h; exact step _ _ h
   ·rw [if_neg he] at h
    injection h with _ h
    injection h with _ h
    have := (escV_len l).2.2.1
    omega
  ·rw [if_neg h92] at h; exact step _ _ h
theorem idxP_at {a b : Nat} : ∀ (l : List Nat) (n : Nat), idxP a b l = some n → n + 1 < l.length ∧ l.getD (n + 1) 0 = b := by
 intro l
 induction l with
 | nil => intro n h; cases h
 | cons x l ih =>
  intro n h
  rw [idxP] at h
  by_cases hc : x = a ∧ l.head? = some b
  ·rw [if_pos hc] at h
   injection h with h
   subst h
   cases l with
   | nil => simp at hc
   | cons y l => simp at hc; exact ⟨by simp, by simpa using hc.2⟩
  ·rw [if_neg hc] at h
   cases hi : idxP a b l with
   | none => rw [hi] at h; cases h
   | some m =>
    rw [hi] at h
    injection h with h
    obtain ⟨h1, h2⟩ := ih m hi
    rw [← h]
    exact ⟨by simp; omega, by simpa using h2⟩
theorem tok_after {l : List Nat} (hb : By l) (hv : VU l) (hne : l ≠ []) (h : (tokV l).2 = 0) : VU (l.drop (tokV l).1.to_) := by
 obtain ⟨c, t, rfl⟩ : ∃ c t, l = c :: t := by cases l with | nil => exact absurd rfl hne | cons c t => exact ⟨c, t, rfl⟩
 have e0 : (c :: t).getD 0 0 = c := rfl
 unfold tokV at h ⊢
 rw [e0] at h ⊢
 by_cases h1 : isPunct c = true
 ·rw [if_pos h1]
  have hc : c < 128 := by unfold isPunct at h1; have := of_decide_eq_true h1; omega
  exact hv.tail hc
 rw [if_neg h1] at h ⊢
 by_cases h2 : c = 34
 ·rw [if_pos h2] at h ⊢
  subst h2
  have hq := quotV_text hb hv
  have h0 : (quotV (34 :: t)).2.2 = 0 := h
  obtain ⟨tx, n, e⟩ : ∃ x y, quotV (34 :: t) = (x, y, 0) := ⟨_, _, Prod.ext rfl (Prod.ext rfl h0)⟩
  show VU ((34 :: t).drop (quotV (34 :: t)).2.1)
  have hbd := quotV_bd (34 :: t)
  rw [e] at hbd ⊢
  rw [hq] at e
  obtain ⟨h3, h4⟩ := text_last _ _ _ _ _ _ e
  refine hv.after (by show 1 ≤ n; omega) hbd.1 ?_
  show (34 :: t).getD (n - 1) 0 < 128
  rw [show n - 1 = (n - 1 - 1) + 1 by omega]
  have : (34 :: t).getD (n - 1 - 1 + 1) 0 = t.getD (n - 1 - 1) 0 := by simp
  rw [this, h4]
  omega
 rw [if_neg h2] at h ⊢
 by_cases h3 : (letB c || numB c) = true
 ·rw [if_pos h3] at h ⊢
  have hs := seqV_bd (c :: t)
  rw [hs.2.2.1 h]
  refine hv.pass _ (fun j hj => ?_) (seqN_le _)
  have hx : j < (c :: t).length := Nat.lt_of_lt_of_le hj (seqN_le _)
  rw [List.getD_eq_getElem?_getD, List.getElem?_eq_getElem hx]
  refine seqN_all (c :: t) _ (List.mem_of_getElem? (i := j) ?_)
  rw [List.getElem?_take, if_pos hj, List.getElem?_eq_getElem hx]
  rfl
 ·rw [if_neg h3] at h; exact absurd h (by decide)
theorem comm_after {l : List Nat} (hv : VU l) (h : 0 < commV l) : (commV l).toNat ≤ l.length ∧ VU (l.drop (commV l).toNat) := by
 unfold commV at h ⊢
 by_cases h1 : hasP [47, 47] l = true
 ·rw [if_pos h1] at h ⊢
  cases hi : idxB 10 l with
  | none =>
   simp only [Int.toNat_natCast]
   exact ⟨Nat.le_refl _, by rw [List.drop_length]; exact VU.nil⟩
  | some n =>
   obtain ⟨n1, n2⟩ := idxB_at hi
   simp only [Int.toNat_natCast]
   exact ⟨by omega, hv.drop n (by rw [getD_drop, n2]; omega)⟩
 ·rw [if_neg h1] at h ⊢
  by_cases h2 : hasP [47, 42] l = true
  ·rw [if_pos h2] at h ⊢
   cases hi : idxP 42 47 (l.drop 2) with
   | none => rw [hi] at h; simp at h
   | some n =>
    obtain ⟨n1, n2⟩ := idxP_at _ _ hi
    rw [List.length_drop] at n1
    simp only [Int.toNat_natCast]
    refine ⟨by omega, hv.after (by omega) (by omega) ?_⟩
    rw [List.getD_eq_getElem?_getD, List.getElem?_drop, ← List.getD_eq_getElem?_getD] at n2
    rw [show n + 4 - 1 = 2 + (n + 1) by omega, n2]
    omega
  ·rw [if_neg h2] at h; exact absurd h (by decide)
theorem step_law {s : List Nat} {st : LSt} {l : List Nat} (hl : s.drop st.i = l) (hb : By l) (hv : VU l) (hne : l ≠ []) :
  (∃ n ts ns, stepV s st l = .ok (n, ts, ns) ∧ 1 ≤ n ∧ n ≤ l.length ∧ VU (l.drop n) ∧ ts.length ≤ st.toks.length + 1 ∧ ns.length ≤ st.notes.length + 1 ∧ ∀ f, scanG (f + 1) st.i l st.toks st.notes = scanG f (st.i + n) (l.drop n) ts ns) ∨
  (∃ a e, stepV s st l = .error (a, e) ∧ e ≠ 0 ∧ ∀ f, scanG (f + 1) st.i l st.toks st.notes = ⟨[], [], a, e⟩) := by
 have hp := List.length_pos_iff.2 hne
 unfold stepV
 by_cases h1 : isBlank (l.getD 0 0) = true
 ·rw [if_pos h1]
  refine .inl ⟨1, _, _, rfl, Nat.le_refl _, by omega, ?_, by omega, by omega, fun f => scanG_blank hne h1⟩
  refine hv.after (Nat.le_refl _) (by omega) ?_
  unfold isBlank at h1
  have := of_decide_eq_true h1
  show l.getD 0 0 < 128
  omega
 rw [if_neg h1]
 by_cases h2 : commV l = 0
 ·rw [if_pos h2]
  have hbd := tokV_bd l hne
  unfold tokO
  by_cases h3 : (tokV l).2 = 0
  ·rw [if_pos h3]
   exact .inl ⟨_, _, _, rfl, hbd.2.1 h3, hbd.1, tok_after hb hv hne h3, by simp, by omega, fun f => scanG_tok hne h1 h2 h3⟩
  ·rw [if_neg h3]
   exact .inr ⟨_, _, rfl, h3, fun f => scanG_bad hne h1 h2 h3⟩
 rw [if_neg h2]
 unfold comO
 by_cases h3 : commV l < 0
 ·rw [if_pos h3]
  exact .inr ⟨_, _, rfl, by decide, fun f => scanG_open hne h1 h3⟩
 ·rw [if_neg h3]
  have h4 : 0 < commV l := by omega
  obtain ⟨k1, k2⟩ := comm_after hv h4
  refine .inl ⟨_, _, _, rfl, by omega, k1, k2, by omega, by simp, fun f => ?_⟩
  rw [hl]
  exact scanG_note hne h1 h4
end Go.Proofs.YtbdnamcjhndpjaaGreatDoor
namespace Go.Proofs.YtbdnamcjhndpjaaGreatDoor
open Go.RowKit
def RScanR (w : World) (x : Scanned) (e : Ending) (w' : World) : Prop :=
  Below w.heap.size w w' ∧ ∃ vo vn, e = .returned (.tuple #[vo, vn, .int .i64 (x.at_ : Int), .int .i64 (x.err : Int)]) ∧ w'.ownsRow w.heap.size 62 4 vo x.toks.length (toksC x.toks) ∧ w'.ownsRow w.heap.size 67 3 vn x.notes.length (notesC x.notes)
def ScanI (w : World) (B g : Nat) (s : List Nat) (x : Scanned) (wr : World) : Prop :=
  ∃ vt vn st, LM wr B g s vt vn st ∧ Below B w wr ∧
    ((st.err = 0 ∧ st.i ≤ s.length ∧ VU (s.drop st.i) ∧ st.toks.length ≤ st.i ∧ st.notes.length ≤ st.i ∧ ∃ f, s.length ≤ st.i + f ∧ Hid (scanG f st.i (s.drop st.i) st.toks st.notes = x)) ∨
     (st.err ≠ 0 ∧ Hid (x = ⟨[], [], st.at_, st.err⟩)))
theorem rdec_h (s : List Nat) (hs : By s) (hl : s.length < 4294967296) : Hid (∀ w, Calls Tryz.prog 27 #[.string (mks s)] w (DecR w (checkV s))) := fun w => rdecode_any s hs hl w
set_option maxRecDepth 100000 in
set_option maxHeartbeats 8000000 in
theorem rscan_any (s : List Nat) (hs : By s) (hl : s.length < 4294967296) (w : World) : Calls Tryz.prog 12 #[.string (mks s)] w (RScanR w (scanV s)) := by
  obtain ⟨x, hx⟩ : ∃ x, scanV s = x := ⟨_, rfl⟩
  rw [hx]
  unfold scanV at hx
  by_cases hlong : 65536 < s.length
  · have hl' : (65536 : Int) < s.length := by omega
    rw [if_pos hlong] at hx
    subst hx
    go_enter Tryz.func12, Tryz.ntmps12
    go_wp2_with (fail)
    refine bodyPost_ret (v := .tuple #[.slice none 0 0, .slice none 0 0, .int .i64 0, .int .i64 6]) (by simp [results, Tryz.results12, go_sem]; done) rfl ?_
    exact ⟨Below.refl _ _, _, _, rfl, World.ownsRow_nil _ _ _ _, World.ownsRow_nil _ _ _ _⟩
  · have hl' : ¬ (65536 : Int) < s.length := by omega
    rw [if_neg hlong] at hx
    have DD := rdec_h s hs (by omega)
    obtain ⟨o, ho⟩ : ∃ o, checkV s = o := ⟨_, rfl⟩
    have HOC := Lib.hid ho
    rw [ho] at DD hx
    clear ho
    cases o with
    | some k =>
      have hk : (0 : Int) ≤ ((k : Nat) : Int) := by omega
      replace hx : (⟨[], [], k, 11⟩ : Scanned) = x := hx
      subst hx
      have DD2 : Hid (∀ w, Calls Tryz.prog 27 #[.string (mks s)] w fun e w' => (∃ A n c, e = .returned (.tuple #[.slice A n c, .int .i64 ((k : Nat) : Int)])) ∧ Below w.heap.size w w') := DD
      clear DD
      go_enter Tryz.func12, Tryz.ntmps12
      go_wp2_with (go_at_call 27; ((with_reducible refine (DD2.out _).mono ?_)); rintro e w5 ⟨⟨A5, n5, c5, rfl⟩, hb5⟩)
      refine bodyPost_ret (v := .tuple #[.slice none 0 0, .slice none 0 0, .int .i64 ((k : Nat) : Int), .int .i64 11]) (by simp [results, Tryz.results12, go_sem]; done) rfl ?_
      exact ⟨hb5, _, _, rfl, World.ownsRow_nil _ _ _ _, World.ownsRow_nil _ _ _ _⟩
    | none =>
      have HX : Hid (scanG s.length 0 s [] [] = x) := hx
      have hvu : VU s := HOC.out
      have HVU := Lib.hid hvu
      have DD2 : Hid (∀ w, Calls Tryz.prog 27 #[.string (mks s)] w fun e w' => (∃ A n c, e = .returned (.tuple #[.slice A n c, .int .i64 (-1)])) ∧ Below w.heap.size w w') := DD
      clear DD hx hvu
      go_enter Tryz.func12, Tryz.ntmps12
      go_wp2_with (go_at_call 27; ((with_reducible refine (DD2.out _).mono ?_)); rintro e w5 ⟨⟨A5, n5, c5, rfl⟩, hb5⟩)
      have HI : Hid (ScanI w5 w5.heap.size w5.heap.size s x (w5.alloc (.cells #[.string (mks s), .int .i64 0, .slice none 0 0, .slice none 0 0, .int .i64 0, .int .i64 0] 85))) :=
        ⟨.slice none 0 0, .slice none 0 0, ⟨0, [], [], 0, 0⟩, ⟨Arr.new w5 _ [.string (mks s), .int .i64 0, .slice none 0 0, .slice none 0 0, .int .i64 0, .int .i64 0], Nat.le_refl _, World.ownsRow_nil _ _ _ _, World.ownsRow_nil _ _ _ _⟩, (Below.refl _ _).alloc (Nat.le_refl _) _,
          .inl ⟨rfl, Nat.zero_le _, HVU.out, Nat.le_refl _, Nat.le_refl _, s.length, by simp, HX⟩⟩
      have hlow : w5.heap.size < (w5.alloc (.cells #[.string (mks s), .int .i64 0, .slice none 0 0, .slice none 0 0, .int .i64 0, .int .i64 0] 85)).heap.size := by simp
      generalize (w5.alloc (.cells #[.string (mks s), .int .i64 0, .slice none 0 0, .slice none 0 0, .int .i64 0, .int .i64 0] 85)) = W0 at *
      have hz5 := hb5.size
      generalize hgB : w5.heap.size = B at *
      have HGB := Lib.hid hgB
      clear hgB
      go_loopw [] (fun wr => ScanI w5 B B s x wr) (fun wr => lexN B s.length wr)
      case atStart => exact HI.out
      case round =>
        clear HI
        obtain ⟨vt, vn, st, hL, hb, hrel⟩ := hrel
        have hms := lexN_of hL s.length
        have HMS := Lib.hid hms
        clear hms
        have hBw : B ≤ wr.heap.size := Nat.le_of_lt hL.lt
        have c1 := hL.c1
        rcases hrel with ⟨he, hi, hv, htk, htn, f, hf, hq⟩ | ⟨he, hxe⟩
        · have c4 := hL.e0 he
          by_cases hlt : st.i < s.length
          · have hlt' : (st.i : Int) < s.length := by omega
            have hne : s.drop st.i ≠ [] := by intro h; have := congrArg List.length h; rw [List.length_drop] at this; simp at this; omega
            have hstep := step_law (s := s) (st := st) (l := s.drop st.i) rfl (hs.drop _) hv hne
            obtain ⟨f, rfl⟩ : ∃ f', f = f' + 1 := ⟨f - 1, by omega⟩
            have hll : (s.drop st.i).length = s.length - st.i := List.length_drop
            rw [hll] at hstep
            have HST := Lib.hid hstep
            have DN := Lib.hid (lnext_any hL hs hBw he hlt (by omega) hv (by omega) (by omega))
            clear hstep hne hll
            go_wp2_with (go_at_call 28; ((with_reducible refine DN.out.mono ?_)); rintro e w8 ⟨rfl, vt8, vn8, st8, hL8, hP8, hb8⟩)
            have hP := hP8
            go_roundw
            case rel =>
              refine ⟨vt8, vn8, st8, hL8, hb.trans hb8, ?_⟩
              rcases HST.out with ⟨n, ts, ns, h1, h2, h3, h4, h5, h6, h7⟩ | ⟨a, e, h1, h2, h3⟩
              · rw [h1] at hP
                obtain rfl : st8 = _ := hP
                refine .inl ⟨he, by show st.i + n ≤ _; omega, ?_, by show ts.length ≤ st.i + n; omega, by show ns.length ≤ st.i + n; omega, f, by show _ ≤ st.i + n + f; omega, ?_⟩
                · show VU (s.drop (st.i + n))
                  rw [← List.drop_drop]
                  exact h4
                · show scanG f (st.i + n) (s.drop (st.i + n)) ts ns = x
                  rw [← List.drop_drop, ← h7 f]
                  exact hq.out
              · rw [h1] at hP
                obtain ⟨k1, k2, k3, k4⟩ := hP
                refine .inr ⟨by rw [k2]; exact k1, ?_⟩
                show x = _
                rw [← hq.out, h3 f, k2, k3]
            case measure =>
              rcases HST.out with ⟨n, ts, ns, h1, h2, h3, h4, h5, h6, h7⟩ | ⟨a, e, h1, h2, h3⟩
              · rw [h1] at hP
                obtain rfl : st8 = _ := hP
                rw [lexN_of hL8, HMS.out]
                simp only [he, if_true]
                omega
              · rw [h1] at hP
                obtain ⟨k1, k2, k3, k4⟩ := hP
                rw [lexN_of hL8, HMS.out, if_neg (by rw [k2]; exact k1), if_pos he]
                omega
          · have hge : ¬ (st.i : Int) < s.length := by omega
            have hxv : x = ⟨st.toks, st.notes, 0, 0⟩ := by
              rw [← hq.out, List.drop_eq_nil_of_le (by omega), scanG_end]
            obtain ⟨A2, k2, hv2, _, _⟩ := own_slice hL.tok
            obtain ⟨A3, k3, hv3, _, _⟩ := own_slice hL.note
            subst hv2
            subst hv3
            have c2 := hL.c2
            have c3 := hL.c3
            clear hq HX hv HVU
            go_upto_region 11 with (fail)
            go_quiet (fail)
            go_wp2_with (fail)
            refine bodyPost_ret (v := .tuple #[.slice A2 st.toks.length k2, .slice A3 st.notes.length k3, .int .i64 0, .int .i64 0]) (by simp [results, Tryz.results12, go_sem]; done) rfl ?_
            subst hxv
            have hB5 : Below w.heap.size w (wr.drewN nq) := Below.drewN' (hb5.trans (hb.mono hz5)) nq
            exact ⟨hB5, _, _, rfl, own_base (own_same hL.tok (fun _ _ => rfl)) hz5, own_base (own_same hL.note (fun _ _ => rfl)) hz5⟩
        · have c4 := hL.c4
          have c5 := hL.c5
          have he' : ((st.err : Int) == 0) = false := by simp; omega
          have he2 : ((st.err : Int) != 0) = true := by simp; omega
          have hxv := hxe.out
          clear he HX hxe HVU
          go_upto_region 10 with (fail)
          go_quiet (fail)
          go_wp2_with (fail)
          refine bodyPost_ret (v := .tuple #[.slice none 0 0, .slice none 0 0, .int .i64 (st.at_ : Int), .int .i64 (st.err : Int)]) (by simp [results, Tryz.results12, go_sem]; done) rfl ?_
          subst hxv
          have hB5 : Below w.heap.size w (wr.drewN nq) := Below.drewN' (hb5.trans (hb.mono hz5)) nq
          exact ⟨hB5, _, _, rfl, World.ownsRow_nil _ _ _ _, World.ownsRow_nil _ _ _ _⟩
end Go.Proofs.YtbdnamcjhndpjaaGreatDoor
