/- The reference's Of, at canonical texts. -/
import Derived.Test.YtgnddobonboloaaRInt
import Derived.Test.YtgnddobonboloaaBase2
import Derived.Test.YtgnddobonboloaaPlain
namespace Go.Proofs.Ytgnddobonboloaa
open Go.RowKit

/-- An integer of the reference, in new memory. -/
def RI (w : World) (x : Bool × Nat) (e : Ending) (w' : World) : Prop :=
  ∃ A n c, e = .returned (.agg #[.bool x.1, .slice A n c]) ∧ Hid (n = (dg x.2).length) ∧ n ≤ c ∧ Rd w' A (B8 (dg x.2)) ∧ From w.heap.size A ∧ Below w.heap.size w w'

/-- What a text says, read from its end. -/
def ofS : List Nat → Bool × List Nat
  | [] => (false, [])
  | c :: r => if c = 45 then (true, (ofS r).2) else ((ofS r).1, (ofS r).2 ++ [c - 48])
/-- A digit or a minus. -/
def OfC (l : List Nat) : Prop := ∀ c ∈ l, c = 45 ∨ 48 ≤ c ∧ c ≤ 57
theorem ofS_asc (ds : List Nat) : ofS (asc ds).reverse = (false, ds) := by
  have key : ∀ es : List Nat, ofS (asc es) = (false, es.reverse) := by
    intro es
    induction es with
    | nil => rfl
    | cons d es ih =>
      have e : asc (d :: es) = (48 + d) :: asc es := rfl
      rw [e, ofS, if_neg (by omega), ih]
      simp
  have h := key ds.reverse
  rw [List.reverse_reverse] at h
  rw [← h]
  unfold asc
  rw [List.map_reverse]
theorem ofS_ntx (b : Bool) (m : Nat) : ofS (ntx b m) = (b && decide (0 < m), if m = 0 then [0] else dg m) := by
  by_cases h : m = 0
  · subst h; unfold ntx; rw [if_pos rfl, if_pos rfl]; cases b <;> rfl
  · rw [ntx_pos h, if_neg h, decide_eq_true (show 0 < m by omega)]
    cases b
    · simp [ofS_asc]
    · simp [ofS, ofS_asc]
theorem ofC_ntx (b : Bool) (m : Nat) : OfC (ntx b m) := by
  intro c hc
  by_cases h : m = 0
  · subst h; unfold ntx at hc; rw [if_pos rfl] at hc; have := List.mem_singleton.1 hc; omega
  · rw [ntx_pos h] at hc
    rcases List.mem_append.1 hc with hc | hc
    · cases b
      · cases hc
      · have := List.mem_singleton.1 hc; omega
    · have := List.all_eq_true.1 (all_asc m) c hc
      unfold isDig at this
      have := of_decide_eq_true this
      omega
theorem ten_ofS {l : List Nat} (h : OfC l) : Ten (ofS l).2 := by
  induction l with
  | nil => exact Ten.nil
  | cons c r ih =>
    have h1 := ih fun x hx => h x (by simp [hx])
    have h2 := h c (by simp)
    rw [ofS]
    by_cases hc : c = 45
    · rw [if_pos hc]; exact h1
    · rw [if_neg hc]; exact h1.append (Ten.cons (by omega) Ten.nil)
theorem len_ofS (l : List Nat) : (ofS l).2.length ≤ l.length := by
  induction l with
  | nil => exact Nat.le_refl _
  | cons c r ih =>
    rw [ofS]
    split
    · simp; omega
    · simp; omega

set_option maxHeartbeats 4000000 in
theorem of_any (l : List Nat) (w : World) (hl : By l) (hc : OfC l) (hm : l.length ≤ 4294967296) : Calls Try.prog 18 #[.string (mks l)] w (RI w ((ofS l).1, val (ofS l).2)) := by
  obtain ⟨HR, HX, HB, HZ⟩ := two_box w 28 28 [.bool false, .slice none 0 0] [.bool false, .slice none 0 0]
  go_enter Try.func18, Try.ntmps18
  go_upto_region 3 with (fail)
  generalize ((w.alloc (.cells #[.bool false, .slice none 0 0] 28)).alloc (.cells #[.bool false, .slice none 0 0] 28)) = W at *
  have hr0 := HR.out.cell' (i := 0) rfl
  have hWs := HZ.out
  have hWs2 : w.heap.size + 2 ≤ W.heap.size := by omega
  clear hWs hr0
  go_loopw [4] (fun iv wr => ∃ (k q : Nat) (v : Value) (nb : Bool) (xs : List Nat), k ≤ l.length ∧ iv = .int .i64 ((k : Int) - 1) ∧ Hid (ofS (l.drop k) = (nb, xs)) ∧ Hid (q = xs.length) ∧ q + k ≤ l.length ∧ Hid (Arr wr (w.heap.size + 1) 28 [.bool nb, v]) ∧
      wr.ownsRow (w.heap.size + 2) 5 1 v q (B8 xs) ∧ Below (w.heap.size + 1) W wr) (fun iv _ => (intOf iv + 1).toNat)
  case atStart => exact ⟨l.length, 0, _, false, [], Nat.le_refl _, rfl, by show _ = _; rw [List.drop_eq_nil_of_le (Nat.le_refl _)]; rfl, rfl, by omega, HX, World.ownsRow_nil _ _ _ _, Below.refl _ _⟩
  case round =>
    clear HX
    obtain ⟨k, q, v, nb, xs, hk, rfl, heq, hq, hql, hx, hown, hb⟩ := hrel
    have q0 := hx.out.cell' (i := 0) rfl
    have q1 := hx.out.cell' (i := 1) rfl
    have f0 := hx.out.frozen 0
    have f1 := hx.out.frozen 1
    have hlo := hown.lt
    have hws := hb.size
    have htd : Ten xs := by have := ten_ofS (l := l.drop k) (fun c h => hc c (List.mem_of_mem_drop h)); rw [heq.out] at this; exact this
    by_cases hk0 : k = 0
    · subst hk0
      obtain ⟨A', cc, rfl, hln, hncc, hmx, hro, hf⟩ := own_rd hown
      have hR := (HR.out.below hb (by omega))
      have r0 := hR.cell' (i := 0) rfl
      have r1 := hR.cell' (i := 1) rfl
      have g0 := hR.frozen 0
      have g1 := hR.frozen 1
      clear hln
      go_wp2_with (go_at_call 49; go_loud (refine (rtrim_any _ _ _ xs _ hq hro htd hncc (by unfold maxLen; omega)).mono ?_; rintro e w1 ⟨kk, rfl, hkk, hkn, hrr, rfl⟩))
      have HRF := ((hR.far (p := ⟨w.heap.size + 1, 1, none⟩) (by dsimp only; omega) (.slice A' kk cc)).store 0 (.bool nb)).store 1 (.slice A' kk cc)
      have z0 := HRF.cell' (i := 0) rfl
      have z1 := HRF.cell' (i := 1) rfl
      refine bodyPost_ret (v := .agg #[.bool nb, .slice A' kk cc]) (by simp [results, Try.results18, go_sem, z0, z1]) rfl ?_
      rw [show ofS l = (nb, xs) from heq.out]
      refine ⟨A', kk, cc, rfl, hkk, by have := hq.out; omega, ((hrr.setCell _ (fun ad e => by have := hf ad e; dsimp only; omega)).setCell _ (fun ad e => by have := hf ad e; dsimp only; omega)).setCell _ (fun ad e => by have := hf ad e; dsimp only; omega), fun ad e => by have := hf ad e; omega, ?_⟩
      exact (((HB.trans (hb.mono (by omega))).setCell (by dsimp only; omega) _).setCell (Nat.le_refl _) _).setCell (Nat.le_refl _) _
    · obtain ⟨c, hcc⟩ : ∃ c, l[k-1]? = some c := ⟨_, List.getElem?_eq_getElem (by omega)⟩
      have hcb := hl.get hcc
      have hgk := get_mks hcc hcb (by rw [size_mks]; omega)
      have hcs := hc c (List.mem_of_getElem? hcc)
      have hdr : ofS (l.drop (k - 1)) = if c = 45 then (true, xs) else (nb, xs ++ [c - 48]) := by
        rw [drop_cons hcc, show k - 1 + 1 = k by omega, ofS, heq.out]
      have hk1 : 0 < k := by omega
      have e1 : ((k:Int) - 1).toNat = k - 1 := by omega
      have b1 : 0 ≤ (k:Int) - 1 := by omega
      have b2 : (k:Int) - 1 < l.length := by omega
      by_cases h45 : c = 45
      · subst h45
        rw [if_pos rfl] at hdr
        have HD := Lib.hid hdr
        clear hdr hcc heq
        go_wp2
        go_roundw
        case rel => exact ⟨k - 1, q, v, true, xs, by omega, i64e (by omega), HD, hq, by omega, hx.out.store 0 _, ownsRow_setCell_below hown (by dsimp only; omega) _, hb.setCell (by dsimp only; omega) _⟩
        case measure => simp [intOf]; omega
      · rw [if_neg h45] at hdr
        have HD := Lib.hid hdr
        have hc48 : 48 ≤ (c : Int) := by omega
        have hc57 : (c : Int) ≤ 57 := by omega
        have hcne : ((c : Int) == 45) = false := by simp; omega
        have hcast : ((c - 48 : Nat) : Int) = (c : Int) - 48 := by omega
        have HC := Lib.hid hcast
        have hwr : IntKind.u8.wrap ((c : Int) - 48) = (c : Int) - 48 := by rw [IntKind.wrap_u8]; omega
        clear hdr hcc heq hcast h45 hcs
        go_wp2
        have hownd : wr.drew.ownsRow (w.heap.size + 2) 5 1 v q (B8 xs) := hown
        have hxd : Arr wr.drew (w.heap.size + 1) 28 [.bool nb, v] := hx.out
        have HXD := Lib.hid hxd
        have qa := (hx.out.alloc (.cells #[.int .u8 ((c : Int) - 48)] 5)).cell' (i := 1) rfl
        have hbd : Below (w.heap.size + 1) W wr.drew := hb.drew
        go_region_law (refine step_ap1 rfl (.tmp 19) (.tmp 24) 26 rfl (w.heap.size + 2) 5 _ _ Try.underlying26 Try.info5 rfl _ q (B8 xs) rfl (hownd.alloc _) ⟨wr.heap.size, 0, none⟩ _ (.int .u8 ((c : Int) - 48)) rfl (cell_new _ _ _) rfl (by unfold maxLen; omega) (by omega) (by simp; omega) ?_; intro v' w3 hown3 hgr3; obtain ⟨A3, c3, rfl, hl3, hc3, hm3, hr3, hf3⟩ := own_rd hown3; have X3 := (HXD.out.alloc (.cells #[.int .u8 ((c : Int) - 48)] 5)).grown hgr3 (fun e => by have := hlo (w.heap.size + 1) e.symm; omega); have x31 := X3.cell' (i := 1) rfl; have f31 := X3.frozen 1)
        all_goals
          go_wp2
          go_roundw
          case rel => exact ⟨k - 1, q + 1, .slice A3 (q + 1) c3, nb, xs ++ [c - 48], by omega, i64e (by omega), HD, by show _ = _; have := hq.out; simp; omega, by omega, X3.store 1 _, ownsRow_setCell_below (by rw [B8_append]; have h3 := hown3; rw [← HC.out] at h3; exact h3) (by dsimp only; omega) _, (((hb.alloc (by omega) _).drew).grown hgr3 (by show _ ≤ (wr.alloc _).heap.size; simp; omega) (fun k e => by have := hlo k e; omega)).setCell (by dsimp only; omega) _⟩
          case measure => simp [intOf]; omega
end Go.Proofs.Ytgnddobonboloaa
