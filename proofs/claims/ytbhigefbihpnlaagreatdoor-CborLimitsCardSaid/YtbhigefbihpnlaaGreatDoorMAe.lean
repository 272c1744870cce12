/- OfMagnitude of integer. -/
import Derived.Test.YtbhigefbihpnlaaGreatDoorMAd
import Derived.StillTailTactics
set_option linter.unusedVariables false
set_option linter.unusedSimpArgs false
set_option linter.defProp false
set_option linter.constructorNameAsVariable false
namespace Go.Proofs.YtbhigefbihpnlaaGreatDoor
open Go.RowKit
def lead (z : Nat) : List Nat → List Nat
  | [] => []
  | c :: l => if c = z then lead z l else c :: l
theorem lead_eq {z : Nat} {l : List Nat} : lead z (z :: l) = lead z l := by simp [lead]
theorem lead_ne {z c : Nat} {l : List Nat} (h : c ≠ z) : lead z (c :: l) = c :: l := by simp [lead, h]
theorem lead_le (z : Nat) (l : List Nat) : (lead z l).length ≤ l.length := by
  induction l with
  | nil => simp [lead]
  | cons c l ih => unfold lead; split <;> simp; omega
theorem By.lead {z : Nat} {l : List Nat} (h : By l) : By (lead z l) := by
  induction l with
  | nil => exact h
  | cons c l ih => unfold Go.Proofs.YtbhigefbihpnlaaGreatDoor.lead; split; · exact ih h.tail
                   · exact h
def horF (b : Nat) (f : Nat → Nat) (l : List Nat) (a : Nat) : Nat := l.foldl (fun a c => a * b + f c) a
def hor (b : Nat) (f : Nat → Nat) (l : List Nat) : Nat := horF b f l 0
theorem horF_append (b : Nat) (f : Nat → Nat) (l r : List Nat) (a : Nat) : horF b f (l ++ r) a = horF b f r (horF b f l a) := List.foldl_append
theorem hor_lead {b : Nat} {f : Nat → Nat} {z : Nat} (hz : f z = 0) (l : List Nat) : hor b f (lead z l) = hor b f l := by
  induction l with
  | nil => rfl
  | cons c l ih =>
    unfold lead
    split
    · next h => subst h; rw [ih]; unfold hor horF; simp [hz]
    · rfl
theorem hor_step {b : Nat} {f : Nat → Nat} {l : List Nat} {k c : Nat} (h : l[k]? = some c) : hor b f (l.take (k + 1)) = hor b f (l.take k) * b + f c := by
  have h' := List.getElem?_eq_some_iff.1 h
  rw [List.take_succ_eq_append_getElem h'.1, h'.2]
  unfold hor
  rw [horF_append]
  rfl
theorem horF_lt {b : Nat} {f : Nat → Nat} {l : List Nat} (h : ∀ c ∈ l, f c < b) (a : Nat) : horF b f l a < (a + 1) * b ^ l.length := by
  induction l generalizing a with
  | nil => simp [horF]
  | cons c l ih =>
    have h1 := ih (fun d hd => h d (List.mem_cons_of_mem _ hd)) (a * b + f c)
    refine Nat.lt_of_lt_of_le h1 ?_
    rw [List.length_cons, Nat.pow_succ, Nat.mul_comm (b ^ l.length), ← Nat.mul_assoc]
    refine Nat.mul_le_mul_right _ ?_
    have := h c List.mem_cons_self
    rw [Nat.add_mul]; omega
theorem hor_dg_len {b : Nat} {f : Nat → Nat} {l : List Nat} (h : ∀ c ∈ l, f c < b) (hb : b ≤ 1000) : (dg (hor b f l)).length ≤ 3 * l.length := by
  rw [dg_len_le]
  have h1 := horF_lt h 0
  refine Nat.lt_of_lt_of_le h1 ?_
  rw [Nat.pow_mul, Nat.zero_add, Nat.one_mul]
  exact Nat.pow_le_pow_left hb _
@[go_sem] theorem mks_isEmpty (l : List Nat) : (mks l).toList.isEmpty = l.isEmpty := by rw [toList_mks]; cases l <;> rfl
@[go_sem] theorem mks_eq_nil (l : List Nat) : ((mks l).toList = []) = (l = []) := by rw [toList_mks]; simp
theorem lead_split (z : Nat) (l : List Nat) : l = [] ∨ (∃ t, l = z :: t) ∨ (∃ c, l[0]? = some c ∧ c ≠ z ∧ lead z l = l) := by
  cases l with
  | nil => exact .inl rfl
  | cons c t =>
    by_cases h : c = z
    · subst h; exact .inr (.inl ⟨t, rfl⟩)
    · exact .inr (.inr ⟨c, rfl, h, lead_ne h⟩)
def sigN (neg : Bool) (m : Nat) : Bool × Nat := (neg && decide (0 < m), m)
set_option maxRecDepth 20000 in
set_option maxHeartbeats 4000000 in
theorem ofmag_any (l : List Nat) (neg : Bool) (w : World) (hl : By l) (hn : l.length ≤ 4294967296) : Calls Tryz.prog 109 #[.string (mks l), .bool neg] w fun e w' =>
    e = .returned (.tuple #[.string (mks (if (lead 0 l).length ≤ 400 then tS (sigN neg (hor 256 id (lead 0 l))) else [])), .int .i64 (if (lead 0 l).length ≤ 400 then tE (sigN neg (hor 256 id (lead 0 l))) else 6)]) ∧ Below w.heap.size w w' := by
  generalize hS : (if (lead 0 l).length ≤ 400 then tS (sigN neg (hor 256 id (lead 0 l))) else []) = sres
  generalize hE : (if (lead 0 l).length ≤ 400 then tE (sigN neg (hor 256 id (lead 0 l))) else 6) = eres
  have HS := Lib.hid hS
  have HE := Lib.hid hE
  clear hS hE
  go_enter Tryz.func109, Tryz.ntmps109
  go_wp2
  go_loopw [0] (fun sv wr => ∃ l1 : List Nat, sv = .string (mks l1) ∧ Hid (lead 0 l1 = lead 0 l) ∧ By l1 ∧ l1.length ≤ 4294967296 ∧ w = wr) (fun sv _ => match sv with | .string s => s.size | _ => 0)
  case atStart => exact ⟨l, rfl, rfl, hl, hn, rfl⟩
  case round =>
    obtain ⟨l1, rfl, he1, hl1, hn1, rfl⟩ := hrel
    rcases lead_split 0 l1 with rfl | ⟨t, rfl⟩ | ⟨c, hc, h0, hll⟩
    rotate_left
    · have hg0 := get_mks (l := 0 :: t) (i := 0) rfl (by omega) (by rw [size_mks]; simp)
      go_wp2
      go_roundw
      case rel => exact ⟨t, rfl, by show _ = _; rw [← he1.out, lead_eq], hl1.tail, by simp at hn1; omega, trivial⟩
      case measure => show (mks t).size < (mks (0 :: t)).size; rw [size_mks, size_mks]; simp
    · have hcb := hl1.get hc
      have hL0 : 0 < l1.length := (List.getElem?_eq_some_iff.1 hc).1
      have hg0 := get_mks hc hcb (by rw [size_mks]; exact hL0)
      have h0' : ((c : Int) == 0) = false := by simp; omega
      have hne : ¬ l1 = [] := by intro h; rw [h] at hL0; simp at hL0
      have hie : l1.isEmpty = false := by cases l1 <;> simp_all
      rw [← he1.out, hll] at HS HE
      clear h0 he1 hll hc
      by_cases hlong : 400 < (l1 : List Nat).length
      · first
        | (skip; done)
        | (have HS' := HS.out
           have HE' := HE.out
           rw [if_neg (by omega)] at HS' HE'
           have HSS := Lib.hid HS'
           have HEE := Lib.hid HE'
           clear HS' HE' HS HE
           go_wp2
           refine bodyPost_ret (v := .tuple #[.string (mks []), .int .i64 6]) (by simp [results, Tryz.results109, go_sem]; rfl) rfl ?_
           rw [← HSS.out, ← HEE.out]
           exact ⟨rfl, Below.refl _ _⟩)
      · have HS' := HS.out
        have HE' := HE.out
        rw [if_pos (by first | omega | simp)] at HS' HE'
        have HSS := Lib.hid HS'
        have HEE := Lib.hid HE'
        clear HS' HE' HS HE
        go_upto_region 6 with (fail)
        have HX := Lib.hid (Arr.new w 158 [.bool false, .slice none 0 0])
        have hBW : Below w.heap.size w (w.alloc (.cells #[.bool false, .slice none 0 0] 158)) := (Below.refl _ _).alloc (Nat.le_refl _) _
        have hsW : w.heap.size < (w.alloc (.cells #[.bool false, .slice none 0 0] 158)).heap.size := by simp
        generalize (w.alloc (.cells #[.bool false, .slice none 0 0] 158)) = W at *
        go_wp2
        go_loopw [23] (fun iv w2 => ∃ (k : Nat) (A : Option Addr) (n c : Nat), iv = .int .i64 k ∧ k ≤ (l1 : List Nat).length ∧ Hid (n = (dg (hor 256 id ((l1 : List Nat).take k))).length) ∧ n ≤ c ∧ n ≤ 3 * k ∧ Rd w2 A (B8 (dg (hor 256 id ((l1 : List Nat).take k)))) ∧
            (∀ ad, A = some ad → ad.block ≠ w.heap.size) ∧ Hid (Arr w2 w.heap.size 158 [.bool false, .slice A n c]) ∧ Below w.heap.size w w2 ∧ w.heap.size < w2.heap.size) (fun iv _ => (l1 : List Nat).length - (intOf iv).toNat)
        case atStart => exact ⟨0, none, 0, 0, rfl, Nat.zero_le _, by show _ = _; simp [hor, horF, dg_zero], Nat.le_refl _, Nat.le_refl _, by simp [hor, horF, dg_zero]; exact Rd.nil, (fun _ h => by cases h), HX, hBW, hsW⟩
        case round =>
          clear HX hBW hsW
          obtain ⟨k, A, n, c, rfl, hk, hn2, hnc, hn3, hr, hA, hx, hb, hsz⟩ := hrel
          have h3 := hb.size
          by_cases hlt : k < (l1 : List Nat).length
          · first
            | (exfalso; simp at hlt; done)
            | (obtain ⟨d, hd⟩ : ∃ d, (l1 : List Nat)[k]? = some d := ⟨_, List.getElem?_eq_getElem hlt⟩
               have hdb := hl1.get hd
               have hgk := get_mks hd hdb (by rw [size_mks]; exact hlt)
               have hst := hor_step (b := 256) (f := id) hd
               (try rw [id_eq] at hst)
               have HST := Lib.hid hst
               clear hst
               have x1 : wr.drew.cell? ⟨w.heap.size, 1, none⟩ = some (.slice A n c) := hx.out.cell' (i := 1) rfl
               have HXd : Hid (Arr wr.drew w.heap.size 158 [.bool false, .slice A n c]) := hx
               have hsm := small_any A n c (hor 256 id ((l1 : List Nat).take k)) 256 d wr.drew hn2 hr.drew hnc (by omega) (by omega) (by omega) (by omega) (by omega)
               rw [Int.toNat_natCast, show (256 : Int).toNat = 256 from rfl] at hsm
               have HSM := Lib.hid hsm
               clear hsm hd
               go_upto_region 9 with (fail)
               go_still_tail 6, (by kernel_rfl)
               change wpList _ _ _ _ _ wr.drew
               go_wp2_with (go_at_call 153; go_loud (refine HSM.out.mono ?_; rintro e w5 ⟨A5, n5, c5, rfl, hn5, hc5, hr5, hf5, hb5⟩; have x1' := (HXd.out.keep hb5).cell' (i := 1) rfl; have xf1' := (HXd.out.keep hb5).frozen 1))
               have h5 := hb5.size
               have hz5 : wr.heap.size ≤ w5.heap.size := h5
               have hf5' : From wr.heap.size A5 := hf5
               have hX6 := (HXd.out.keep hb5).store 1 (.slice A5 n5 c5)
               have hr6 := hr5.setCell (p := ⟨w.heap.size, 1, none⟩) (.slice A5 n5 c5) (fun ad e => by have := hf5' ad e; dsimp only; omega)
               have hb6 := (hb.drew.trans (hb5.mono h3)).setCell (p := ⟨w.heap.size, 1, none⟩) (Nat.le_refl _) (.slice A5 n5 c5)
               rw [length_B8, ← HST.out] at hn5
               rw [← HST.out] at hr6
               have hdl := hor_dg_len (b := 256) (f := id) (l := (l1 : List Nat).take (k + 1)) (fun c hc => hl1.take (k + 1) c hc) (by omega)
               have hn5' := hn5.out
               rw [List.length_take] at hdl
               go_roundw
               case rel => exact ⟨k + 1, A5, n5, c5, by go_num, hlt, hn5, hc5, by omega, hr6, fun ad e => by have := hf5' ad e; omega, hX6, hb6, by rw [World.size_setCell]; omega⟩
               case measure => simp [intOf]; omega)
          · obtain rfl : k = (l1 : List Nat).length := by omega
            have x0 := hx.out.cell' (i := 0) rfl
            have x1 := hx.out.cell' (i := 1) rfl
            have xf0 := hx.out.frozen 0
            rw [List.take_length] at hn2 hr
            have hnL : (l1 : List Nat).length ≤ 400 := by first | omega | simp
            generalize hor 256 id (l1 : List Nat) = m at *
            by_cases hn0 : n = 0
            all_goals
              have hsg : sigN neg m = (if n = 0 then false else neg, m) := by
                unfold sigN
                by_cases h : m = 0
                · have : n = 0 := by have := hn2.out; rw [h, dg_zero] at this; exact this
                  simp [h, this]
                · have := dg_pos_len hn2 h
                  rw [if_neg (by omega), decide_eq_true (by omega), Bool.and_true]
              first | rw [if_pos hn0] at hsg | rw [if_neg hn0] at hsg
              rw [hsg] at HSS HEE
              clear hsg
              first | subst hn0 | (have hnp : 0 < n := by omega)
              cases neg
              all_goals
                go_wp2_with (go_at_call 154; go_loud (refine (text2_any _ A _ _ _ _ hn2 (hr.setCell (p := ⟨w.heap.size, 0, none⟩) _ hA) (by omega)).mono ?_; rintro e w6 ⟨rfl, hb6⟩))
                refine bodyPost_ret (v := .tuple #[.string (mks _), .int .i64 _]) (by simp [results, Tryz.results109, go_sem]; exact ⟨rfl, rfl⟩) rfl ?_
                rw [← HSS.out, ← HEE.out]
                exact ⟨rfl, (hb.setCell (p := ⟨w.heap.size, 0, none⟩) (Nat.le_refl _) _).trans (hb6.mono (by rw [World.size_setCell]; omega))⟩
    · skip
      skip
      skip
      skip
      skip
      skip
      rw [← he1.out, show lead 0 [] = [] from rfl] at HS HE
      clear he1
      by_cases hlong : 400 < ([] : List Nat).length
      · first
        | (exfalso; simp at hlong; done)
        | (have HS' := HS.out
           have HE' := HE.out
           rw [if_neg (by omega)] at HS' HE'
           have HSS := Lib.hid HS'
           have HEE := Lib.hid HE'
           clear HS' HE' HS HE
           go_wp2
           refine bodyPost_ret (v := .tuple #[.string (mks []), .int .i64 6]) (by simp [results, Tryz.results109, go_sem]; rfl) rfl ?_
           rw [← HSS.out, ← HEE.out]
           exact ⟨rfl, Below.refl _ _⟩)
      · have HS' := HS.out
        have HE' := HE.out
        rw [if_pos (by first | omega | simp)] at HS' HE'
        have HSS := Lib.hid HS'
        have HEE := Lib.hid HE'
        clear HS' HE' HS HE
        go_upto_region 6 with (fail)
        have HX := Lib.hid (Arr.new w 158 [.bool false, .slice none 0 0])
        have hBW : Below w.heap.size w (w.alloc (.cells #[.bool false, .slice none 0 0] 158)) := (Below.refl _ _).alloc (Nat.le_refl _) _
        have hsW : w.heap.size < (w.alloc (.cells #[.bool false, .slice none 0 0] 158)).heap.size := by simp
        generalize (w.alloc (.cells #[.bool false, .slice none 0 0] 158)) = W at *
        go_wp2
        go_loopw [23] (fun iv w2 => ∃ (k : Nat) (A : Option Addr) (n c : Nat), iv = .int .i64 k ∧ k ≤ ([] : List Nat).length ∧ Hid (n = (dg (hor 256 id (([] : List Nat).take k))).length) ∧ n ≤ c ∧ n ≤ 3 * k ∧ Rd w2 A (B8 (dg (hor 256 id (([] : List Nat).take k)))) ∧
            (∀ ad, A = some ad → ad.block ≠ w.heap.size) ∧ Hid (Arr w2 w.heap.size 158 [.bool false, .slice A n c]) ∧ Below w.heap.size w w2 ∧ w.heap.size < w2.heap.size) (fun iv _ => ([] : List Nat).length - (intOf iv).toNat)
        case atStart => exact ⟨0, none, 0, 0, rfl, Nat.zero_le _, by show _ = _; simp [hor, horF, dg_zero], Nat.le_refl _, Nat.le_refl _, by simp [hor, horF, dg_zero]; exact Rd.nil, (fun _ h => by cases h), HX, hBW, hsW⟩
        case round =>
          clear HX hBW hsW
          obtain ⟨k, A, n, c, rfl, hk, hn2, hnc, hn3, hr, hA, hx, hb, hsz⟩ := hrel
          have h3 := hb.size
          by_cases hlt : k < ([] : List Nat).length
          · first
            | (exfalso; simp at hlt; done)
            | (obtain ⟨d, hd⟩ : ∃ d, ([] : List Nat)[k]? = some d := ⟨_, List.getElem?_eq_getElem hlt⟩
               have hdb := hl1.get hd
               have hgk := get_mks hd hdb (by rw [size_mks]; exact hlt)
               have hst := hor_step (b := 256) (f := id) hd
               (try rw [id_eq] at hst)
               have HST := Lib.hid hst
               clear hst
               have x1 : wr.drew.cell? ⟨w.heap.size, 1, none⟩ = some (.slice A n c) := hx.out.cell' (i := 1) rfl
               have HXd : Hid (Arr wr.drew w.heap.size 158 [.bool false, .slice A n c]) := hx
               have hsm := small_any A n c (hor 256 id (([] : List Nat).take k)) 256 d wr.drew hn2 hr.drew hnc (by omega) (by omega) (by omega) (by omega) (by omega)
               rw [Int.toNat_natCast, show (256 : Int).toNat = 256 from rfl] at hsm
               have HSM := Lib.hid hsm
               clear hsm hd
               go_upto_region 9 with (fail)
               go_still_tail 6, (by kernel_rfl)
               change wpList _ _ _ _ _ wr.drew
               go_wp2_with (go_at_call 153; go_loud (refine HSM.out.mono ?_; rintro e w5 ⟨A5, n5, c5, rfl, hn5, hc5, hr5, hf5, hb5⟩; have x1' := (HXd.out.keep hb5).cell' (i := 1) rfl; have xf1' := (HXd.out.keep hb5).frozen 1))
               have h5 := hb5.size
               have hz5 : wr.heap.size ≤ w5.heap.size := h5
               have hf5' : From wr.heap.size A5 := hf5
               have hX6 := (HXd.out.keep hb5).store 1 (.slice A5 n5 c5)
               have hr6 := hr5.setCell (p := ⟨w.heap.size, 1, none⟩) (.slice A5 n5 c5) (fun ad e => by have := hf5' ad e; dsimp only; omega)
               have hb6 := (hb.drew.trans (hb5.mono h3)).setCell (p := ⟨w.heap.size, 1, none⟩) (Nat.le_refl _) (.slice A5 n5 c5)
               rw [length_B8, ← HST.out] at hn5
               rw [← HST.out] at hr6
               have hdl := hor_dg_len (b := 256) (f := id) (l := ([] : List Nat).take (k + 1)) (fun c hc => hl1.take (k + 1) c hc) (by omega)
               have hn5' := hn5.out
               rw [List.length_take] at hdl
               go_roundw
               case rel => exact ⟨k + 1, A5, n5, c5, by go_num, hlt, hn5, hc5, by omega, hr6, fun ad e => by have := hf5' ad e; omega, hX6, hb6, by rw [World.size_setCell]; omega⟩
               case measure => simp [intOf]; omega)
          · obtain rfl : k = ([] : List Nat).length := by omega
            have x0 := hx.out.cell' (i := 0) rfl
            have x1 := hx.out.cell' (i := 1) rfl
            have xf0 := hx.out.frozen 0
            rw [List.take_length] at hn2 hr
            have hnL : ([] : List Nat).length ≤ 400 := by first | omega | simp
            generalize hor 256 id ([] : List Nat) = m at *
            by_cases hn0 : n = 0
            all_goals
              have hsg : sigN neg m = (if n = 0 then false else neg, m) := by
                unfold sigN
                by_cases h : m = 0
                · have : n = 0 := by have := hn2.out; rw [h, dg_zero] at this; exact this
                  simp [h, this]
                · have := dg_pos_len hn2 h
                  rw [if_neg (by omega), decide_eq_true (by omega), Bool.and_true]
              first | rw [if_pos hn0] at hsg | rw [if_neg hn0] at hsg
              rw [hsg] at HSS HEE
              clear hsg
              first | subst hn0 | (have hnp : 0 < n := by omega)
              cases neg
              all_goals
                go_wp2_with (go_at_call 154; go_loud (refine (text2_any _ A _ _ _ _ hn2 (hr.setCell (p := ⟨w.heap.size, 0, none⟩) _ hA) (by omega)).mono ?_; rintro e w6 ⟨rfl, hb6⟩))
                refine bodyPost_ret (v := .tuple #[.string (mks _), .int .i64 _]) (by simp [results, Tryz.results109, go_sem]; exact ⟨rfl, rfl⟩) rfl ?_
                rw [← HSS.out, ← HEE.out]
                exact ⟨rfl, (hb.setCell (p := ⟨w.heap.size, 0, none⟩) (Nat.le_refl _) _).trans (hb6.mono (by rw [World.size_setCell]; omega))⟩
end Go.Proofs.YtbhigefbihpnlaaGreatDoor
