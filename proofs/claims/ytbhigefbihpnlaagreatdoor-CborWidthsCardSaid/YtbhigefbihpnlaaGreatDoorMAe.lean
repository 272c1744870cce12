/- OfMagnitude of integer. -/
import Derived.Test.YtbhigefbihpnlaaGreatDoorMAd
import Derived.StillTailTactics
import Derived.Test.YtbhigefbihpnlaaGreatDoorMAb
set_option linter.unusedVariables false
set_option linter.unusedSimpArgs false
set_option linter.defProp false
set_option linter.constructorNameAsVariable false
namespace Go.Proofs.YtbhigefbihpnlaaGreatDoor
open Go.RowKit
def lead (z : Nat) : List Nat → List Nat
  | [] => []
  | c :: l => if c = z then lead z l else c :: l
theorem lead_eq {z : Nat} {l : List Nat} : lead z (z :: l) = lead z l := by simp [lead]
theorem lead_ne {z c : Nat} {l : List Nat} (h : c ≠ z) : lead z (c :: l) = c :: l := by simp [lead, h]
theorem lead_le (z : Nat) (l : List Nat) : (lead z l).length ≤ l.length := by
  induction l with
  | nil => simp [lead]
  | cons c l ih => unfold lead; split <;> simp; omega
theorem By.lead {z : Nat} {l : List Nat} (h : By l) : By (lead z l) := by
  induction l with
  | nil => exact h
  | cons c l ih => unfold Go.Proofs.YtbhigefbihpnlaaGreatDoor.lead; split; · exact ih h.tail
                   · exact h
def horF (b : Nat) (f : Nat → Nat) (l : List Nat) (a : Nat) : Nat := l.foldl (fun a c => a * b + f c) a
def hor (b : Nat) (f : Nat → Nat) (l : List Nat) : Nat := horF b f l 0
theorem horF_append (b : Nat) (f : Nat → Nat) (l r : List Nat) (a : Nat) : horF b f (l ++ r) a = horF b f r (horF b f l a) := List.foldl_append
theorem hor_lead {b : Nat} {f : Nat → Nat} {z : Nat} (hz : f z = 0) (l : List Nat) : hor b f (lead z l) = hor b f l := by
  induction l with
  | nil => rfl
  | cons c l ih =>
    unfold lead
    split
    · next h => subst h; rw [ih]; unfold hor horF; simp [hz]
    · rfl
theorem hor_step {b : Nat} {f : Nat → Nat} {l : List Nat} {k c : Nat} (h : l[k]? = some c) : hor b f (l.take (k + 1)) = hor b f (l.take k) * b + f c := by
  have h' := List.getElem?_eq_some_iff.1 h
  rw [List.take_succ_eq_append_getElem h'.1, h'.2]
  unfold hor
  rw [horF_append]
  rfl
theorem horF_lt {b : Nat} {f : Nat → Nat} {l : List Nat} (h : ∀ c ∈ l, f c < b) (a : Nat) : horF b f l a < (a + 1) * b ^ l.length := by
  induction l generalizing a with
  | nil => simp [horF]
  | cons c l ih =>
    have h1 := ih (fun d hd => h d (List.mem_cons_of_mem _ hd)) (a * b + f c)
    refine Nat.lt_of_lt_of_le h1 ?_
    rw [List.length_cons, Nat.pow_succ, Nat.mul_comm (b ^ l.length), ← Nat.mul_assoc]
    refine Nat.mul_le_mul_right _ ?_
    have := h c List.mem_cons_self
    rw [Nat.add_mul]; omega
theorem hor_dg_len {b : Nat} {f : Nat → Nat} {l : List Nat} (h : ∀ c ∈ l, f c < b) (hb : b ≤ 1000) : (dg (hor b f l)).length ≤ 3 * l.length := by
  rw [dg_len_le]
  have h1 := horF_lt h 0
  refine Nat.lt_of_lt_of_le h1 ?_
  rw [Nat.pow_mul, Nat.zero_add, Nat.one_mul]
  exact Nat.pow_le_pow_left hb _
@[go_sem] theorem mks_isEmpty (l : List Nat) : (mks l).toList.isEmpty = l.isEmpty := by rw [toList_mks]; cases l <;> rfl
@[go_sem] theorem mks_eq_nil (l : List Nat) : ((mks l).toList = []) = (l = []) := by rw [toList_mks]; simp
theorem lead_split (z : Nat) (l : List Nat) : l = [] ∨ (∃ t, l = z :: t) ∨ (∃ c, l[0]? = some c ∧ c ≠ z ∧ lead z l = l) := by
  cases l with
  | nil => exact .inl rfl
  | cons c t =>
    by_cases h : c = z
    · subst h; exact .inr (.inl ⟨t, rfl⟩)
    · exact .inr (.inr ⟨c, rfl, h, lead_ne h⟩)
def sigN (neg : Bool) (m : Nat) : Bool × Nat := (neg && decide (0 < m), m)
set_option maxRecDepth 20000 in
set_option maxHeartbeats 4000000 in
theorem ofmag_any (l : List Nat) (neg : Bool) (w : World) (hl : By l) (hn : l.length ≤ 4294967296) : Calls Tryz.prog 109 #[.string (mks l), .bool neg] w fun e w' =>
    e = .returned (.tuple #[.string (mks (if (lead 0 l).length ≤ 400 then tS (sigN neg (hor 256 id (lead 0 l))) else [])), .int .i64 (if (lead 0 l).length ≤ 400 then tE (sigN neg (hor 256 id (lead 0 l))) else 6)]) ∧ Below w.heap.size w w' := by
  generalize hS : (if (lead 0 l).length ≤ 400 then tS (sigN neg (hor 256 id (lead 0 l))) else []) = sres
  generalize hE : (if (lead 0 l).length ≤ 400 then tE (sigN neg (hor 256 id (lead 0 l))) else 6) = eres
  have HS := Lib.hid hS
  have HE := Lib.hid hE
  clear hS hE
  go_enter Tryz.func109, Tryz.ntmps109
  go_wp2
  go_loopw [0] (fun sv wr => ∃ l1 : List Nat, sv = .string (mks l1) ∧ Hid (lead 0 l1 = lead 0 l) ∧ By l1 ∧ l1.length ≤ 4294967296 ∧ w = wr) (fun sv _ => match sv with | .string s => s.size | _ => 0)
  case atStart => exact ⟨l, rfl, rfl, hl, hn, rfl⟩
  case round =>
    obtain ⟨l1, rfl, he1, hl1, hn1, rfl⟩ := hrel
    rcases lead_split 0 l1 with rfl | ⟨t, rfl⟩ | ⟨c, hc, h0, hll⟩
    rotate_left
    · have hg0 := get_mks (l := 0 :: t) (i := 0) rfl (by omega) (by rw [size_mks]; simp)
      go_wp2
      go_roundw
      case rel => exact ⟨t, rfl, by show _ = _; rw [← he1.out, lead_eq], hl1.tail, by simp at hn1; omega, trivial⟩
      case measure => show (mks t).size < (mks (0 :: t)).size; rw [size_mks, size_mks]; simp
    · have hcb := hl1.get hc
      have hL0 : 0 < l1.length := (List.getElem?_eq_some_iff.1 hc).1
      have hg0 := get_mks hc hcb (by rw [size_mks]; exact hL0)
      have h0' : ((c : Int) == 0) = false := by simp; omega
      have hne : ¬ l1 = [] := by intro h; rw [h] at hL0; simp at hL0
      have hie : l1.isEmpty = false := by cases l1 <;> simp_all
      rw [← he1.out, hll] at HS HE
      clear h0 he1 hll hc
      by_cases hlong : 400 < (l1 : List Nat).length
      · first
        | (skip; done)
        | (have HS' := HS.out
           have HE' := HE.out
           rw [if_neg (by omega)] at HS' HE'
           have HSS := Lib.hid HS'
           have HEE := Lib.hid HE'
           clear HS' HE' HS HE
           go_wp2
           refine bodyPost_ret (v := .tuple #[.string (mks []), .int .i64 6]) (by simp [results, Tryz.results109, go_sem]; rfl) rfl ?_
           rw [← HSS.out, ← HEE.out]
           exact ⟨rfl, Below.refl _ _⟩)
      · have HS' := HS.out
        have HE' := HE.out
        rw [if_pos (by first | omega | simp)] at HS' HE'
        have HSS := Lib.hid HS'
        have HEE := Lib.hid HE'
        clear HS' HE' HS HE
        go_upto_region 6 with (fail)
        have HX := Lib.hid (Arr.new w 158 [.bool false, .slice none 0 0])
        have hBW : Below w.heap.size w (w.alloc (.cells #[.bool false, .slice none 0 0] 158)) := (Below.refl _ _).alloc (Nat.le_refl _) _
        have hsW : w.heap.size < (w.alloc (.cells #[.bool false, .slice none 0 0] 158)).heap.size := by simp
        generalize (w.alloc (.cells #[.bool false, .slice none 0 0] 158)) = W at *
        go_wp2
        go_loopw [23] (fun iv w2 => ∃ (k : Nat) (A : Option Addr) (n c : Nat), iv = .int .i64 k ∧ k ≤ (l1 : List Nat).length ∧ Hid (n = (dg (hor 256 id ((l1 : List Nat).take k))).length) ∧ n ≤ c ∧ n ≤ 3 * k ∧ Rd w2 A (B8 (dg (hor 256 id ((l1 : List Nat).take k)))) ∧
            (∀ ad, A = some ad → ad.block ≠ w.heap.size) ∧ Hid (Arr w2 w.heap.size 158 [.bool false, .slice A n c]) ∧ Below w.heap.size w w2 ∧ w.heap.size < w2.heap.size) (fun iv _ => (l1 : List Nat).length - (intOf iv).toNat)
        case atStart => exact ⟨0, none, 0, 0, rfl, Nat.zero_le _, by show _ = _; simp [hor, horF, dg_zero], Nat.le_refl _, Nat.le_refl _, by simp [hor, horF, dg_zero]; exact Rd.nil, (fun _ h => by cases h), HX, hBW, hsW⟩
        case round =>
          clear HX hBW hsW
          obtain ⟨k, A, n, c, rfl, hk, hn2, hnc, hn3, hr, hA, hx, hb, hsz⟩ := hrel
          have h3 := hb.size
          by_cases hlt : k < (l1 : List Nat).length
          · first
            | (exfalso; simp at hlt; done)
            | (obtain ⟨d, hd⟩ : ∃ d, (l1 : List Nat)[k]? = some d := ⟨_, List.getElem?_eq_getElem hlt⟩
               have hdb := hl1.get hd
               have hgk := get_mks hd hdb (by rw [size_mks]; exact hlt)
               have hst := hor_step (b := 256) (f := id) hd
               (try rw [id_eq] at hst)
               have HST := Lib.hid hst
               clear hst
               have x1 : wr.drew.cell? ⟨w.heap.size, 1, none⟩ = some (.slice A n c) := hx.out.cell' (i := 1) rfl
               have HXd : Hid (Arr wr.drew w.heap.size 158 [.bool false, .slice A n c]) := hx
               have hsm := small_any A n c (hor 256 id ((l1 : List Nat).take k)) 256 d wr.drew hn2 hr.drew hnc (by omega) (by omega) (by omega) (by omega) (by omega)
               rw [Int.toNat_natCast, show (256 : Int).toNat = 256 from rfl] at hsm
               have HSM := Lib.hid hsm
               clear hsm hd
               go_upto_region 9 with (fail)
               go_still_tail 6, (by kernel_rfl)
               change wpList _ _ _ _ _ wr.drew
               go_wp2_with (go_at_call 153; go_loud (refine HSM.out.mono ?_; rintro e w5 ⟨A5, n5, c5, rfl, hn5, hc5, hr5, hf5, hb5⟩; have x1' := (HXd.out.keep hb5).cell' (i := 1) rfl; have xf1' := (HXd.out.keep hb5).frozen 1))
               have h5 := hb5.size
               have hz5 : wr.heap.size ≤ w5.heap.size := h5
               have hf5' : From wr.heap.size A5 := hf5
               have hX6 := (HXd.out.keep hb5).store 1 (.slice A5 n5 c5)
               have hr6 := hr5.setCell (p := ⟨w.heap.size, 1, none⟩) (.slice A5 n5 c5) (fun ad e => by have := hf5' ad e; dsimp only; omega)
               have hb6 := (hb.drew.trans (hb5.mono h3)).setCell (p := ⟨w.heap.size, 1, none⟩) (Nat.le_refl _) (.slice A5 n5 c5)
               rw [length_B8, ← HST.out] at hn5
               rw [← HST.out] at hr6
               have hdl := hor_dg_len (b := 256) (f := id) (l := (l1 : List Nat).take (k + 1)) (fun c hc => hl1.take (k + 1) c hc) (by omega)
               have hn5' := hn5.out
               rw [List.length_take] at hdl
               go_roundw
               case rel => exact ⟨k + 1, A5, n5, c5, by go_num, hlt, hn5, hc5, by omega, hr6, fun ad e => by have := hf5' ad e; omega, hX6, hb6, by rw [World.size_setCell]; omega⟩
               case measure => simp [intOf]; omega)
          · obtain rfl : k = (l1 : List Nat).length := by omega
            have x0 := hx.out.cell' (i := 0) rfl
            have x1 := hx.out.cell' (i := 1) rfl
            have xf0 := hx.out.frozen 0
            rw [List.take_length] at hn2 hr
            have hnL : (l1 : List Nat).length ≤ 400 := by first | omega | simp
            generalize hor 256 id (l1 : List Nat) = m at *
            by_cases hn0 : n = 0
            all_goals
              have hsg : sigN neg m = (if n = 0 then false else neg, m) := by
                unfold sigN
                by_cases h : m = 0
                · have : n = 0 := by have := hn2.out; rw [h, dg_zero] at this; exact this
                  simp [h, this]
                · have := dg_pos_len hn2 h
                  rw [if_neg (by omega), decide_eq_true (by omega), Bool.and_true]
              first | rw [if_pos hn0] at hsg | rw [if_neg hn0] at hsg
              rw [hsg] at HSS HEE
              clear hsg
              first | subst hn0 | (have hnp : 0 < n := by omega)
              cases neg
              all_goals
                go_wp2_with (go_at_call 154; go_loud (refine (text2_any _ A _ _ _ _ hn2 (hr.setCell (p := ⟨w.heap.size, 0, none⟩) _ hA) (by omega)).mono ?_; rintro e w6 ⟨rfl, hb6⟩))
                refine bodyPost_ret (v := .tuple #[.string (mks _), .int .i64 _]) (by simp [results, Tryz.results109, go_sem]; exact ⟨rfl, rfl⟩) rfl ?_
                rw [← HSS.out, ← HEE.out]
                exact ⟨rfl, (hb.setCell (p := ⟨w.heap.size, 0, none⟩) (Nat.le_refl _) _).trans (hb6.mono (by rw [World.size_setCell]; omega))⟩
    · skip
      skip
      skip
      skip
      skip
      skip
      rw [← he1.out, show lead 0 [] = [] from rfl] at HS HE
      clear he1
      by_cases hlong : 400 < ([] : List Nat).length
      · first
        | (exfalso; simp at hlong; done)
        | (have HS' := HS.out
           have HE' := HE.out
           rw [if_neg (by omega)] at HS' HE'
           have HSS := Lib.hid HS'
           have HEE := Lib.hid HE'
           clear HS' HE' HS HE
           go_wp2
           refine bodyPost_ret (v := .tuple #[.string (mks []), .int .i64 6]) (by simp [results, Tryz.results109, go_sem]; rfl) rfl ?_
           rw [← HSS.out, ← HEE.out]
           exact ⟨rfl, Below.refl _ _⟩)
      · have HS' := HS.out
        have HE' := HE.out
        rw [if_pos (by first | omega | simp)] at HS' HE'
        have HSS := Lib.hid HS'
        have HEE := Lib.hid HE'
        clear HS' HE' HS HE
        go_upto_region 6 with (fail)
        have HX := Lib.hid (Arr.new w 158 [.bool false, .slice none 0 0])
        have hBW : Below w.heap.size w (w.alloc (.cells #[.bool false, .slice none 0 0] 158)) := (Below.refl _ _).alloc (Nat.le_refl _) _
        have hsW : w.heap.size < (w.alloc (.cells #[.bool false, .slice none 0 0] 158)).heap.size := by simp
        generalize (w.alloc (.cells #[.bool false, .slice none 0 0] 158)) = W at *
        go_wp2
        go_loopw [23] (fun iv w2 => ∃ (k : Nat) (A : Option Addr) (n c : Nat), iv = .int .i64 k ∧ k ≤ ([] : List Nat).length ∧ Hid (n = (dg (hor 256 id (([] : List Nat).take k))).length) ∧ n ≤ c ∧ n ≤ 3 * k ∧ Rd w2 A (B8 (dg (hor 256 id (([] : List Nat).take k)))) ∧
            (∀ ad, A = some ad → ad.block ≠ w.heap.size) ∧ Hid (Arr w2 w.heap.size 158 [.bool false, .slice A n c]) ∧ Below w.heap.size w w2 ∧ w.heap.size < w2.heap.size) (fun iv _ => ([] : List Nat).length - (intOf iv).toNat)
        case atStart => exact ⟨0, none, 0, 0, rfl, Nat.zero_le _, by show _ = _; simp [hor, horF, dg_zero], Nat.le_refl _, Nat.le_refl _, by simp [hor, horF, dg_zero]; exact Rd.nil, (fun _ h => by cases h), HX, hBW, hsW⟩
        case round =>
          clear HX hBW hsW
          obtain ⟨k, A, n, c, rfl, hk, hn2, hnc, hn3, hr, hA, hx, hb, hsz⟩ := hrel
          have h3 := hb.size
          by_cases hlt : k < ([] : List Nat).length
          · first
            | (exfalso; simp at hlt; done)
            | (obtain ⟨d, hd⟩ : ∃ d, ([] : List Nat)[k]? = some d := ⟨_, List.getElem?_eq_getElem hlt⟩
               have hdb := hl1.get hd
               have hgk := get_mks hd hdb (by rw [size_mks]; exact hlt)
               have hst := hor_step (b := 256) (f := id) hd
               (try rw [id_eq] at hst)
               have HST := Lib.hid hst
               clear hst
               have x1 : wr.drew.cell? ⟨w.heap.size, 1, none⟩ = some (.slice A n c) := hx.out.cell' (i := 1) rfl
               have HXd : Hid (Arr wr.drew w.heap.size 158 [.bool false, .slice A n c]) := hx
               have hsm := small_any A n c (hor 256 id (([] : List Nat).take k)) 256 d wr.drew hn2 hr.drew hnc (by omega) (by omega) (by omega) (by omega) (by omega)
               rw [Int.toNat_natCast, show (256 : Int).toNat = 256 from rfl] at hsm
               have HSM := Lib.hid hsm
               clear hsm hd
               go_upto_region 9 with (fail)
               go_still_tail 6, (by kernel_rfl)
               change wpList _ _ _ _ _ wr.drew
               go_wp2_with (go_at_call 153; go_loud (refine HSM.out.mono ?_; rintro e w5 ⟨A5, n5, c5, rfl, hn5, hc5, hr5, hf5, hb5⟩; have x1' := (HXd.out.keep hb5).cell' (i := 1) rfl; have xf1' := (HXd.out.keep hb5).frozen 1))
               have h5 := hb5.size
               have hz5 : wr.heap.size ≤ w5.heap.size := h5
               have hf5' : From wr.heap.size A5 := hf5
               have hX6 := (HXd.out.keep hb5).store 1 (.slice A5 n5 c5)
               have hr6 := hr5.setCell (p := ⟨w.heap.size, 1, none⟩) (.slice A5 n5 c5) (fun ad e => by have := hf5' ad e; dsimp only; omega)
               have hb6 := (hb.drew.trans (hb5.mono h3)).setCell (p := ⟨w.heap.size, 1, none⟩) (Nat.le_refl _) (.slice A5 n5 c5)
               rw [length_B8, ← HST.out] at hn5
               rw [← HST.out] at hr6
               have hdl := hor_dg_len (b := 256) (f := id) (l := ([] : List Nat).take (k + 1)) (fun c hc => hl1.take (k + 1) c hc) (by omega)
               have hn5' := hn5.out
               rw [List.length_take] at hdl
               go_roundw
               case rel => exact ⟨k + 1, A5, n5, c5, by go_num, hlt, hn5, hc5, by omega, hr6, fun ad e => by have := hf5' ad e; omega, hX6, hb6, by rw [World.size_setCell]; omega⟩
               case measure => simp [intOf]; omega)
          · obtain rfl : k = ([] : List Nat).length := by omega
            have x0 := hx.out.cell' (i := 0) rfl
            have x1 := hx.out.cell' (i := 1) rfl
            have xf0 := hx.out.frozen 0
            rw [List.take_length] at hn2 hr
            have hnL : ([] : List Nat).length ≤ 400 := by first | omega | simp
            generalize hor 256 id ([] : List Nat) = m at *
            by_cases hn0 : n = 0
            all_goals
              have hsg : sigN neg m = (if n = 0 then false else neg, m) := by
                unfold sigN
                by_cases h : m = 0
                · have : n = 0 := by have := hn2.out; rw [h, dg_zero] at this; exact this
                  simp [h, this]
                · have := dg_pos_len hn2 h
                  rw [if_neg (by omega), decide_eq_true (by omega), Bool.and_true]
              first | rw [if_pos hn0] at hsg | rw [if_neg hn0] at hsg
              rw [hsg] at HSS HEE
              clear hsg
              first | subst hn0 | (have hnp : 0 < n := by omega)
              cases neg
              all_goals
                go_wp2_with (go_at_call 154; go_loud (refine (text2_any _ A _ _ _ _ hn2 (hr.setCell (p := ⟨w.heap.size, 0, none⟩) _ hA) (by omega)).mono ?_; rintro e w6 ⟨rfl, hb6⟩))
                refine bodyPost_ret (v := .tuple #[.string (mks _), .int .i64 _]) (by simp [results, Tryz.results109, go_sem]; exact ⟨rfl, rfl⟩) rfl ?_
                rw [← HSS.out, ← HEE.out]
                exact ⟨rfl, (hb.setCell (p := ⟨w.heap.size, 0, none⟩) (Nat.le_refl _) _).trans (hb6.mono (by rw [World.size_setCell]; omega))⟩
end Go.Proofs.YtbhigefbihpnlaaGreatDoor
namespace Go.Proofs.YtbhigefbihpnlaaGreatDoor
open Go.RowKit
theorem Tryz.sz162 : (Tryz.prog.info? 162).map (·.size) = some 3 := by kernel_rfl
def normV (neg : Bool) (d : List Nat) (ex : Int) : Bool × List Nat × Int :=
  if tlen (lead 0 d) = 0 then (false, [], 0) else (neg, (lead 0 d).take (tlen (lead 0 d)), ex + (((lead 0 d).length - tlen (lead 0 d) : Nat) : Int))
def NumR (w : World) (x : Bool × List Nat × Int) (e : Ending) (w' : World) : Prop :=
  ∃ A n c, e = .returned (.agg #[.bool x.1, .slice A n c, .int .i64 x.2.2]) ∧ Hid (n = x.2.1.length) ∧ n ≤ c ∧ Rd w' A (B8 x.2.1) ∧ From w.heap.size A ∧ Below w.heap.size w w'
set_option maxHeartbeats 2000000 in
theorem norm_any (neg : Bool) (ad : Addr) (n c : Nat) (d : List Nat) (ex : Int) (w : World) (hn : Hid (n = d.length)) (hr : Rd w (some ad) (B8 d)) (hc : n ≤ c) (hm : n ≤ 4294967296) (hcm : c ≤ maxLen)
    (h1 : -4398046511104 ≤ ex) (h2 : ex ≤ 4398046511104) :
    Calls Tryz.prog 115 #[.bool neg, .slice (some ad) n c, .int .i64 ex] w (NumR w (normV neg d ex)) := by
  generalize hv : normV neg d ex = v
  have HV := Lib.hid hv
  clear hv
  unfold maxLen at hcm
  go_enter Tryz.func115, Tryz.ntmps115
  go_wp2
  go_loopw [1] (fun sv wr => ∃ (k : Nat) (B : Addr), k ≤ n ∧ sv = .slice (some B) (n - k) (c - k) ∧ Hid (k < n → B = ad.add k) ∧ Hid (lead 0 (d.drop k) = lead 0 d) ∧ w.alloc (.cells #[.bool false, .slice none 0 0, .int .i64 0] 162) = wr) (fun sv _ => match sv with | .slice _ k _ => k | _ => 0)
  case atStart => exact ⟨0, ad, Nat.zero_le _, rfl, fun _ => by simp [Addr.add], rfl, rfl⟩
  case round =>
    obtain ⟨k, B, hk, rfl, hB, hlead, rfl⟩ := hrel
    have hcase : (k < n ∧ B = ad.add k ∧ d[k]? = some 0) ∨ (k < n ∧ B = ad.add k ∧ ∃ x, d[k]? = some x ∧ x ≠ 0) ∨ k = n := by
      by_cases hlt : k < n
      · obtain ⟨x, hx⟩ : ∃ x, d[k]? = some x := ⟨_, List.getElem?_eq_getElem (by have := hn.out; omega)⟩
        by_cases hx0 : x = 0
        · subst hx0; exact .inl ⟨hlt, hB.out hlt, hx⟩
        · exact .inr (.inl ⟨hlt, hB.out hlt, x, hx, hx0⟩)
      · exact .inr (.inr (by omega))
    have hrd : ∀ x, B = ad.add k → d[k]? = some x → (w.alloc (.cells #[.bool false, .slice none 0 0, .int .i64 0] 162)).cell? B = some (.int .u8 (x : Int)) := by
      rintro x rfl hx
      obtain ⟨ad', e', hc'⟩ := (hr.alloc (.cells #[.bool false, .slice none 0 0, .int .i64 0] 162)) k _ (B8_get hx)
      obtain rfl := Option.some.inj e'
      exact hc'
    rcases hcase with ⟨hlt, hBe, hx⟩ | hcase
    · have hcell := hrd 0 hBe hx
      have b1 : (0 : Int) < ((n - k : Nat) : Int) := by omega
      have b0 : (0 : Int) < (n : Int) - k := by omega
      have hdr := drop_cons hx
      have hl2 : lead 0 (d.drop (k + 1)) = lead 0 d := by rw [← hlead.out, hdr, lead_eq]
      have HL := Lib.hid hl2
      have HBE := Lib.hid hBe
      clear hdr hl2 hx hrd hBe hB
      go_wp2
      refine ⟨⟨k + 1, if c - k = 1 then B else B.add 1, by omega, ?_, ?_, HL, trivial⟩, by show n - k - 1 < n - k; omega⟩
      · have e1 : n - k - 1 = n - (k + 1) := by omega
        have e2 : c - k - 1 = c - (k + 1) := by omega
        rw [e1, e2]
        split <;> simp [Addr.add]
      · intro h
        rw [if_neg (by omega), HBE.out, add_add]
    · have hfin : Hid (lead 0 d = d.drop k) := by
        show _ = _
        rcases hcase with ⟨_, _, x, hx, hx0⟩ | rfl
        · rw [← hlead.out, drop_cons hx, lead_ne hx0]
        · rw [← hlead.out, List.drop_eq_nil_of_le (by have := hn.out; omega)]; rfl
      have HV2 : Hid ((if tlen (d.drop k) = 0 then (false, [], 0) else (neg, (d.drop k).take (tlen (d.drop k)), ex + (((d.drop k).length - tlen (d.drop k) : Nat) : Int))) = v) := by
        have h := HV.out
        unfold normV at h
        rw [hfin.out] at h
        exact h
      obtain ⟨m, hm2⟩ : ∃ m, m = n - k := ⟨_, rfl⟩
      obtain ⟨cc, hcc⟩ : ∃ cc, cc = c - k := ⟨_, rfl⟩
      have hdl : Hid ((d.drop k).length = m) := by show _ = _; have := hn.out; simp; omega
      have HRD : Hid (Rd (w.alloc (.cells #[.bool false, .slice none 0 0, .int .i64 0] 162)) (some B) (B8 (d.drop k))) := by
        show Rd _ _ _
        rcases hcase with ⟨_, hBe, _⟩ | rfl
        · rw [hBe]
          have h := (hr.drop k).alloc (.cells #[.bool false, .slice none 0 0, .int .i64 0] 162)
          unfold B8 at h ⊢
          rwa [List.map_drop]
        · rw [List.drop_eq_nil_of_le (by have := hn.out; omega)]
          exact Rd.nil
      have hhead : (0 < m ∧ ∃ x : Nat, (w.alloc (.cells #[.bool false, .slice none 0 0, .int .i64 0] 162)).cell? B = some (.int .u8 (x : Int)) ∧ ((x : Int) == 0) = false) ∨ m = 0 := by
        rcases hcase with ⟨hlt, hBe, x, hx, hx0⟩ | rfl
        · exact .inl ⟨by omega, x, hrd x hBe hx, by simp; omega⟩
        · exact .inr (by omega)
      rw [← hm2, ← hcc]
      have hmc : m ≤ cc := by omega
      have hm9 : m ≤ 4294967296 := by omega
      have hc9 : cc ≤ 9223372036854775807 := by omega
      clear hfin HV hlead hB hcase hrd hm2 hcc hn hr hc hm hcm hk
      generalize d.drop k = d1 at *
      have HBd : Below w.heap.size w (w.alloc (.cells #[.bool false, .slice none 0 0, .int .i64 0] 162)) := (Below.refl _ _).alloc (Nat.le_refl _) _
      have HAr := Lib.hid (Arr.new w 162 [.bool false, .slice none 0 0, .int .i64 0])
      generalize (w.alloc (.cells #[.bool false, .slice none 0 0, .int .i64 0] 162)) = W at *
      have hlow : w.heap.size < W.heap.size := HAr.out.lt
      rcases hhead with ⟨hm0, x, hcell, hx0⟩ | hm0
      all_goals
        first | (have hm0' : ¬ (0 : Int) < (m : Int) := by omega) | have hm0' : (0 : Int) < (m : Int) := by omega
        clear hm0
        go_wp2
        go_loopw [1, 2] (fun sv ev wr => ∃ j : Nat, j ≤ m ∧ sv = .slice (some B) j cc ∧ ev = .int .i64 (ex + ((m - j : Nat) : Int)) ∧ Hid (tlen (d1.take j) = tlen d1) ∧ W = wr) (fun sv _ _ => match sv with | .slice _ k _ => k | _ => 0)
        case atStart => exact ⟨m, Nat.le_refl _, rfl, by simp, by show _ = _; rw [List.take_of_length_le (by have := hdl.out; omega)], rfl⟩
        case round =>
          obtain ⟨j, hj, rfl, rfl, htl, rfl⟩ := hrel
          clear hm0'
          by_cases hj0 : j = 0
          · subst hj0
            have hv1 : v = (false, [], 0) := by
              have h := HV2.out
              rw [if_pos (by rw [← htl.out]; simp [tlen])] at h
              exact h.symm
            subst hv1
            have hm00 : tlen (d1.take 0) = 0 := rfl
            clear HV2 htl
            go_wp2_with ((with_reducible show wpList _ _ _ (Oper.mk none (Op.store 162 (Operand.tmp 6) (Operand.tmp 41)) _ _ _ _ :: _) _ _); go_loud (refine wpList_sr rfl rfl 162 (.tmp 6) (.tmp 41) rfl (w.heap.size) [.bool false, .slice none 0 0, .int .i64 0] rfl rfl 162 _ HAr.out _ Tryz.sz162 (by first | rfl | simp) (by first | rfl | simp) (by first | rfl | simp [Value.oneCell']) ?_; intro w5 hr5 hg5 hz5))
            have r0 := hr5.out.cell' (i := 0) rfl
            have r1 := hr5.out.cell' (i := 1) rfl
            have r2 := hr5.out.cell' (i := 2) rfl
            refine bodyPost_ret (v := .agg #[.bool false, .slice none 0 0, .int .i64 0]) (by simp [results, Tryz.results115, go_sem, r0, r1, r2]) rfl ?_
            exact ⟨none, 0, 0, rfl, rfl, Nat.le_refl _, Rd.nil, (fun _ h => by cases h), HBd.grown hg5 HBd.size (fun k e => by have := Option.some.inj e; omega)⟩
          · first
            | (exfalso; omega)
            | (obtain ⟨y, hy⟩ : ∃ y, d1[j-1]? = some y := ⟨_, List.getElem?_eq_getElem (by have := hdl.out; omega)⟩
               obtain ⟨B', hB', hcell2⟩ := HRD.out.at_ (B8_get hy)
               obtain rfl := Option.some.inj hB'
               have hs := tlen_take_succ hy
               rw [show j - 1 + 1 = j by omega] at hs
               have HS := Lib.hid hs; clear hs
               have e1 : ((j:Int) - 1).toNat = j - 1 := by omega
               have e2 : (0 : Int) < (j : Int) := by omega
               have e3 : (0 : Int) ≤ (j : Int) - 1 := by omega
               clear hy hB'
               by_cases hz : y = 0
               · subst hz
                 go_wp2
                 refine ⟨⟨j - 1, by omega, rfl, i64e (by omega), ?_, trivial⟩, by show j - 1 < j; omega⟩
                 have h1 := HS.out
                 rw [if_pos rfl] at h1
                 exact h1.symm.trans htl.out
               · have hz' : ((y : Int) == 0) = false := by simp; omega
                 have htj : tlen d1 = j := by
                   have h1 := HS.out
                   rw [if_neg hz] at h1
                   rw [← htl.out]
                   omega
                 have hv1 : v = (neg, d1.take j, ex + ((m - j : Nat) : Int)) := by
                   have h := HV2.out
                   rw [if_neg (by omega), htj, hdl.out] at h
                   exact h.symm
                 subst hv1
                 have hl1 : (d1.take j).length = j := by rw [List.length_take]; have := hdl.out; omega
                 have HL1 := Lib.hid hl1
                 clear HV2 htl HS htj hl1
                 have hrt := HRD.out.take j
                 have hB8 : (B8 d1).take j = B8 (d1.take j) := by unfold B8; rw [List.map_take]
                 rw [hB8] at hrt
                 clear hB8
                 have HRT := Lib.hid hrt
                 clear hrt
                 go_wp2_with (first | (at_make; go_loud (refine wpList_mk rfl _ _ 23 rfl 5 _ _ Tryz.underlying23 Tryz.info5 rfl _ _ _ _ rfl rfl (j) (j) (by omega) (by omega) (by omega) (by omega) (by unfold maxLen; omega) ?_; intro g w1 hg harr hbl hsz)) | (with_reducible refine wpList_cp rfl (.tmp 45) (.tmp 46) 23 23 rfl 5 Tryz.underlying23 Tryz.size5 g (j) (j) (j) cc (some B) rfl rfl _ _ harr.out (by simp) (B8 (d1.take j)) (HRT.out.keep hbl) (by rw [length_B8]; exact HL1.out) (Nat.le_refl _) (B8_one _) ?_; intro w2 harr2 hgr2 hsz2) | ((with_reducible show wpList _ _ _ (Oper.mk none (Op.store 162 (Operand.tmp 6) (Operand.tmp 51)) _ _ _ _ :: _) _ _); go_loud (refine wpList_sr rfl rfl 162 (.tmp 6) (.tmp 51) rfl (w.heap.size) [.bool neg, .slice (some ⟨g, 0, none⟩) j j, .int .i64 (ex + ((m - j : Nat) : Int))] rfl rfl 162 _ ((HAr.out.keep hbl).grown hgr2 (by intro e; have := Option.some.inj e; have := hg.out; omega)) _ Tryz.sz162 (by first | rfl | simp) (by first | rfl | simp) (by first | rfl | simp [Value.oneCell']) ?_; intro w5 hr5 hg5 hz5)))
                 have hlg := hg.out
                 have r0 := hr5.out.cell' (i := 0) rfl
                 have r1 := hr5.out.cell' (i := 1) rfl
                 have r2 := hr5.out.cell' (i := 2) rfl
                 refine bodyPost_ret (v := .agg #[.bool neg, .slice (some ⟨g, 0, none⟩) j j, .int .i64 (ex + ((m - j : Nat) : Int))]) (by simp [results, Tryz.results115, go_sem, r0, r1, r2]) rfl ?_
                 have harr3 := harr2.out
                 rw [List.drop_eq_nil_of_le (by simp), List.append_nil] at harr3
                 refine ⟨some ⟨g, 0, none⟩, j, j, rfl, HL1.out.symm, Nat.le_refl _, (harr3.grown hg5 (by intro e; have := Option.some.inj e; omega)).rd, ?_, ?_⟩
                 · rintro ad e; obtain rfl := Option.some.inj e; show w.heap.size ≤ g; omega
                 · have hB1 := HBd.trans (hbl.mono (by omega))
                   refine Below.grown (Below.grown hB1 hgr2 (by have := hbl.size; omega) (fun k e => by have := Option.some.inj e; omega)) hg5 ?_ (fun k e => by have := Option.some.inj e; omega)
                   have := hsz2.out; have := hsz.out; omega)
end Go.Proofs.YtbhigefbihpnlaaGreatDoor
