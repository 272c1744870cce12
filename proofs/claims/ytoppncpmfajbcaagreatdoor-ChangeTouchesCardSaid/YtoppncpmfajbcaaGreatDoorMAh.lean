/- The walk of two of integer. -/
import Derived.Test.YtoppncpmfajbcaaGreatDoorMAg
import Derived.Test.YtoppncpmfajbcaaGreatDoorMAf
import Derived.Test.YtoppncpmfajbcaaGreatDoorMAe
import Derived.Test.YtoppncpmfajbcaaGreatDoorMAa
import Derived.StillTailTactics
set_option linter.unusedVariables false
set_option linter.unusedSimpArgs false
set_option linter.defProp false
set_option linter.constructorNameAsVariable false
namespace Go.Proofs.YtoppncpmfajbcaaGreatDoor
open Go.RowKit
def NumV (B : Nat) (w : World) (o : Option (Bool × Nat)) (v0 v1 : Value) : Prop :=
 match o with
 | none => v0 = .bool false ∧ v1 = .slice none 0 0
 | some (neg, m) => ∃ A n c, v0 = .bool neg ∧ v1 = .slice A n c ∧ Hid (n = (dg m).length) ∧ n ≤ 400 ∧ n ≤ c ∧ Rd w A (B8 (dg m)) ∧ From B A
theorem NumV.keep {B : Nat} {w w' : World} {o : Option (Bool × Nat)} {v0 v1 : Value} (h : NumV B w o v0 v1) (hb : Below w.heap.size w w') : NumV B w' o v0 v1 := by
 match o, h with
 | none, h => exact h
 | some (neg, m), ⟨A, n, c, h1, h2, h3, h4, h5, h6, h7⟩ => exact ⟨A, n, c, h1, h2, h3, h4, h5, h6.keep hb, h7⟩
theorem NumV.grown {B : Nat} {w w' : World} {o : Option (Bool × Nat)} {v0 v1 : Value} {g : Nat} (h : NumV B w o v0 v1) (hb : w.grownBy w' (some g)) (hg : g < B) : NumV B w' o v0 v1 := by
 match o, h with
 | none, h => exact h
 | some (neg, m), ⟨A, n, c, h1, h2, h3, h4, h5, h6, h7⟩ =>
  refine ⟨A, n, c, h1, h2, h3, h4, h5, h6.grown hb ?_, h7⟩
  intro ad e h
  have := h7 ad e
  have := Option.some.inj h
  omega
theorem NumV.setCell {B : Nat} {w : World} {o : Option (Bool × Nat)} {v0 v1 : Value} {p : Addr} (h : NumV B w o v0 v1) (u : Value) (hp : p.block < B) : NumV B (w.setCell p u) o v0 v1 := by
 match o, h with
 | none, h => exact h
 | some (neg, m), ⟨A, n, c, h1, h2, h3, h4, h5, h6, h7⟩ => exact ⟨A, n, c, h1, h2, h3, h4, h5, h6.setCell u (fun ad e => by have := h7 ad e; omega), h7⟩
theorem NumV.drew {B : Nat} {w : World} {o : Option (Bool × Nat)} {v0 v1 : Value} (h : NumV B w o v0 v1) : NumV B w.drew o v0 v1 := by
 match o, h with
 | none, h => exact h
 | some (neg, m), h => exact h
theorem NumV.mono {B B' : Nat} {w : World} {o : Option (Bool × Nat)} {v0 v1 : Value} (h : NumV B w o v0 v1) (hB : B' ≤ B) : NumV B' w o v0 v1 := by
 match o, h with
 | none, h => exact h
 | some (neg, m), ⟨A, n, c, h1, h2, h3, h4, h5, h6, h7⟩ => exact ⟨A, n, c, h1, h2, h3, h4, h5, h6, fun ad e => Nat.le_trans hB (h7 ad e)⟩
theorem NumV.kind {B : Nat} {w : World} {o : Option (Bool × Nat)} {v0 v1 : Value} (h : NumV B w o v0 v1) : (∃ b, v0 = .bool b) ∧ ∃ A n c, v1 = .slice A n c := by
 match o, h with
 | none, ⟨h1, h2⟩ => exact ⟨⟨_, h1⟩, _, _, _, h2⟩
 | some (neg, m), ⟨A, n, c, h1, h2, _⟩ => exact ⟨⟨_, h1⟩, _, _, _, h2⟩
theorem read_num (l : List Nat) (w : World) (hby : By l) : Calls Tryz.prog 101 #[.string (mks l)] w fun e w' =>
  Below w.heap.size w w' ∧ ∃ (b : Bool) (A : Option Addr) (n c : Nat), e = .returned (.tuple #[.agg #[.bool b, .slice A n c], .bool (parseC l).isSome]) ∧ NumV w.heap.size w' (parseC l) (.bool b) (.slice A n c) := by
 refine (read_any l w hby).mono fun e w' ⟨hb, h⟩ => ⟨hb, ?_⟩
 cases hp : parseC l with
 | none => rw [hp] at h; exact ⟨false, none, 0, 0, h, rfl, rfl⟩
 | some x =>
  obtain ⟨neg, m⟩ := x
  rw [hp] at h
  obtain ⟨A, n, c, he, h3, h4, h5, h6, h7⟩ := h
  exact ⟨neg, A, n, c, he, A, n, c, rfl, rfl, h3, h4, h5, h6, h7⟩
end Go.Proofs.YtoppncpmfajbcaaGreatDoor
namespace Go.Proofs.YtoppncpmfajbcaaGreatDoor
open Go.RowKit
end Go.Proofs.YtoppncpmfajbcaaGreatDoor
namespace Go.Proofs.YtoppncpmfajbcaaGreatDoor
open Go.RowKit
end Go.Proofs.YtoppncpmfajbcaaGreatDoor
namespace Go.Proofs.YtoppncpmfajbcaaGreatDoor
open Go.RowKit
def tS (x : Bool × Nat) : List Nat := if (dg x.2).length ≤ 400 then ntx x.1 x.2 else []
def tE (x : Bool × Nat) : Int := if (dg x.2).length ≤ 400 then 0 else 6
end Go.Proofs.YtoppncpmfajbcaaGreatDoor
namespace Go.Proofs.YtoppncpmfajbcaaGreatDoor
open Go.RowKit
end Go.Proofs.YtoppncpmfajbcaaGreatDoor
namespace Go.Proofs.YtoppncpmfajbcaaGreatDoor
open Go.RowKit
set_option maxHeartbeats 2000000 in
theorem valid_any (l : List Nat) (w : World) (hl : By l) : Calls Tryz.prog 79 #[.string (mks l)] w fun e w' =>
  e = .returned (.bool (parseC l).isSome) ∧ Below w.heap.size w w' := by
 have H1 := Lib.hid (read_num l w hl)
 generalize parseC l = o at *
 go_enter Tryz.func79, Tryz.ntmps79
 go_wp2_with (go_at_call 101; go_loud (refine H1.out.mono ?_; rintro e w1 ⟨hb1, b1, A1, n1, c1, rfl, _⟩))
 go_ret
 exact ⟨rfl, hb1.alloc hb1.size _⟩
end Go.Proofs.YtoppncpmfajbcaaGreatDoor
namespace Go.Proofs.YtoppncpmfajbcaaGreatDoor
open Go.RowKit
end Go.Proofs.YtoppncpmfajbcaaGreatDoor
namespace Go.Proofs.YtoppncpmfajbcaaGreatDoor
open Go.RowKit
end Go.Proofs.YtoppncpmfajbcaaGreatDoor
namespace Go.Proofs.YtoppncpmfajbcaaGreatDoor
open Go.RowKit
def lead (z : Nat) : List Nat → List Nat
  | [] => []
  | c :: l => if c = z then lead z l else c :: l
theorem lead_eq {z : Nat} {l : List Nat} : lead z (z :: l) = lead z l := by simp [lead]
theorem lead_ne {z c : Nat} {l : List Nat} (h : c ≠ z) : lead z (c :: l) = c :: l := by simp [lead, h]
theorem lead_le (z : Nat) (l : List Nat) : (lead z l).length ≤ l.length := by
  induction l with
  | nil => simp [lead]
  | cons c l ih => unfold lead; split <;> simp; omega
theorem By.lead {z : Nat} {l : List Nat} (h : By l) : By (lead z l) := by
  induction l with
  | nil => exact h
  | cons c l ih => unfold Go.Proofs.YtoppncpmfajbcaaGreatDoor.lead; split; · exact ih h.tail
                   · exact h
def horF (b : Nat) (f : Nat → Nat) (l : List Nat) (a : Nat) : Nat := l.foldl (fun a c => a * b + f c) a
def hor (b : Nat) (f : Nat → Nat) (l : List Nat) : Nat := horF b f l 0
@[go_sem] theorem mks_isEmpty (l : List Nat) : (mks l).toList.isEmpty = l.isEmpty := by rw [toList_mks]; cases l <;> rfl
@[go_sem] theorem mks_eq_nil (l : List Nat) : ((mks l).toList = []) = (l = []) := by rw [toList_mks]; simp
end Go.Proofs.YtoppncpmfajbcaaGreatDoor
namespace Go.Proofs.YtoppncpmfajbcaaGreatDoor
open Go.RowKit
theorem Tryz.sz149 : (Tryz.prog.info? 149).map (·.size) = some 3 := by kernel_rfl
def normV (neg : Bool) (d : List Nat) (ex : Int) : Bool × List Nat × Int :=
  if tlen (lead 0 d) = 0 then (false, [], 0) else (neg, (lead 0 d).take (tlen (lead 0 d)), ex + (((lead 0 d).length - tlen (lead 0 d) : Nat) : Int))
def NumR (w : World) (x : Bool × List Nat × Int) (e : Ending) (w' : World) : Prop :=
  ∃ A n c, e = .returned (.agg #[.bool x.1, .slice A n c, .int .i64 x.2.2]) ∧ Hid (n = x.2.1.length) ∧ n ≤ c ∧ Rd w' A (B8 x.2.1) ∧ From w.heap.size A ∧ Below w.heap.size w w'
set_option maxHeartbeats 2000000 in
theorem norm_any (neg : Bool) (ad : Addr) (n c : Nat) (d : List Nat) (ex : Int) (w : World) (hn : Hid (n = d.length)) (hr : Rd w (some ad) (B8 d)) (hc : n ≤ c) (hm : n ≤ 4294967296) (hcm : c ≤ maxLen)
    (h1 : -4398046511104 ≤ ex) (h2 : ex ≤ 4398046511104) :
    Calls Tryz.prog 130 #[.bool neg, .slice (some ad) n c, .int .i64 ex] w (NumR w (normV neg d ex)) := by
  generalize hv : normV neg d ex = v
  have HV := Lib.hid hv
  clear hv
  unfold maxLen at hcm
  go_enter Tryz.func130, Tryz.ntmps130
  go_wp2
  go_loopw [1] (fun sv wr => ∃ (k : Nat) (B : Addr), k ≤ n ∧ sv = .slice (some B) (n - k) (c - k) ∧ Hid (k < n → B = ad.add k) ∧ Hid (lead 0 (d.drop k) = lead 0 d) ∧ w.alloc (.cells #[.bool false, .slice none 0 0, .int .i64 0] 149) = wr) (fun sv _ => match sv with | .slice _ k _ => k | _ => 0)
  case atStart => exact ⟨0, ad, Nat.zero_le _, rfl, fun _ => by simp [Addr.add], rfl, rfl⟩
  case round =>
    obtain ⟨k, B, hk, rfl, hB, hlead, rfl⟩ := hrel
    have hcase : (k < n ∧ B = ad.add k ∧ d[k]? = some 0) ∨ (k < n ∧ B = ad.add k ∧ ∃ x, d[k]? = some x ∧ x ≠ 0) ∨ k = n := by
      by_cases hlt : k < n
      · obtain ⟨x, hx⟩ : ∃ x, d[k]? = some x := ⟨_, List.getElem?_eq_getElem (by have := hn.out; omega)⟩
        by_cases hx0 : x = 0
        · subst hx0; exact .inl ⟨hlt, hB.out hlt, hx⟩
        · exact .inr (.inl ⟨hlt, hB.out hlt, x, hx, hx0⟩)
      · exact .inr (.inr (by omega))
    have hrd : ∀ x, B = ad.add k → d[k]? = some x → (w.alloc (.cells #[.bool false, .slice none 0 0, .int .i64 0] 149)).cell? B = some (.int .u8 (x : Int)) := by
      rintro x rfl hx
      obtain ⟨ad', e', hc'⟩ := (hr.alloc (.cells #[.bool false, .slice none 0 0, .int .i64 0] 149)) k _ (B8_get hx)
      obtain rfl := Option.some.inj e'
      exact hc'
    rcases hcase with ⟨hlt, hBe, hx⟩ | hcase
    · have hcell := hrd 0 hBe hx
      have b1 : (0 : Int) < ((n - k : Nat) : Int) := by omega
      have b0 : (0 : Int) < (n : Int) - k := by omega
      have hdr := drop_cons hx
      have hl2 : lead 0 (d.drop (k + 1)) = lead 0 d := by rw [← hlead.out, hdr, lead_eq]
      have HL := Lib.hid hl2
      have HBE := Lib.hid hBe
      clear hdr hl2 hx hrd hBe hB
      go_wp2
      refine ⟨⟨k + 1, if c - k = 1 then B else B.add 1, by omega, ?_, ?_, HL, trivial⟩, by show n - k - 1 < n - k; omega⟩
      · have e1 : n - k - 1 = n - (k + 1) := by omega
        have e2 : c - k - 1 = c - (k + 1) := by omega
        rw [e1, e2]
        split <;> simp [Addr.add]
      · intro h
        rw [if_neg (by omega), HBE.out, add_add]
    · have hfin : Hid (lead 0 d = d.drop k) := by
        show _ = _
        rcases hcase with ⟨_, _, x, hx, hx0⟩ | rfl
        · rw [← hlead.out, drop_cons hx, lead_ne hx0]
        · rw [← hlead.out, List.drop_eq_nil_of_le (by have := hn.out; omega)]; rfl
      have HV2 : Hid ((if tlen (d.drop k) = 0 then (false, [], 0) else (neg, (d.drop k).take (tlen (d.drop k)), ex + (((d.drop k).length - tlen (d.drop k) : Nat) : Int))) = v) := by
        have h := HV.out
        unfold normV at h
        rw [hfin.out] at h
        exact h
      obtain ⟨m, hm2⟩ : ∃ m, m = n - k := ⟨_, rfl⟩
      obtain ⟨cc, hcc⟩ : ∃ cc, cc = c - k := ⟨_, rfl⟩
      have hdl : Hid ((d.drop k).length = m) := by show _ = _; have := hn.out; simp; omega
      have HRD : Hid (Rd (w.alloc (.cells #[.bool false, .slice none 0 0, .int .i64 0] 149)) (some B) (B8 (d.drop k))) := by
        show Rd _ _ _
        rcases hcase with ⟨_, hBe, _⟩ | rfl
        · rw [hBe]
          have h := (hr.drop k).alloc (.cells #[.bool false, .slice none 0 0, .int .i64 0] 149)
          unfold B8 at h ⊢
          rwa [List.map_drop]
        · rw [List.drop_eq_nil_of_le (by have := hn.out; omega)]
          exact Rd.nil
      have hhead : (0 < m ∧ ∃ x : Nat, (w.alloc (.cells #[.bool false, .slice none 0 0, .int .i64 0] 149)).cell? B = some (.int .u8 (x : Int)) ∧ ((x : Int) == 0) = false) ∨ m = 0 := by
        rcases hcase with ⟨hlt, hBe, x, hx, hx0⟩ | rfl
        · exact .inl ⟨by omega, x, hrd x hBe hx, by simp; omega⟩
        · exact .inr (by omega)
      rw [← hm2, ← hcc]
      have hmc : m ≤ cc := by omega
      have hm9 : m ≤ 4294967296 := by omega
      have hc9 : cc ≤ 9223372036854775807 := by omega
      clear hfin HV hlead hB hcase hrd hm2 hcc hn hr hc hm hcm hk
      generalize d.drop k = d1 at *
      have HBd : Below w.heap.size w (w.alloc (.cells #[.bool false, .slice none 0 0, .int .i64 0] 149)) := (Below.refl _ _).alloc (Nat.le_refl _) _
      have HAr := Lib.hid (Arr.new w 149 [.bool false, .slice none 0 0, .int .i64 0])
      generalize (w.alloc (.cells #[.bool false, .slice none 0 0, .int .i64 0] 149)) = W at *
      have hlow : w.heap.size < W.heap.size := HAr.out.lt
      rcases hhead with ⟨hm0, x, hcell, hx0⟩ | hm0
      all_goals
        first | (have hm0' : ¬ (0 : Int) < (m : Int) := by omega) | have hm0' : (0 : Int) < (m : Int) := by omega
        clear hm0
        go_wp2
        go_loopw [1, 2] (fun sv ev wr => ∃ j : Nat, j ≤ m ∧ sv = .slice (some B) j cc ∧ ev = .int .i64 (ex + ((m - j : Nat) : Int)) ∧ Hid (tlen (d1.take j) = tlen d1) ∧ W = wr) (fun sv _ _ => match sv with | .slice _ k _ => k | _ => 0)
        case atStart => exact ⟨m, Nat.le_refl _, rfl, by simp, by show _ = _; rw [List.take_of_length_le (by have := hdl.out; omega)], rfl⟩
        case round =>
          obtain ⟨j, hj, rfl, rfl, htl, rfl⟩ := hrel
          clear hm0'
          by_cases hj0 : j = 0
          · subst hj0
            have hv1 : v = (false, [], 0) := by
              have h := HV2.out
              rw [if_pos (by rw [← htl.out]; simp [tlen])] at h
              exact h.symm
            subst hv1
            have hm00 : tlen (d1.take 0) = 0 := rfl
            clear HV2 htl
            go_wp2_with ((with_reducible show wpList _ _ _ (Oper.mk none (Op.store 149 (Operand.tmp 6) (Operand.tmp 41)) _ _ _ _ :: _) _ _); go_loud (refine wpList_sr rfl rfl 149 (.tmp 6) (.tmp 41) rfl (w.heap.size) [.bool false, .slice none 0 0, .int .i64 0] rfl rfl 149 _ HAr.out _ Tryz.sz149 (by first | rfl | simp) (by first | rfl | simp) (by first | rfl | simp [Value.oneCell']) ?_; intro w5 hr5 hg5 hz5))
            have r0 := hr5.out.cell' (i := 0) rfl
            have r1 := hr5.out.cell' (i := 1) rfl
            have r2 := hr5.out.cell' (i := 2) rfl
            refine bodyPost_ret (v := .agg #[.bool false, .slice none 0 0, .int .i64 0]) (by simp [results, Tryz.results130, go_sem, r0, r1, r2]) rfl ?_
            exact ⟨none, 0, 0, rfl, rfl, Nat.le_refl _, Rd.nil, (fun _ h => by cases h), HBd.grown hg5 HBd.size (fun k e => by have := Option.some.inj e; omega)⟩
          · first
            | (exfalso; omega)
            | (obtain ⟨y, hy⟩ : ∃ y, d1[j-1]? = some y := ⟨_, List.getElem?_eq_getElem (by have := hdl.out; omega)⟩
               obtain ⟨B', hB', hcell2⟩ := HRD.out.at_ (B8_get hy)
               obtain rfl := Option.some.inj hB'
               have hs := tlen_take_succ hy
               rw [show j - 1 + 1 = j by omega] at hs
               have HS := Lib.hid hs; clear hs
               have e1 : ((j:Int) - 1).toNat = j - 1 := by omega
               have e2 : (0 : Int) < (j : Int) := by omega
               have e3 : (0 : Int) ≤ (j : Int) - 1 := by omega
               clear hy hB'
               by_cases hz : y = 0
               · subst hz
                 go_wp2
                 refine ⟨⟨j - 1, by omega, rfl, i64e (by omega), ?_, trivial⟩, by show j - 1 < j; omega⟩
                 have h1 := HS.out
                 rw [if_pos rfl] at h1
                 exact h1.symm.trans htl.out
               · have hz' : ((y : Int) == 0) = false := by simp; omega
                 have htj : tlen d1 = j := by
                   have h1 := HS.out
                   rw [if_neg hz] at h1
                   rw [← htl.out]
                   omega
                 have hv1 : v = (neg, d1.take j, ex + ((m - j : Nat) : Int)) := by
                   have h := HV2.out
                   rw [if_neg (by omega), htj, hdl.out] at h
                   exact h.symm
                 subst hv1
                 have hl1 : (d1.take j).length = j := by rw [List.length_take]; have := hdl.out; omega
                 have HL1 := Lib.hid hl1
                 clear HV2 htl HS htj hl1
                 have hrt := HRD.out.take j
                 have hB8 : (B8 d1).take j = B8 (d1.take j) := by unfold B8; rw [List.map_take]
                 rw [hB8] at hrt
                 clear hB8
                 have HRT := Lib.hid hrt
                 clear hrt
                 go_wp2_with (first | (at_make; go_loud (refine wpList_mk rfl _ _ 57 rfl 5 _ _ Tryz.underlying57 Tryz.info5 rfl _ _ _ _ rfl rfl (j) (j) (by omega) (by omega) (by omega) (by omega) (by unfold maxLen; omega) ?_; intro g w1 hg harr hbl hsz)) | (with_reducible refine wpList_cp rfl (.tmp 45) (.tmp 46) 57 57 rfl 5 Tryz.underlying57 Tryz.size5 g (j) (j) (j) cc (some B) rfl rfl _ _ harr.out (by simp) (B8 (d1.take j)) (HRT.out.keep hbl) (by rw [length_B8]; exact HL1.out) (Nat.le_refl _) (B8_one _) ?_; intro w2 harr2 hgr2 hsz2) | ((with_reducible show wpList _ _ _ (Oper.mk none (Op.store 149 (Operand.tmp 6) (Operand.tmp 51)) _ _ _ _ :: _) _ _); go_loud (refine wpList_sr rfl rfl 149 (.tmp 6) (.tmp 51) rfl (w.heap.size) [.bool neg, .slice (some ⟨g, 0, none⟩) j j, .int .i64 (ex + ((m - j : Nat) : Int))] rfl rfl 149 _ ((HAr.out.keep hbl).grown hgr2 (by intro e; have := Option.some.inj e; have := hg.out; omega)) _ Tryz.sz149 (by first | rfl | simp) (by first | rfl | simp) (by first | rfl | simp [Value.oneCell']) ?_; intro w5 hr5 hg5 hz5)))
                 have hlg := hg.out
                 have r0 := hr5.out.cell' (i := 0) rfl
                 have r1 := hr5.out.cell' (i := 1) rfl
                 have r2 := hr5.out.cell' (i := 2) rfl
                 refine bodyPost_ret (v := .agg #[.bool neg, .slice (some ⟨g, 0, none⟩) j j, .int .i64 (ex + ((m - j : Nat) : Int))]) (by simp [results, Tryz.results130, go_sem, r0, r1, r2]) rfl ?_
                 have harr3 := harr2.out
                 rw [List.drop_eq_nil_of_le (by simp), List.append_nil] at harr3
                 refine ⟨some ⟨g, 0, none⟩, j, j, rfl, HL1.out.symm, Nat.le_refl _, (harr3.grown hg5 (by intro e; have := Option.some.inj e; omega)).rd, ?_, ?_⟩
                 · rintro ad e; obtain rfl := Option.some.inj e; show w.heap.size ≤ g; omega
                 · have hB1 := HBd.trans (hbl.mono (by omega))
                   refine Below.grown (Below.grown hB1 hgr2 (by have := hbl.size; omega) (fun k e => by have := Option.some.inj e; omega)) hg5 ?_ (fun k e => by have := Option.some.inj e; omega)
                   have := hsz2.out; have := hsz.out; omega)
end Go.Proofs.YtoppncpmfajbcaaGreatDoor
namespace Go.Proofs.YtoppncpmfajbcaaGreatDoor
open Go.RowKit
def limV (x : Bool × List Nat × Int) : Int := if 400 < x.2.1.length then 6 else if x.2.2 < -2000 ∨ 2000 < x.2.2 then 2 else 0
set_option maxHeartbeats 1000000 in
theorem limit_any (x : Bool × List Nat × Int) (A : Option Addr) (n c : Nat) (w : World) (hn : Hid (n = x.2.1.length)) :
  Calls Tryz.prog 132 #[.agg #[.bool x.1, .slice A n c, .int .i64 x.2.2]] w fun e w' => e = .returned (.int .i64 (limV x)) ∧ Below w.heap.size w w' := by
 have hv : limV x = if 400 < n then 6 else if x.2.2 < -2000 ∨ 2000 < x.2.2 then 2 else 0 := by unfold limV; rw [hn.out]
 rw [hv]
 have HX := Arr.new w 149 [.bool x.1, .slice A n c, .int .i64 x.2.2]
 have HBd : Below w.heap.size w (w.alloc (.cells #[.bool x.1, .slice A n c, .int .i64 x.2.2] 149)) := (Below.refl _ _).alloc (Nat.le_refl _) _
 have x0 := HX.cell' (i := 0) rfl
 have x1 := HX.cell' (i := 1) rfl
 have x2 := HX.cell' (i := 2) rfl
 clear hv
 go_enter Tryz.func132, Tryz.ntmps132
 go_upto_region 1 with (fail)
 generalize (w.alloc (.cells #[.bool x.1, .slice A n c, .int .i64 x.2.2] 149)) = W at *
 go_wp2
 all_goals
  go_ret
  refine ⟨ret_i ?_, HBd⟩
  (repeat' split) <;> omega
def signL (neg : Bool) : List Nat := if neg then [45] else []
set_option maxHeartbeats 1000000 in
theorem sign_any (x : Bool × List Nat × Int) (A : Option Addr) (n c : Nat) (w : World) :
  Calls Tryz.prog 192 #[.agg #[.bool x.1, .slice A n c, .int .i64 x.2.2]] w fun e w' => e = .returned (.string (mks (signL x.1))) ∧ Below w.heap.size w w' := by
 have HX := Arr.new w 149 [.bool x.1, .slice A n c, .int .i64 x.2.2]
 have HBd : Below w.heap.size w (w.alloc (.cells #[.bool x.1, .slice A n c, .int .i64 x.2.2] 149)) := (Below.refl _ _).alloc (Nat.le_refl _) _
 have x0 := HX.cell' (i := 0) rfl
 go_enter Tryz.func192, Tryz.ntmps192
 go_upto_region 1 with (fail)
 generalize (w.alloc (.cells #[.bool x.1, .slice A n c, .int .i64 x.2.2] 149)) = W at *
 obtain ⟨neg, d, ex⟩ := x
 cases neg
 all_goals
  go_wp2
  go_ret
  exact ⟨rfl, HBd⟩
theorem asc_set {d : List Nat} {k c : Nat} (hd : d[k]? = some c) : ((asc (d.take k) ++ List.replicate (d.length - k) 0).set k (48 + c)) = asc (d.take (k + 1)) ++ List.replicate (d.length - (k + 1)) 0 := by
 have h := List.getElem?_eq_some_iff.1 hd
 have hk := h.1
 have e1 : List.replicate (d.length - k) 0 = 0 :: List.replicate (d.length - (k + 1)) 0 := by
  rw [← List.replicate_succ]; congr 1; omega
 rw [e1, set_mid (by simp [asc]; omega), List.take_succ_eq_append_getElem h.1, h.2]
 simp [asc]
set_option maxRecDepth 8000 in
set_option maxHeartbeats 1000000 in
theorem digits_any (neg : Bool) (d : List Nat) (ex : Int) (A : Option Addr) (n c : Nat) (w : World) (hn : Hid (n = d.length)) (hr : Rd w A (B8 d)) (ht : Ten d) (hm : n ≤ 4294967296) :
  Calls Tryz.prog 193 #[.agg #[.bool neg, .slice A n c, .int .i64 ex]] w fun e w' => e = .returned (.string (mks (asc d))) ∧ Below w.heap.size w w' := by
 have HX := Lib.hid (Arr.new w 149 [.bool neg, .slice A n c, .int .i64 ex])
 have HBd : Below w.heap.size w (w.alloc (.cells #[.bool neg, .slice A n c, .int .i64 ex] 149)) := (Below.refl _ _).alloc (Nat.le_refl _) _
 go_enter Tryz.func193, Tryz.ntmps193
 go_upto_region 1 with (fail)
 have hlow : w.heap.size < (w.alloc (.cells #[.bool neg, .slice A n c, .int .i64 ex] 149)).heap.size := HX.out.lt
 generalize (w.alloc (.cells #[.bool neg, .slice A n c, .int .i64 ex] 149)) = W at *
 have x1 := HX.out.cell' (i := 1) rfl
 go_wp2_with (at_make; go_loud (refine wpList_mk rfl _ _ 57 rfl 5 _ _ Tryz.underlying57 Tryz.info5 rfl _ _ _ _ rfl rfl (n) (n) (by omega) (by omega) (by omega) (by omega) (by unfold maxLen; omega) ?_; intro g w1 hg harr hbl hsz; have x1' := (HX.out.keep hbl).cell' (i := 1) rfl))
 have hS1 : Hid (Arr w1 g 5 (B8 (asc (d.take 0) ++ List.replicate (d.length - 0) 0))) := by
  have h := harr.out
  show Arr _ _ _ _
  have e : B8 (asc (d.take 0) ++ List.replicate (d.length - 0) 0) = List.replicate n (.int .u8 0) := by simp [asc, B8, hn.out]
  rw [e]; exact h
 have hB1 : Below w.heap.size w w1 := HBd.trans (hbl.mono (by omega))
 have hwg : w.heap.size ≤ g := by have := hg.out; omega
 clear harr hsz x1 hbl
 try clear x1'
 go_loopw [13] (fun iv wr => ∃ k : Nat, k ≤ n ∧ iv = .int .i64 (k : Int) ∧ Hid (Arr wr g 5 (B8 (asc (d.take k) ++ List.replicate (d.length - k) 0))) ∧ Below w.heap.size w wr) (fun iv _ => n - (intOf iv).toNat)
 case atStart => exact ⟨0, by omega, rfl, hS1, hB1⟩
 case round =>
  clear hS1 hB1
  obtain ⟨k, hk, rfl, ha, hb⟩ := hrel
  by_cases hlt : k < n
  ·obtain ⟨x, hx⟩ : ∃ x, d[k]? = some x := ⟨_, List.getElem?_eq_getElem (by have := hn.out; omega)⟩
   have cb := ht.get hx
   obtain ⟨ad, rfl, hcell0⟩ := hr.at_ (B8_get hx)
   have hcell := (hb.cell (block_lt_of_cell hcell0)).trans hcell0
   have hget : (asc (d.take k) ++ List.replicate (d.length - k) 0)[k]? = some 0 := by
    have := hn.out
    rw [List.getElem?_append_right (by simp [asc]; omega), List.getElem?_replicate, if_pos (by simp [asc]; omega)]
   have hc2 := ha.out.cell' (B8_get hget)
   have hfr := ha.out.frozen k
   have hst := ha.out.store k (.int .u8 ((48 + x : Nat) : Int))
   rw [B8_set, asc_set hx] at hst
   have ecast : ((48 + x : Nat) : Int) = 48 + (x : Int) := by omega
   rw [ecast] at hst
   have HST := Lib.hid hst
   have hB2 := hb.setCell (p := ⟨g, k, none⟩) (by show w.heap.size ≤ g; omega) (.int .u8 (48 + (x : Int)))
   clear hst ecast hget hx hcell0
   go_wp2
   go_roundw
   case rel => exact ⟨k + 1, by omega, by go_num, HST, hB2⟩
   case measure => simp [intOf]; omega
  ·obtain rfl : k = n := by omega
   have hrd := ha.out.rd
   have hkn := hn.out
   rw [List.take_of_length_le (by omega), show d.length - k = 0 by omega, List.replicate_zero, List.append_nil] at hrd
   have hcv := run_str (P := Tryz.prog) wr 57 9 5 Tryz.underlying57 Tryz.underlying5 Tryz.underlying9 (some ⟨g, 0, none⟩) k k _ hrd (by simp [asc]; omega)
   clear hkn hrd ha
   go_wp2
   go_ret
   exact ⟨rfl, hb⟩
end Go.Proofs.YtoppncpmfajbcaaGreatDoor
