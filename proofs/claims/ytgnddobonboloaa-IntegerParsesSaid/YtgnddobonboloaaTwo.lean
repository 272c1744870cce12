/- The walk of two of integer. -/
import Derived.Test.YtgnddobonboloaaRead
namespace Go.Proofs.Ytgnddobonboloaa
open Go.RowKit

/-- A struct of a sign and digits, read out of a text or zero. -/
def NumV (B : Nat) (w : World) (o : Option (Bool × Nat)) (v0 v1 : Value) : Prop :=
  match o with
  | none => v0 = .bool false ∧ v1 = .slice none 0 0
  | some (neg, m) => ∃ A n c, v0 = .bool neg ∧ v1 = .slice A n c ∧ Hid (n = (dg m).length) ∧ n ≤ 400 ∧ n ≤ c ∧ Rd w A (B8 (dg m)) ∧ From B A

theorem NumV.keep {B : Nat} {w w' : World} {o : Option (Bool × Nat)} {v0 v1 : Value} (h : NumV B w o v0 v1) (hb : Below w.heap.size w w') : NumV B w' o v0 v1 := by
  match o, h with
  | none, h => exact h
  | some (neg, m), ⟨A, n, c, h1, h2, h3, h4, h5, h6, h7⟩ => exact ⟨A, n, c, h1, h2, h3, h4, h5, h6.keep hb, h7⟩
theorem NumV.grown {B : Nat} {w w' : World} {o : Option (Bool × Nat)} {v0 v1 : Value} {g : Nat} (h : NumV B w o v0 v1) (hb : w.grownBy w' (some g)) (hg : g < B) : NumV B w' o v0 v1 := by
  match o, h with
  | none, h => exact h
  | some (neg, m), ⟨A, n, c, h1, h2, h3, h4, h5, h6, h7⟩ =>
    refine ⟨A, n, c, h1, h2, h3, h4, h5, h6.grown hb ?_, h7⟩
    intro ad e h
    have := h7 ad e
    have := Option.some.inj h
    omega
theorem NumV.setCell {B : Nat} {w : World} {o : Option (Bool × Nat)} {v0 v1 : Value} {p : Addr} (h : NumV B w o v0 v1) (u : Value) (hp : p.block < B) : NumV B (w.setCell p u) o v0 v1 := by
  match o, h with
  | none, h => exact h
  | some (neg, m), ⟨A, n, c, h1, h2, h3, h4, h5, h6, h7⟩ => exact ⟨A, n, c, h1, h2, h3, h4, h5, h6.setCell u (fun ad e => by have := h7 ad e; omega), h7⟩
theorem NumV.drew {B : Nat} {w : World} {o : Option (Bool × Nat)} {v0 v1 : Value} (h : NumV B w o v0 v1) : NumV B w.drew o v0 v1 := by
  match o, h with
  | none, h => exact h
  | some (neg, m), h => exact h
theorem NumV.mono {B B' : Nat} {w : World} {o : Option (Bool × Nat)} {v0 v1 : Value} (h : NumV B w o v0 v1) (hB : B' ≤ B) : NumV B' w o v0 v1 := by
  match o, h with
  | none, h => exact h
  | some (neg, m), ⟨A, n, c, h1, h2, h3, h4, h5, h6, h7⟩ => exact ⟨A, n, c, h1, h2, h3, h4, h5, h6, fun ad e => Nat.le_trans hB (h7 ad e)⟩
theorem NumV.kind {B : Nat} {w : World} {o : Option (Bool × Nat)} {v0 v1 : Value} (h : NumV B w o v0 v1) : (∃ b, v0 = .bool b) ∧ ∃ A n c, v1 = .slice A n c := by
  match o, h with
  | none, ⟨h1, h2⟩ => exact ⟨⟨_, h1⟩, _, _, _, h2⟩
  | some (neg, m), ⟨A, n, c, h1, h2, _⟩ => exact ⟨⟨_, h1⟩, _, _, _, h2⟩

theorem read_num (l : List Nat) (w : World) (hby : By l) : Calls Try.prog 48 #[.string (mks l)] w fun e w' =>
    Below w.heap.size w w' ∧ ∃ (b : Bool) (A : Option Addr) (n c : Nat), e = .returned (.tuple #[.agg #[.bool b, .slice A n c], .bool (parseC l).isSome]) ∧ NumV w.heap.size w' (parseC l) (.bool b) (.slice A n c) := by
  refine (read_any l w hby).mono fun e w' ⟨hb, h⟩ => ⟨hb, ?_⟩
  cases hp : parseC l with
  | none => rw [hp] at h; exact ⟨false, none, 0, 0, h, rfl, rfl⟩
  | some x =>
    obtain ⟨neg, m⟩ := x
    rw [hp] at h
    obtain ⟨A, n, c, he, h3, h4, h5, h6, h7⟩ := h
    exact ⟨neg, A, n, c, he, A, n, c, rfl, rfl, h3, h4, h5, h6, h7⟩

set_option maxHeartbeats 2000000 in
theorem two_any (l r : List Nat) (w : World) (hl : By l) (hr : By r) : Calls Try.prog 55 #[.string (mks l), .string (mks r)] w fun e w' =>
    Below w.heap.size w w' ∧ ∃ (b b' : Bool) (A A' : Option Addr) (n n' c c' : Nat), e = .returned (.tuple #[.agg #[.bool b, .slice A n c], .agg #[.bool b', .slice A' n' c'], .bool ((parseC l).isSome && (parseC r).isSome)]) ∧
      NumV w.heap.size w' (parseC l) (.bool b) (.slice A n c) ∧ NumV w.heap.size w' (parseC r) (.bool b') (.slice A' n' c') := by
  obtain ⟨o, ho⟩ : ∃ o, o = parseC l := ⟨_, rfl⟩
  obtain ⟨o', ho'⟩ : ∃ o, o = parseC r := ⟨_, rfl⟩
  have H1 := read_num l
  have H2 := read_num r
  rw [← ho] at H1 ⊢
  rw [← ho'] at H2 ⊢
  clear ho ho'
  obtain ⟨p, hp⟩ : ∃ p, p = o.isSome := ⟨_, rfl⟩
  obtain ⟨q, hq⟩ : ∃ p, p = o'.isSome := ⟨_, rfl⟩
  rw [← hp] at H1 ⊢
  rw [← hq] at H2 ⊢
  have H1' := Lib.hid H1
  have H2' := Lib.hid H2
  clear H1 H2 hp hq
  obtain ⟨HR, HX, HB2, HZ⟩ := two_box w 62 62 [.bool false, .slice none 0 0] [.bool false, .slice none 0 0]
  go_enter Try.func55, Try.ntmps55
  go_upto_region 2 with (go_at_call 48; go_loud (refine (H1'.out _ hl).mono ?_; rintro e w1 ⟨hb1, b1, A1, n1, c1, rfl, hn1⟩))
  go_upto_region 3 with (go_at_call 48; go_loud (refine (H2'.out _ hr).mono ?_; rintro e w2 ⟨hb2, b2, A2, n2, c2, rfl, hn2⟩))
  have e1 : ((w.alloc (.cells #[.bool false, .slice none 0 0] 62)).alloc (.cells #[.bool false, .slice none 0 0] 62)).heap.size = w.heap.size + 2 := HZ.out
  have hs1 := hb1.size
  have hs2 := hb2.size
  rw [e1] at hs1
  have e2 : (w1.alloc (.cells #[.bool b1, .slice A1 n1 c1] 62)).heap.size = w1.heap.size + 1 := by simp
  rw [e2] at hs2
  have aX := (((Arr.new w1 62 [.bool b1, .slice A1 n1 c1]).keep hb2).alloc (.cells #[.bool b2, .slice A2 n2 c2] 62))
  have aY := Arr.new w2 62 [.bool b2, .slice A2 n2 c2]
  have hb2' : Below w1.heap.size w1 w2 := ((Below.refl w1.heap.size w1).alloc (Nat.le_refl _) _).trans (hb2.mono (by rw [e2]; omega))
  have hb3 : Below w2.heap.size w2 (w2.alloc (.cells #[.bool b2, .slice A2 n2 c2] 62)) := (Below.refl _ _).alloc (Nat.le_refl _) _
  have aR := ((HR.out.keep hb1).keep hb2').keep hb3
  have aS := ((HX.out.keep hb1).keep hb2').keep hb3
  have hn1' := (hn1.keep hb2').keep hb3
  have hn2' := hn2.keep hb3
  rw [e1] at hn1'
  rw [e2] at hn2'
  have hB : Below w.heap.size w (w2.alloc (.cells #[.bool b2, .slice A2 n2 c2] 62)) := ((HB2.trans (hb1.mono (by rw [e1]; omega))).trans (hb2'.mono (by omega))).trans (hb3.mono (by omega))
  have hsz : (w2.alloc (.cells #[.bool b2, .slice A2 n2 c2] 62)).heap.size = w2.heap.size + 1 := by simp
  clear hb1 hb2 hb2' hb3 hn1 hn2 HR HX HB2 HZ e1 e2
  generalize w2.alloc (.cells #[.bool b2, .slice A2 n2 c2] 62) = W at *
  have x0 := aX.cell' (i := 0) rfl
  have x1 := aX.cell' (i := 1) rfl
  have y0 := aY.cell' (i := 0) rfl
  have y1 := aY.cell' (i := 1) rfl
  have r0 := aR.cell' (i := 0) rfl
  have r1 := aR.cell' (i := 1) rfl
  have s0 := aS.cell' (i := 0) rfl
  have s1 := aS.cell' (i := 1) rfl
  have rf0 := aR.frozen 0
  have rf1 := aR.frozen 1
  have sf0 := aS.frozen 0
  have sf1 := aS.frozen 1
  have kk1 : ¬ w.heap.size = w1.heap.size := by omega
  have kk2 : ¬ w.heap.size = w2.heap.size := by omega
  have kk3 : ¬ w.heap.size + 1 = w1.heap.size := by omega
  have kk4 : ¬ w.heap.size + 1 = w2.heap.size := by omega
  have kk5 : ¬ w1.heap.size = w2.heap.size := by omega
  cases p <;> cases q
  all_goals
    go_region
    go_wp2
    refine bodyPost_ret (v := .tuple #[.agg #[.bool b1, .slice A1 n1 c1], .agg #[.bool b2, .slice A2 n2 c2], _]) (by simp [results, Try.results55, go_sem, r0, r1, s0, s1]) rfl ⟨?_, b1, b2, A1, A2, n1, n2, c1, c2, rfl, ?_, ?_⟩
    · refine Below.drew ?_
      iterate 4 refine Below.setCell ?_ (by dsimp only; omega) _
      exact hB
    · refine NumV.mono (B := w.heap.size + 2) (NumV.drew ?_) (by omega)
      iterate 4 refine NumV.setCell ?_ _ (by dsimp only; omega)
      exact hn1'
    · refine NumV.mono (B := w1.heap.size + 1) (NumV.drew ?_) (by omega)
      iterate 4 refine NumV.setCell ?_ _ (by dsimp only; omega)
      exact hn2'
end Go.Proofs.Ytgnddobonboloaa
