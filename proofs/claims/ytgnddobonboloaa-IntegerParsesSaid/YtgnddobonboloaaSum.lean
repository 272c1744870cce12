/- The walk of sum of integer. -/
import Derived.Test.YtgnddobonboloaaTwo
import Derived.Test.YtgnddobonboloaaSize
import Derived.Test.YtgnddobonboloaaMinus
namespace Go.Proofs.Ytgnddobonboloaa
open Go.RowKit

theorem three_box (w : World) (t t' t'' : TypeId) (xs ys zs : List Value) :
    Hid (Arr (((w.alloc (.cells xs.toArray t)).alloc (.cells ys.toArray t')).alloc (.cells zs.toArray t'')) w.heap.size t xs) ∧
    Hid (Arr (((w.alloc (.cells xs.toArray t)).alloc (.cells ys.toArray t')).alloc (.cells zs.toArray t'')) (w.heap.size + 1) t' ys) ∧
    Hid (Arr (((w.alloc (.cells xs.toArray t)).alloc (.cells ys.toArray t')).alloc (.cells zs.toArray t'')) (w.heap.size + 1 + 1) t'' zs) ∧
      Below w.heap.size w (((w.alloc (.cells xs.toArray t)).alloc (.cells ys.toArray t')).alloc (.cells zs.toArray t'')) ∧
      Hid ((((w.alloc (.cells xs.toArray t)).alloc (.cells ys.toArray t')).alloc (.cells zs.toArray t'')).heap.size = w.heap.size + 3) := by
  obtain ⟨h1, h2, h3, h4⟩ := two_box w t t' xs ys
  refine ⟨h1.out.alloc _, h2.out.alloc _, ?_, h3.alloc (by rw [h4.out]; omega) _, ?_⟩
  · have h := Arr.new ((w.alloc (.cells xs.toArray t)).alloc (.cells ys.toArray t')) t'' zs
    rw [h4.out] at h
    exact h
  · show _ = _
    simp

/-- A struct of a sign and canonical digits. -/
def Nm (B : Nat) (w : World) (x : Bool × Nat) (v0 v1 : Value) : Prop :=
  ∃ A n c, v0 = .bool x.1 ∧ v1 = .slice A n c ∧ Hid (n = (dg x.2).length) ∧ n ≤ c ∧ Rd w A (B8 (dg x.2)) ∧ From B A

def sumN (x y : Bool × Nat) : Bool × Nat :=
  if x.1 = y.1 then (x.1, x.2 + y.2) else if x.2 = y.2 then (false, 0) else if x.2 < y.2 then (y.1, y.2 - x.2) else (x.1, x.2 - y.2)

def RetN (w : World) (x : Bool × Nat) (e : Ending) (w' : World) : Prop :=
  ∃ v0 v1, e = .returned (.agg #[v0, v1]) ∧ Nm w.heap.size w' x v0 v1 ∧ Below w.heap.size w w'

theorem far2 (w : World) (g : Nat) (u v : Value) (a : Addr) (h : g ≠ a.block) : ((w.setCell ⟨g, 0, none⟩ u).setCell ⟨g, 1, none⟩ v).cell? a = w.cell? a := by
  rw [World.cell?_setCell_far _ _ _ _ h, World.cell?_setCell_far _ _ _ _ h]

theorem retN_end {w w5 : World} {b : Bool} {A : Option Addr} {n c m R Z : Nat} (hn : Hid (n = (B8 (dg m)).length)) (hc : n ≤ c) (hr : Rd w5 A (B8 (dg m))) (hf : From Z A) (hb : Below w.heap.size w w5) (hR : w.heap.size ≤ R) (hZ : R < Z) :
    RetN w (b, m) (.returned (.agg #[.bool b, .slice A n c])) ((w5.setCell ⟨R, 0, none⟩ (.bool b)).setCell ⟨R, 1, none⟩ (.slice A n c)) := by
  refine ⟨_, _, rfl, ⟨A, n, c, rfl, rfl, ?_, hc, ?_, fun ad e => by have := hf ad e; omega⟩, ?_⟩
  · have := hn.out; rw [length_B8] at this; exact this
  · refine Rd.setCell (Rd.setCell hr _ ?_) _ ?_
    · intro ad e; have := hf ad e; dsimp only; omega
    · intro ad e; have := hf ad e; dsimp only; omega
  · refine Below.setCell (Below.setCell hb ?_ _) ?_ _
    · dsimp only; omega
    · dsimp only; omega

set_option maxHeartbeats 2000000 in
theorem sum_same (b b' : Bool) (A A' : Option Addr) (n n' c c' p q : Nat) (w : World) (hn : Hid (n = (dg p).length)) (hn' : Hid (n' = (dg q).length)) (hr : Rd w A (B8 (dg p))) (hr' : Rd w A' (B8 (dg q)))
    (hm : n ≤ 4294967296) (hm' : n' ≤ 4294967296) (hbb : b = b') :
    Calls Try.prog 61 #[.agg #[.bool b, .slice A n c], .agg #[.bool b', .slice A' n' c']] w (RetN w (b, p + q)) := by
  skip
  skip
  obtain ⟨HX, HY, HR, HB, HZ⟩ := three_box w 62 62 62 [.bool b, .slice A n c] [.bool b', .slice A' n' c'] [.bool false, .slice none 0 0]
  subst hbb
  have hres : ∃ x, x = (b, p + q) := ⟨_, rfl⟩
  obtain ⟨x, hx⟩ := hres
  rw [← hx]
  have HRES := Lib.hid hx
  clear hx
  go_enter Try.func61, Try.ntmps61
  go_upto_region 2 with (fail)
  have HXn : Hid (Arr (((w.alloc (.cells #[.bool b, .slice A n c] 62)).alloc (.cells #[.bool b, .slice A' n' c'] 62)).alloc (.cells #[.bool false, .slice none 0 0] 62)) w.heap.size 62 [.bool b, .slice A n c]) := HX
  have HYn : Hid (Arr (((w.alloc (.cells #[.bool b, .slice A n c] 62)).alloc (.cells #[.bool b, .slice A' n' c'] 62)).alloc (.cells #[.bool false, .slice none 0 0] 62)) (w.heap.size + 1) 62 [.bool b, .slice A' n' c']) := HY
  have HRn : Hid (Arr (((w.alloc (.cells #[.bool b, .slice A n c] 62)).alloc (.cells #[.bool b, .slice A' n' c'] 62)).alloc (.cells #[.bool false, .slice none 0 0] 62)) (w.heap.size + 1 + 1) 62 [.bool false, .slice none 0 0]) := HR
  have HBn : Below w.heap.size w (((w.alloc (.cells #[.bool b, .slice A n c] 62)).alloc (.cells #[.bool b, .slice A' n' c'] 62)).alloc (.cells #[.bool false, .slice none 0 0] 62)) := HB
  have HZn : Hid ((((w.alloc (.cells #[.bool b, .slice A n c] 62)).alloc (.cells #[.bool b, .slice A' n' c'] 62)).alloc (.cells #[.bool false, .slice none 0 0] 62)).heap.size = w.heap.size + 3) := HZ
  clear HX HY HR HB HZ
  generalize (((w.alloc (.cells #[.bool b, .slice A n c] 62)).alloc (.cells #[.bool b, .slice A' n' c'] 62)).alloc (.cells #[.bool false, .slice none 0 0] 62)) = W at *
  have x0 := HXn.out.cell' (i := 0) rfl
  have x1 := HXn.out.cell' (i := 1) rfl
  have y0 := HYn.out.cell' (i := 0) rfl
  have y1 := HYn.out.cell' (i := 1) rfl
  have hrW : Rd W.drew A (B8 (dg p)) := (hr.keep HBn).drew
  have hrW' : Rd W.drew A' (B8 (dg q)) := (hr'.keep HBn).drew
  have HXd : Hid (Arr W.drew w.heap.size 62 [.bool b, .slice A n c]) := HXn
  have HYd : Hid (Arr W.drew (w.heap.size + 1) 62 [.bool b, .slice A' n' c']) := HYn
  have HRd : Hid (Arr W.drew (w.heap.size + 1 + 1) 62 [.bool false, .slice none 0 0]) := HRn
  have HBd : Below w.heap.size w W.drew := HBn.drew
  have HZd : Hid (W.drew.heap.size = w.heap.size + 3) := HZn
  go_region_held3 (fun w' => w'.cell? ⟨w.heap.size, 0, none⟩ = some (.bool b) ∧ w'.cell? ⟨w.heap.size, 1, none⟩ = some (.slice A n c) ∧ w'.cell? ⟨w.heap.size + 1, 0, none⟩ = some (.bool b) ∧ w'.cell? ⟨w.heap.size + 1, 1, none⟩ = some (.slice A' n' c'))
    (first | exact ⟨x0, x1, y0, y1⟩ | exact ⟨x0', x1', y0', y1'⟩ | exact ⟨(far2 _ _ _ _ _ (by dsimp only; omega)).trans x0', (far2 _ _ _ _ _ (by dsimp only; omega)).trans x1', (far2 _ _ _ _ _ (by dsimp only; omega)).trans y0', (far2 _ _ _ _ _ (by dsimp only; omega)).trans y1'⟩)
    (first | (go_at_call 51; go_loud (refine (plus_any A A' n c n' c' p q _ hn hn' hrW hrW' hm hm').mono ?_; rintro e w5 ⟨A5, n5, c5, rfl, hn5, hc5, hr5, hf5, hb5⟩; have x0' := (HXd.out.keep hb5).cell' (i := 0) rfl; have x1' := (HXd.out.keep hb5).cell' (i := 1) rfl; have y0' := (HYd.out.keep hb5).cell' (i := 0) rfl; have y1' := (HYd.out.keep hb5).cell' (i := 1) rfl; have r0' := (HRd.out.keep hb5).cell' (i := 0) rfl; have r1' := (HRd.out.keep hb5).cell' (i := 1) rfl; have rf0 := (HRd.out.keep hb5).frozen 0; have rf1 := (HRd.out.keep hb5).frozen 1)))
  go_wp2
  refine bodyPost_ret (v := .agg #[.bool b, .slice A5 n5 c5]) (by simp [results, Try.results61, go_sem, r0', r1']) rfl ?_
  rw [HRES.out]
  have hz := HZd.out
  exact retN_end (Z := W.drew.heap.size) hn5 hc5 hr5 hf5 (HBd.trans (hb5.mono (by omega))) (by omega) (by omega)
set_option maxHeartbeats 2000000 in
theorem sum_lt (b b' : Bool) (A A' : Option Addr) (n n' c c' p q : Nat) (w : World) (hn : Hid (n = (dg p).length)) (hn' : Hid (n' = (dg q).length)) (hr : Rd w A (B8 (dg p))) (hr' : Rd w A' (B8 (dg q)))
    (hm : n ≤ 4294967296) (hm' : n' ≤ 4294967296) (hbb : b ≠ b') (hpq : p < q) :
    Calls Try.prog 61 #[.agg #[.bool b, .slice A n c], .agg #[.bool b', .slice A' n' c']] w (RetN w (b', q - p)) := by
  have hcmp : cmpN p q = -1 := by unfold cmpN; rw [if_pos hpq]
  have hsz : ∀ W, Rd W A (B8 (dg p)) → Rd W A' (B8 (dg q)) → Calls Try.prog 52 #[.slice A n c, .slice A' n' c'] W fun e w' => e = .returned (.int .i64 (-1)) ∧ ∃ k, w' = W.drewN k := fun W h h' => by have := size_any A A' n n' c c' p q W hn hn' h h' hm hm'; rwa [hcmp] at this
  obtain ⟨HX, HY, HR, HB, HZ⟩ := three_box w 62 62 62 [.bool b, .slice A n c] [.bool b', .slice A' n' c'] [.bool false, .slice none 0 0]
  have hbe : (b == b') = false := by cases b <;> cases b' <;> simp_all
  have hres : ∃ x, x = (b', q - p) := ⟨_, rfl⟩
  obtain ⟨x, hx⟩ := hres
  rw [← hx]
  have HRES := Lib.hid hx
  clear hx
  go_enter Try.func61, Try.ntmps61
  go_upto_region 7 with (go_at_call 52; go_loud (refine (hsz _ (hr.keep HB) (hr'.keep HB)).mono ?_; rintro e w6 ⟨rfl, k6, rfl⟩))
  have HXn : Hid (Arr ((((w.alloc (.cells #[.bool b, .slice A n c] 62)).alloc (.cells #[.bool b', .slice A' n' c'] 62)).alloc (.cells #[.bool false, .slice none 0 0] 62)).drewN k6) w.heap.size 62 [.bool b, .slice A n c]) := HX
  have HYn : Hid (Arr ((((w.alloc (.cells #[.bool b, .slice A n c] 62)).alloc (.cells #[.bool b', .slice A' n' c'] 62)).alloc (.cells #[.bool false, .slice none 0 0] 62)).drewN k6) (w.heap.size + 1) 62 [.bool b', .slice A' n' c']) := HY
  have HRn : Hid (Arr ((((w.alloc (.cells #[.bool b, .slice A n c] 62)).alloc (.cells #[.bool b', .slice A' n' c'] 62)).alloc (.cells #[.bool false, .slice none 0 0] 62)).drewN k6) (w.heap.size + 1 + 1) 62 [.bool false, .slice none 0 0]) := HR
  have HBn : Below w.heap.size w ((((w.alloc (.cells #[.bool b, .slice A n c] 62)).alloc (.cells #[.bool b', .slice A' n' c'] 62)).alloc (.cells #[.bool false, .slice none 0 0] 62)).drewN k6) := Below.drewN' HB k6
  have HZn : Hid (((((w.alloc (.cells #[.bool b, .slice A n c] 62)).alloc (.cells #[.bool b', .slice A' n' c'] 62)).alloc (.cells #[.bool false, .slice none 0 0] 62)).drewN k6).heap.size = w.heap.size + 3) := HZ
  clear HX HY HR HB HZ
  generalize ((((w.alloc (.cells #[.bool b, .slice A n c] 62)).alloc (.cells #[.bool b', .slice A' n' c'] 62)).alloc (.cells #[.bool false, .slice none 0 0] 62)).drewN k6) = W at *
  have x0 := HXn.out.cell' (i := 0) rfl
  have x1 := HXn.out.cell' (i := 1) rfl
  have y0 := HYn.out.cell' (i := 0) rfl
  have y1 := HYn.out.cell' (i := 1) rfl
  have hrW : Rd W.drew A (B8 (dg p)) := (hr.keep HBn).drew
  have hrW' : Rd W.drew A' (B8 (dg q)) := (hr'.keep HBn).drew
  have HXd : Hid (Arr W.drew w.heap.size 62 [.bool b, .slice A n c]) := HXn
  have HYd : Hid (Arr W.drew (w.heap.size + 1) 62 [.bool b', .slice A' n' c']) := HYn
  have HRd : Hid (Arr W.drew (w.heap.size + 1 + 1) 62 [.bool false, .slice none 0 0]) := HRn
  have HBd : Below w.heap.size w W.drew := HBn.drew
  have HZd : Hid (W.drew.heap.size = w.heap.size + 3) := HZn
  go_region_held3 (fun w' => w'.cell? ⟨w.heap.size, 0, none⟩ = some (.bool b) ∧ w'.cell? ⟨w.heap.size, 1, none⟩ = some (.slice A n c) ∧ w'.cell? ⟨w.heap.size + 1, 0, none⟩ = some (.bool b') ∧ w'.cell? ⟨w.heap.size + 1, 1, none⟩ = some (.slice A' n' c'))
    (first | exact ⟨x0, x1, y0, y1⟩ | exact ⟨x0', x1', y0', y1'⟩ | exact ⟨(far2 _ _ _ _ _ (by dsimp only; omega)).trans x0', (far2 _ _ _ _ _ (by dsimp only; omega)).trans x1', (far2 _ _ _ _ _ (by dsimp only; omega)).trans y0', (far2 _ _ _ _ _ (by dsimp only; omega)).trans y1'⟩)
    (first | (go_at_call 58; go_loud (refine (minus_any A' A n' c' n c q p _ hn' hn hrW' hrW hm' (by omega)).mono ?_; rintro e w5 ⟨A5, n5, c5, rfl, hn5, hc5, hr5, hf5, hb5⟩; have x0' := (HXd.out.keep hb5).cell' (i := 0) rfl; have x1' := (HXd.out.keep hb5).cell' (i := 1) rfl; have y0' := (HYd.out.keep hb5).cell' (i := 0) rfl; have y1' := (HYd.out.keep hb5).cell' (i := 1) rfl; have r0' := (HRd.out.keep hb5).cell' (i := 0) rfl; have r1' := (HRd.out.keep hb5).cell' (i := 1) rfl; have rf0 := (HRd.out.keep hb5).frozen 0; have rf1 := (HRd.out.keep hb5).frozen 1)))
  go_wp2
  refine bodyPost_ret (v := .agg #[.bool b', .slice A5 n5 c5]) (by simp [results, Try.results61, go_sem, r0', r1']) rfl ?_
  rw [HRES.out]
  have hz := HZd.out
  exact retN_end (Z := W.drew.heap.size) hn5 hc5 hr5 hf5 (HBd.trans (hb5.mono (by omega))) (by omega) (by omega)
set_option maxHeartbeats 2000000 in
theorem sum_gt (b b' : Bool) (A A' : Option Addr) (n n' c c' p q : Nat) (w : World) (hn : Hid (n = (dg p).length)) (hn' : Hid (n' = (dg q).length)) (hr : Rd w A (B8 (dg p))) (hr' : Rd w A' (B8 (dg q)))
    (hm : n ≤ 4294967296) (hm' : n' ≤ 4294967296) (hbb : b ≠ b') (hpq : q < p) :
    Calls Try.prog 61 #[.agg #[.bool b, .slice A n c], .agg #[.bool b', .slice A' n' c']] w (RetN w (b, p - q)) := by
  have hcmp : cmpN p q = 1 := by unfold cmpN; rw [if_neg (by omega), if_neg (by omega)]
  have hsz : ∀ W, Rd W A (B8 (dg p)) → Rd W A' (B8 (dg q)) → Calls Try.prog 52 #[.slice A n c, .slice A' n' c'] W fun e w' => e = .returned (.int .i64 1) ∧ ∃ k, w' = W.drewN k := fun W h h' => by have := size_any A A' n n' c c' p q W hn hn' h h' hm hm'; rwa [hcmp] at this
  obtain ⟨HX, HY, HR, HB, HZ⟩ := three_box w 62 62 62 [.bool b, .slice A n c] [.bool b', .slice A' n' c'] [.bool false, .slice none 0 0]
  have hbe : (b == b') = false := by cases b <;> cases b' <;> simp_all
  have hres : ∃ x, x = (b, p - q) := ⟨_, rfl⟩
  obtain ⟨x, hx⟩ := hres
  rw [← hx]
  have HRES := Lib.hid hx
  clear hx
  go_enter Try.func61, Try.ntmps61
  go_upto_region 8 with (go_at_call 52; go_loud (refine (hsz _ (hr.keep HB) (hr'.keep HB)).mono ?_; rintro e w6 ⟨rfl, k6, rfl⟩))
  have HXn : Hid (Arr ((((w.alloc (.cells #[.bool b, .slice A n c] 62)).alloc (.cells #[.bool b', .slice A' n' c'] 62)).alloc (.cells #[.bool false, .slice none 0 0] 62)).drewN k6) w.heap.size 62 [.bool b, .slice A n c]) := HX
  have HYn : Hid (Arr ((((w.alloc (.cells #[.bool b, .slice A n c] 62)).alloc (.cells #[.bool b', .slice A' n' c'] 62)).alloc (.cells #[.bool false, .slice none 0 0] 62)).drewN k6) (w.heap.size + 1) 62 [.bool b', .slice A' n' c']) := HY
  have HRn : Hid (Arr ((((w.alloc (.cells #[.bool b, .slice A n c] 62)).alloc (.cells #[.bool b', .slice A' n' c'] 62)).alloc (.cells #[.bool false, .slice none 0 0] 62)).drewN k6) (w.heap.size + 1 + 1) 62 [.bool false, .slice none 0 0]) := HR
  have HBn : Below w.heap.size w ((((w.alloc (.cells #[.bool b, .slice A n c] 62)).alloc (.cells #[.bool b', .slice A' n' c'] 62)).alloc (.cells #[.bool false, .slice none 0 0] 62)).drewN k6) := Below.drewN' HB k6
  have HZn : Hid (((((w.alloc (.cells #[.bool b, .slice A n c] 62)).alloc (.cells #[.bool b', .slice A' n' c'] 62)).alloc (.cells #[.bool false, .slice none 0 0] 62)).drewN k6).heap.size = w.heap.size + 3) := HZ
  clear HX HY HR HB HZ
  generalize ((((w.alloc (.cells #[.bool b, .slice A n c] 62)).alloc (.cells #[.bool b', .slice A' n' c'] 62)).alloc (.cells #[.bool false, .slice none 0 0] 62)).drewN k6) = W at *
  have x0 := HXn.out.cell' (i := 0) rfl
  have x1 := HXn.out.cell' (i := 1) rfl
  have y0 := HYn.out.cell' (i := 0) rfl
  have y1 := HYn.out.cell' (i := 1) rfl
  have hrW : Rd W.drew A (B8 (dg p)) := (hr.keep HBn).drew
  have hrW' : Rd W.drew A' (B8 (dg q)) := (hr'.keep HBn).drew
  have HXd : Hid (Arr W.drew w.heap.size 62 [.bool b, .slice A n c]) := HXn
  have HYd : Hid (Arr W.drew (w.heap.size + 1) 62 [.bool b', .slice A' n' c']) := HYn
  have HRd : Hid (Arr W.drew (w.heap.size + 1 + 1) 62 [.bool false, .slice none 0 0]) := HRn
  have HBd : Below w.heap.size w W.drew := HBn.drew
  have HZd : Hid (W.drew.heap.size = w.heap.size + 3) := HZn
  go_region_held3 (fun w' => w'.cell? ⟨w.heap.size, 0, none⟩ = some (.bool b) ∧ w'.cell? ⟨w.heap.size, 1, none⟩ = some (.slice A n c) ∧ w'.cell? ⟨w.heap.size + 1, 0, none⟩ = some (.bool b') ∧ w'.cell? ⟨w.heap.size + 1, 1, none⟩ = some (.slice A' n' c'))
    (first | exact ⟨x0, x1, y0, y1⟩ | exact ⟨x0', x1', y0', y1'⟩ | exact ⟨(far2 _ _ _ _ _ (by dsimp only; omega)).trans x0', (far2 _ _ _ _ _ (by dsimp only; omega)).trans x1', (far2 _ _ _ _ _ (by dsimp only; omega)).trans y0', (far2 _ _ _ _ _ (by dsimp only; omega)).trans y1'⟩)
    (first | (go_at_call 58; go_loud (refine (minus_any A A' n c n' c' p q _ hn hn' hrW hrW' hm (by omega)).mono ?_; rintro e w5 ⟨A5, n5, c5, rfl, hn5, hc5, hr5, hf5, hb5⟩; have x0' := (HXd.out.keep hb5).cell' (i := 0) rfl; have x1' := (HXd.out.keep hb5).cell' (i := 1) rfl; have y0' := (HYd.out.keep hb5).cell' (i := 0) rfl; have y1' := (HYd.out.keep hb5).cell' (i := 1) rfl; have r0' := (HRd.out.keep hb5).cell' (i := 0) rfl; have r1' := (HRd.out.keep hb5).cell' (i := 1) rfl; have rf0 := (HRd.out.keep hb5).frozen 0; have rf1 := (HRd.out.keep hb5).frozen 1)))
  go_wp2
  refine bodyPost_ret (v := .agg #[.bool b, .slice A5 n5 c5]) (by simp [results, Try.results61, go_sem, r0', r1']) rfl ?_
  rw [HRES.out]
  have hz := HZd.out
  exact retN_end (Z := W.drew.heap.size) hn5 hc5 hr5 hf5 (HBd.trans (hb5.mono (by omega))) (by omega) (by omega)

set_option maxHeartbeats 2000000 in
theorem sum_eq (b b' : Bool) (A A' : Option Addr) (n n' c c' p : Nat) (w : World) (hn : Hid (n = (dg p).length)) (hn' : Hid (n' = (dg p).length)) (hr : Rd w A (B8 (dg p))) (hr' : Rd w A' (B8 (dg p)))
    (hm : n ≤ 4294967296) (hm' : n' ≤ 4294967296) (hbb : b ≠ b') :
    Calls Try.prog 61 #[.agg #[.bool b, .slice A n c], .agg #[.bool b', .slice A' n' c']] w (RetN w (false, 0)) := by
  have hcmp : cmpN p p = 0 := by unfold cmpN; rw [if_neg (by omega), if_pos rfl]
  have hsz : ∀ W, Rd W A (B8 (dg p)) → Rd W A' (B8 (dg p)) → Calls Try.prog 52 #[.slice A n c, .slice A' n' c'] W fun e w' => e = .returned (.int .i64 0) ∧ ∃ k, w' = W.drewN k := fun W h h' => by have := size_any A A' n n' c c' p p W hn hn' h h' hm hm'; rwa [hcmp] at this
  obtain ⟨HX, HY, HR, HB, HZ⟩ := three_box w 62 62 62 [.bool b, .slice A n c] [.bool b', .slice A' n' c'] [.bool false, .slice none 0 0]
  have hbe : (b == b') = false := by cases b <;> cases b' <;> simp_all
  go_enter Try.func61, Try.ntmps61
  go_wp2_with (go_at_call 52; go_loud (refine (hsz _ (hr.keep HB) (hr'.keep HB)).mono ?_; rintro e w6 ⟨rfl, k6, rfl⟩; have r0' := HR.out.cell' (i := 0) rfl; have r1' := HR.out.cell' (i := 1) rfl; have rf0 := HR.out.frozen 0; have rf1 := HR.out.frozen 1))
  refine bodyPost_ret (v := .agg #[.bool false, .slice none 0 0]) (by simp [results, Try.results61, go_sem]) rfl ?_
  exact retN_end (Z := w.heap.size + 3) (by show _ = _; rw [dg_zero]; rfl) (Nat.le_refl _) (by rw [dg_zero]; exact Rd.nil) (fun _ h => by cases h) (Below.drewN' HB k6) (by omega) (by omega)

theorem sum_any (b b' : Bool) (A A' : Option Addr) (n n' c c' p q : Nat) (w : World) (hn : Hid (n = (dg p).length)) (hn' : Hid (n' = (dg q).length)) (hr : Rd w A (B8 (dg p))) (hr' : Rd w A' (B8 (dg q)))
    (hm : n ≤ 4294967296) (hm' : n' ≤ 4294967296) :
    Calls Try.prog 61 #[.agg #[.bool b, .slice A n c], .agg #[.bool b', .slice A' n' c']] w (RetN w (sumN (b, p) (b', q))) := by
  unfold sumN
  by_cases h1 : b = b'
  · rw [if_pos h1]; exact sum_same b b' A A' n n' c c' p q w hn hn' hr hr' hm hm' h1
  · rw [if_neg h1]
    by_cases h2 : p = q
    · subst h2; rw [if_pos rfl]; exact sum_eq b b' A A' n n' c c' p w hn hn' hr hr' hm hm' h1
    · rw [if_neg h2]
      by_cases h3 : p < q
      · rw [if_pos h3]; exact sum_lt b b' A A' n n' c c' p q w hn hn' hr hr' hm hm' h1 h3
      · rw [if_neg h3]; exact sum_gt b b' A A' n n' c c' p q w hn hn' hr hr' hm hm' h1 (by omega)
end Go.Proofs.Ytgnddobonboloaa
