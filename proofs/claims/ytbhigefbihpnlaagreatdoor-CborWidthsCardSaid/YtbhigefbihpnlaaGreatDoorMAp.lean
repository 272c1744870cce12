/- The walk of cbor's simple (no floats). -/
import Derived.Test.YtbhigefbihpnlaaGreatDoorMAo
import Derived.Test.YtbhigefbihpnlaaGreatDoorMAh
set_option linter.unusedVariables false
set_option linter.unusedSimpArgs false
set_option linter.defProp false
set_option linter.constructorNameAsVariable false
namespace Go.Proofs.YtbhigefbihpnlaaGreatDoor
open Go.RowKit
abbrev leafV (k : Int) (t : List Nat) : Value := .agg #[.int .i64 k, .string (mks t), .bool false, .slice none 0 0, .slice none 0 0]
def LeafN (nd : GNode) : Prop := nd.ord = false ∧ nd.keys = [] ∧ nd.items = []
theorem hsz_node : (Tryz.prog.info? 60).map (·.size) = some 5 := by kernel_rfl
theorem row5 {w0 w : World} {rb gb : Nat} {t : TypeId} {a b c d e x0 x1 x2 x3 x4 : Value} (hZ : Arr w rb t [a, b, c, d, e]) (hB : Below gb w0 w) (hg : gb ≤ rb) :
  Arr (((((w.setCell ⟨rb, 0, none⟩ x0).setCell ⟨rb, 1, none⟩ x1).setCell ⟨rb, 2, none⟩ x2).setCell ⟨rb, 3, none⟩ x3).setCell ⟨rb, 4, none⟩ x4) rb t [x0, x1, x2, x3, x4] ∧
  Below gb w0 (((((w.setCell ⟨rb, 0, none⟩ x0).setCell ⟨rb, 1, none⟩ x1).setCell ⟨rb, 2, none⟩ x2).setCell ⟨rb, 3, none⟩ x3).setCell ⟨rb, 4, none⟩ x4) :=
 ⟨((((hZ.store 0 x0).store 1 x1).store 2 x2).store 3 x3).store 4 x4, ((((hB.setCell (p := ⟨rb, 0, none⟩) hg x0).setCell (p := ⟨rb, 1, none⟩) hg x1).setCell (p := ⟨rb, 2, none⟩) hg x2).setCell (p := ⟨rb, 3, none⟩) hg x3).setCell (p := ⟨rb, 4, none⟩) hg x4⟩
def SimpP (w : World) (h : CH) (e : Ending) (w' : World) : Prop := Below w.heap.size w w' ∧
 match simpleC h with
 | .ok nd => e = .returned (.tuple #[leafV nd.kind nd.text, .nilIface])
 | .err a c => e = .returned (.tuple #[leafV 0 [], faultV a c])
 | .no => True
theorem SimpP.of_ok {w w' : World} {h : CH} {e : Ending} {nd : GNode} (hh : simpleC h = .ok nd) (he : e = .returned (.tuple #[leafV nd.kind nd.text, .nilIface])) (hb : Below w.heap.size w w') : SimpP w h e w' := ⟨hb, by rw [hh]; exact he⟩
theorem SimpP.of_err {w w' : World} {h : CH} {e : Ending} {a c : Nat} (hh : simpleC h = .err a c) (he : e = .returned (.tuple #[leafV 0 [], faultV a c])) (hb : Below w.heap.size w w') : SimpP w h e w' := ⟨hb, by rw [hh]; exact he⟩
set_option maxRecDepth 20000 in
set_option maxHeartbeats 16000000 in
theorem simple_cb {h : CH} (hno : simpleC h ≠ .no) (w : World) : Calls Tryz.prog 71 #[headV h] w (SimpP w h) := by
 obtain ⟨hat, hm, k, a⟩ := h
 have HNO := Lib.hid hno
 obtain ⟨q1, q2, hb1, hz1⟩ := box2 w 76 60 [.int .i64 (hat : Int), .int .i64 (hm : Int), .int .i64 (k : Int), .int .u64 (a : Int)] [.int .i64 0, .string ⟨#[]⟩, .bool false, .slice none 0 0, .slice none 0 0]
 clear hno
 go_enter Tryz.func71, Tryz.ntmps71
 go_upto_region 1 with (fail)
 obtain ⟨gb, hgb⟩ : ∃ x, w.heap.size = x := ⟨_, rfl⟩
 have HGB := Lib.hid hgb
 have HB1 := Lib.hid hb1
 generalize ((w.alloc (.cells #[.int .i64 (hat : Int), .int .i64 (hm : Int), .int .i64 (k : Int), .int .u64 (a : Int)] 76)).alloc (.cells #[.int .i64 0, .string ⟨#[]⟩, .bool false, .slice none 0 0, .slice none 0 0] 60)) = W at *
 rw [hgb] at q1 q2 hz1 HB1 ⊢
 clear hgb hb1 hz1
 have hgl := q2.out.lt
 have x0 := q1.out.cell' (i := 0) rfl
 have x2 := q1.out.cell' (i := 2) rfl
 have z0 := q2.out.cell' (i := 0) rfl
 have z1 := q2.out.cell' (i := 1) rfl
 have z2 := q2.out.cell' (i := 2) rfl
 have z3 := q2.out.cell' (i := 3) rfl
 have z4 := q2.out.cell' (i := 4) rfl
 have f0 := q2.out.frozen 0
 have f1 := q2.out.frozen 1
 have f2 := q2.out.frozen 2
 have f3 := q2.out.frozen 3
 have f4 := q2.out.frozen 4
 by_cases h20 : k = 20
 ·subst h20
  obtain ⟨g1, g2⟩ := row5 (x0 := .int .i64 1) (x1 := .string ⟨#[102, 97, 108, 115, 101]⟩) (x2 := .bool false) (x3 := .slice none 0 0) (x4 := .slice none 0 0) q2.out HB1.out (Nat.le_succ gb)
  have G1 := Lib.hid g1
  have G2 := Lib.hid g2
  clear g1 g2
  go_wp2_with (fail)
  exact bodyPost_ret (results_rt Tryz.results71 _ _ _ _ #[.int .i64 1, .string ⟨#[102, 97, 108, 115, 101]⟩, .bool false, .slice none 0 0, .slice none 0 0] (0, 0) _ _ rfl rfl G1.out Tryz.underlying60 rfl hsz_node) rfl (SimpP.of_ok (nd := ⟨1, [102, 97, 108, 115, 101], false, [], []⟩) rfl rfl (by rw [HGB.out]; exact G2.out))
 have e20 : ((k : Int) == 20) = false := by rw [beq_eq_false_iff_ne]; omega
 by_cases h21 : k = 21
 ·subst h21
  obtain ⟨g1, g2⟩ := row5 (x0 := .int .i64 1) (x1 := .string ⟨#[116, 114, 117, 101]⟩) (x2 := .bool false) (x3 := .slice none 0 0) (x4 := .slice none 0 0) q2.out HB1.out (Nat.le_succ gb)
  have G1 := Lib.hid g1
  have G2 := Lib.hid g2
  clear g1 g2 e20 h20
  go_wp2_with (fail)
  exact bodyPost_ret (results_rt Tryz.results71 _ _ _ _ #[.int .i64 1, .string ⟨#[116, 114, 117, 101]⟩, .bool false, .slice none 0 0, .slice none 0 0] (0, 0) _ _ rfl rfl G1.out Tryz.underlying60 rfl hsz_node) rfl (SimpP.of_ok (nd := ⟨1, [116, 114, 117, 101], false, [], []⟩) rfl rfl (by rw [HGB.out]; exact G2.out))
 have e21 : ((k : Int) == 21) = false := by rw [beq_eq_false_iff_ne]; omega
 obtain ⟨g1, g2⟩ := row5 (x0 := .int .i64 0) (x1 := .string ⟨#[]⟩) (x2 := .bool false) (x3 := .slice none 0 0) (x4 := .slice none 0 0) q2.out HB1.out (Nat.le_succ gb)
 have G1 := Lib.hid g1
 have G2 := Lib.hid g2
 clear g1 g2
 by_cases h22 : k = 22
 ·subst h22
  clear e20 e21 h20 h21
  go_wp2_with (fail)
  exact bodyPost_ret (results_rt Tryz.results71 _ _ _ _ #[.int .i64 0, .string ⟨#[]⟩, .bool false, .slice none 0 0, .slice none 0 0] (0, 0) _ _ rfl rfl G1.out Tryz.underlying60 rfl hsz_node) rfl (SimpP.of_ok (nd := ⟨0, [], false, [], []⟩) rfl rfl (by rw [HGB.out]; exact G2.out))
 have e22 : ((k : Int) == 22) = false := by rw [beq_eq_false_iff_ne]; omega
 have hk3 : k ≠ 25 ∧ k ≠ 26 ∧ k ≠ 27 := by
  have := HNO.out
  unfold simpleC at this
  simp only [if_neg h20, if_neg h21, if_neg h22] at this
  refine ⟨?_, ?_, ?_⟩ <;> (intro e; apply this; simp [e])
 have e25 : ((k : Int) == 25) = false := by rw [beq_eq_false_iff_ne]; omega
 have e26 : ((k : Int) == 26) = false := by rw [beq_eq_false_iff_ne]; omega
 have e27 : ((k : Int) == 27) = false := by rw [beq_eq_false_iff_ne]; omega
 by_cases h31 : k = 31
 ·have hh : simpleC ⟨hat, hm, k, a⟩ = .err hat 4 := by subst h31; rfl
  have e31 : ((k : Int) == 31) = true := by rw [beq_iff_eq]; omega
  clear h31 hk3 h20 h21 h22
  go_upto_region 18 with (fail)
  clear x2 e20 e21 e22 e25 e26 e27 e31
  go_region
  all_goals
   go_wp2_with (fail)
   exact bodyPost_ret (results_rt Tryz.results71 _ _ _ _ #[.int .i64 0, .string ⟨#[]⟩, .bool false, .slice none 0 0, .slice none 0 0] (0, 0) _ _ rfl rfl G1.out Tryz.underlying60 rfl hsz_node) rfl (SimpP.of_err hh rfl (by rw [HGB.out]; exact Below.drew G2.out))
 ·have hh : simpleC ⟨hat, hm, k, a⟩ = .err hat 10 := by
   unfold simpleC
   simp only [if_neg h20, if_neg h21, if_neg h22, if_neg h31]
   rw [if_neg (by omega)]
  have e31 : ((k : Int) == 31) = false := by rw [beq_eq_false_iff_ne]; omega
  clear h31 hk3 h20 h21 h22
  go_upto_region 19 with (fail)
  clear x2 e20 e21 e22 e25 e26 e27 e31
  go_region
  all_goals
   go_wp2_with (fail)
   exact bodyPost_ret (results_rt Tryz.results71 _ _ _ _ #[.int .i64 0, .string ⟨#[]⟩, .bool false, .slice none 0 0, .slice none 0 0] (0, 0) _ _ rfl rfl G1.out Tryz.underlying60 rfl hsz_node) rfl (SimpP.of_err hh rfl (by rw [HGB.out]; exact Below.drew G2.out))
end Go.Proofs.YtbhigefbihpnlaaGreatDoor
namespace Go.Proofs.YtbhigefbihpnlaaGreatDoor
open Go.RowKit
def nullN : GNode := ⟨0, [], false, [], []⟩
end Go.Proofs.YtbhigefbihpnlaaGreatDoor
namespace Go.Proofs.YtbhigefbihpnlaaGreatDoor
open Go.RowKit
def beV : Nat → Nat → List Nat
 | 0, _ => []
 | k + 1, n => n / 256 ^ k % 256 :: beV k n
theorem len_beV (k n : Nat) : (beV k n).length = k := by
 induction k with
 | zero => rfl
 | succ k ih => simp [beV, ih]
theorem beV_by (k n : Nat) : By (beV k n) := by
 induction k with
 | zero => exact By.nil
 | succ k ih => exact By.cons (Nat.mod_lt _ (by decide)) ih
theorem horF_beV (k n a : Nat) : horF 256 id (beV k n) a = a * 256 ^ k + n % 256 ^ k := by
 induction k generalizing a with
 | zero => simp [beV, horF, Nat.mod_one]
 | succ k ih =>
  show horF 256 id (beV k n) (a * 256 + n / 256 ^ k % 256) = _
  rw [ih, Nat.pow_succ]
  have h1 : n % (256 ^ k * 256) = n % 256 ^ k + 256 ^ k * (n / 256 ^ k % 256) := Nat.mod_mul
  rw [h1, Nat.add_mul, Nat.mul_comm (256 ^ k) (n / 256 ^ k % 256), Nat.mul_assoc, Nat.mul_comm 256 (256 ^ k)]
  omega
theorem hor_beV {k n : Nat} (h : n < 256 ^ k) : hor 256 id (beV k n) = n := by
 unfold hor
 rw [horF_beV, Nat.mod_eq_of_lt h]
 omega
def wideV (major n w : Nat) : List Nat := (32 * major + 24 + w) :: beV (2 ^ w) n
def startV (major n : Nat) : List Nat :=
 if n < 24 then [32 * major + n] else if n < 256 then wideV major n 0 else if n < 65536 then wideV major n 1 else if n < 4294967296 then wideV major n 2 else wideV major n 3
def HdAt (s : List Nat) (i : Nat) (H : List Nat) (h : CH) : Prop := hdC s i = .ok (h, i + H.length) ∧ h.at_ = i
theorem get_drop {s H r : List Nat} {i : Nat} (h : s.drop i = H ++ r) {j : Nat} (hj : j < H.length) : s[i + j]? = H[j]? := by
 rw [← List.getElem?_drop, h, List.getElem?_append_left hj]
theorem drop_more {s H r : List Nat} {i : Nat} (h : s.drop i = H ++ r) : s.drop (i + H.length) = r := by
 rw [← List.drop_drop, h, List.drop_left]
theorem len_drop {s H r : List Nat} {i : Nat} (h : s.drop i = H ++ r) (hH : 0 < H.length) : s.length = i + H.length + r.length := by
 have := congrArg List.length h
 rw [List.length_drop, List.length_append] at this
 omega
theorem byte_wide {major w : Nat} (hw : w < 8) : (32 * major + 24 + w) % 32 = 24 + w ∧ (32 * major + 24 + w) / 32 = major := by omega
theorem hd_wideB {s r : List Nat} {i major n w b : Nat} (hb : 2 ^ w = b) (hw : w < 4) (hn : n < 256 ^ b) (h : s.drop i = (32 * major + 24 + w) :: beV b n ++ r) : hdC s i = .ok (⟨i, major, 24 + w, n⟩, i + (b + 1)) := by
 have hl : ((32 * major + 24 + w) :: beV b n).length = b + 1 := by simp [len_beV]
 have h0 : s[i]? = some (32 * major + 24 + w) := by have := get_drop h (j := 0) (by omega); simpa using this
 have hs := len_drop h (by omega)
 have h1 : s.drop (i + 1) = beV b n ++ r := by
  have h2 : s.drop i = [32 * major + 24 + w] ++ (beV b n ++ r) := h
  have := drop_more h2
  simpa using this
 unfold hdC
 rw [h0]
 obtain ⟨e1, e2⟩ := byte_wide (major := major) (show w < 8 by omega)
 simp only [e1, e2]
 rw [if_neg (by omega), if_pos (by omega), show 24 + w - 24 = w by omega, hb, if_neg (by omega), h1, List.take_left' (len_beV _ _), hor_beV hn]
 simp only [Nat.add_assoc, Nat.add_comm 1 b]
theorem hd_wide {s r : List Nat} {i major n w : Nat} (hw : w < 4) (hn : n < 256 ^ 2 ^ w) (h : s.drop i = wideV major n w ++ r) : HdAt s i (wideV major n w) ⟨i, major, 24 + w, n⟩ := by
 refine ⟨?_, rfl⟩
 rw [hd_wideB rfl hw hn h]
 simp [wideV, len_beV]
theorem hd_start {s r : List Nat} {i major n : Nat} (hn : n < 18446744073709551616) (h : s.drop i = startV major n ++ r) : ∃ info, info < 28 ∧ HdAt s i (startV major n) ⟨i, major, info, n⟩ := by
 unfold startV at h ⊢
 split at h
 ·rename_i h24
  rw [if_pos h24]
  have h0 : s[i]? = some (32 * major + n) := by have := get_drop h (j := 0) (by simp); simpa using this
  refine ⟨n, by omega, ?_, rfl⟩
  unfold hdC
  rw [h0]
  have e1 : (32 * major + n) % 32 = n := by omega
  have e2 : (32 * major + n) / 32 = major := by omega
  simp only [e1, e2, if_pos h24, List.length_singleton]
 ·rename_i h24
  rw [if_neg h24]
  split at h
  ·rename_i h1; rw [if_pos h1]; exact ⟨24, by omega, hd_wide (by omega) (by simpa using h1) h⟩
  ·rename_i h1
   rw [if_neg h1]
   split at h
   ·rename_i h2; rw [if_pos h2]; exact ⟨25, by omega, hd_wide (by omega) (by simpa using h2) h⟩
   ·rename_i h2
    rw [if_neg h2]
    split at h
    ·rename_i h3; rw [if_pos h3]; exact ⟨26, by omega, hd_wide (by omega) (by simpa using h3) h⟩
    ·rename_i h3; rw [if_neg h3]; exact ⟨27, by omega, hd_wide (by omega) (by simpa using hn) h⟩
theorem hd_one {s r : List Nat} {i c : Nat} (hc : c % 32 < 24 ∨ (c = 159 ∨ c = 191 ∨ c = 255 ∨ c = 95)) (h : s.drop i = c :: r) : HdAt s i [c] ⟨i, c / 32, c % 32, c % 32⟩ := by
 have h0 : s[i]? = some c := by have := get_drop (H := [c]) (r := r) h (j := 0) (by simp); simpa using this
 refine ⟨?_, rfl⟩
 unfold hdC
 rw [h0]
 rcases hc with hc | rfl | rfl | rfl | rfl
 ·simp only [if_pos hc, List.length_singleton]
 all_goals rfl
theorem scal_ok {s : List Nat} {h : CH} {x : GNode} {i i1 depth f : Nat} {N : List GNode} {sps : List JSpan} {sh mk : List Int} (sp : JSpan) (hx : scalarC s h i = .ok (x, i1)) (h6 : h.major ≠ 6) (h4 : h.major ≠ 4) (h5 : h.major ≠ 5) (k9 : x.kind ≠ 9) (k10 : x.kind ≠ 10) (hd : depth ≤ 32) (hN : N.length < 4096) :
  ∃ sps', valueC s (f + 2) h sp depth ⟨i, N, sps, sh, mk⟩ = .ok ((N.length : Int), ⟨i1, N ++ [x], sps', sh, mk⟩) := by
 have t : ∀ n, h.tag n = false := fun n => by unfold CH.tag; simp [h6]
 refine ⟨(sps ++ [{ sp with from_ := (h.at_ : Int), whole := true }]).modify sps.length fun y => { y with node := (N.length : Int), to_ := (i1 : Int) }, ?_⟩
 unfold valueC
 simp only [t, CR.bind, Bool.false_and, Bool.false_eq_true, if_false]
 unfold defineC
 simp only [if_neg h4, if_neg h5, t, Bool.false_eq_true, if_false, hx, CR.bind, addC, if_neg (show ¬ depth > 32 by omega), if_neg (show ¬ N.length ≥ 4096 by omega)]
 simp only [show ¬ (0 : Int) ≤ -1 by decide, if_false, k9, k10, or_self]
theorem int_ok {s : List Nat} {h : CH} {i : Nat} (hm : h.major ≤ 1) : scalarC s h i = .ok (⟨2, intC h, false, [], []⟩, i) := by
 unfold scalarC
 rw [if_pos hm]
theorem null_sc {s : List Nat} {i j : Nat} : scalarC s ⟨j, 7, 22, 22⟩ i = .ok (nullN, i) := by
 unfold scalarC
 simp [simpleC, CR.bind, nullN]
theorem bytes_def {s t r : List Nat} {i j info : Nat} (hi : info ≠ 31) (h : s.drop i = t ++ r) (ht : t = [] → i ≤ s.length) : scalarC s ⟨j, 2, info, t.length⟩ i = .ok (⟨6, t, false, [], []⟩, i + t.length) := by
 have hl : ¬ t.length > s.length - i := by
  have := congrArg List.length h
  rw [List.length_drop, List.length_append] at this
  omega
 unfold scalarC
 simp only [show ¬ (2 : Nat) ≤ 1 by decide, if_false, if_true, textC, hi, ne_eq, not_false_eq_true, runC, if_neg hl, CR.bind]
 simp [h]
theorem item_ok {s : List Nat} {h x : CH} {n span depth k i1 f : Nat} {st st3 : CSt} {item : Int} (hc : h.info = 31 ∨ k < h.arg) (hh : hdC s st.i = .ok (x, i1)) (he : ¬ (h.info = 31 ∧ x.ends = true)) (h5 : h.major ≠ 5)
  (hv : valueC s f x ⟨0, span, k, 0, 0, 0, 0, false, false⟩ depth { st with i := i1 } = .ok (item, st3)) :
  contentC s (f + 1) h n span depth k st = contentC s f h n span depth (k + 1) { st3 with nodes := st3.nodes.set n { ndAt st3.nodes n with items := (ndAt st3.nodes n).items ++ [item] } } := by
 conv => lhs; unfold contentC
 simp only [if_pos hc, hh, CR.bind, if_neg he, if_neg h5]
 rw [hv]
theorem items_end {s : List Nat} {h : CH} {n span depth k f : Nat} {st : CSt} (hi : h.info ≠ 31) (hk : ¬ k < h.arg) : contentC s (f + 1) h n span depth k st = .ok st := by
 unfold contentC
 rw [if_neg (by rintro (e | e); exact hi e; exact hk e)]
theorem items_break {s : List Nat} {h x : CH} {n span depth k f i1 : Nat} {st : CSt} (hi : h.info = 31) (hh : hdC s st.i = .ok (x, i1)) (he : x.ends = true) : contentC s (f + 1) h n span depth k st = .ok { st with i := i1 } := by
 unfold contentC
 simp only [hi, true_or, if_true, hh, CR.bind, he, true_and]
end Go.Proofs.YtbhigefbihpnlaaGreatDoor
