/- The walk of (*cbor.parser).key. -/
import Derived.Test.YtbhigefbihpnlaaGreatDoorMAr
set_option linter.unusedVariables false
set_option linter.unusedSimpArgs false
set_option linter.defProp false
set_option linter.constructorNameAsVariable false
namespace Go.Proofs.YtbhigefbihpnlaaGreatDoor
open Go.RowKit
def cload (t : TypeId) (x : Operand) : Op := .load t x
@[go_sem] theorem cload_is (t : TypeId) (x : Operand) : cload t x = .load t x := rfl
theorem cload_eq (t : TypeId) (x : Operand) : Op.load t x = cload t x := rfl
def KeyP (s : List Nat) (h : CH) (n d : Nat) (w : World) (B : Nat) (vn vs vh vm : Value) (lab : Nat → Option Nat) (st : CSt) (e : Ending) (w' : World) : Prop :=
 match keyC s h n d st with
 | .ok st' => e = .returned .nilIface ∧ ∃ vn' ncs' lab', CM w' B s vn' vs vh vm ncs' lab' st' ∧ PStep w w' (CF B vn vs lab) (CF B vn' vs lab')
 | .err a c => e = .returned (faultV a c) ∧ ∃ F', PStep w w' (CF B vn vs lab) F'
 | .no => True
section
variable {s : List Nat} {h : CH} {n d : Nat} {w w' : World} {B : Nat} {vn vs vh vm : Value} {lab : Nat → Option Nat} {st : CSt} {e : Ending}
theorem KeyP.of_ok {st' : CSt} (hh : keyC s h n d st = .ok st') (he : e = .returned .nilIface) {vn' : Value} {ncs' : List Value} {lab' : Nat → Option Nat} (hc : CM w' B s vn' vs vh vm ncs' lab' st') (hs : PStep w w' (CF B vn vs lab) (CF B vn' vs lab')) : KeyP s h n d w B vn vs vh vm lab st e w' := by
 unfold KeyP; rw [hh]; exact ⟨he, vn', ncs', lab', hc, hs⟩
theorem KeyP.of_err {a c : Nat} (hh : keyC s h n d st = .err a c) (he : e = .returned (faultV a c)) {F' : Nat → Prop} (hs : PStep w w' (CF B vn vs lab) F') : KeyP s h n d w B vn vs vh vm lab st e w' := by
 unfold KeyP; rw [hh]; exact ⟨he, F', hs⟩
end
theorem CR.bind_ok {α β : Type} {x : CR α} {f : α → CR β} {y : β} (h : x.bind f = .ok y) : ∃ z, x = .ok z ∧ f z = .ok y := by
 cases x with
 | ok z => exact ⟨z, rfl, h⟩
 | err a c => cases h
 | no => cases h
theorem simple_leaf {h : CH} {nd : GNode} (hh : simpleC h = .ok nd) : LeafN nd := by
 unfold simpleC at hh
 repeat' split at hh
 all_goals first | (cases hh; exact ⟨rfl, rfl, rfl⟩) | cases hh
theorem run_by {s : List Nat} {h : CH} {i j : Nat} {t : List Nat} (hs : By s) (hh : runC s h i = .ok (t, j)) : By t := by
 unfold runC at hh
 split at hh
 ·cases hh
 split at hh
 ·cases hh
 ·cases hh; exact (hs.drop i).take _
theorem parts_by {s : List Nat} (hs : By s) (mj : Nat) : ∀ (f i : Nat) (acc : List Nat) (j : Nat) (t : List Nat), By acc → partsC s mj f i acc = .ok (t, j) → By t
 | 0, _, _, _, _, _, h => by cases h
 | f + 1, i, acc, j, t, ha, h => by
  unfold partsC at h
  obtain ⟨⟨x, i1⟩, _, h2⟩ := CR.bind_ok h
  dsimp only at h2
  split at h2
  ·cases h2; exact ha
  split at h2
  ·cases h2
  ·obtain ⟨⟨t2, i2⟩, h3, h4⟩ := CR.bind_ok h2
   exact parts_by hs mj f i2 _ j t (ha.append (run_by hs h3)) h4
theorem text_by {s : List Nat} {h : CH} {i j : Nat} {t : List Nat} (hs : By s) (hh : textC s h i = .ok (t, j)) : By t := by
 unfold textC at hh
 split at hh
 ·exact run_by hs hh
 ·exact parts_by hs _ _ _ _ _ _ By.nil hh
theorem scal_leaf {s : List Nat} {h : CH} {i j : Nat} {nd : GNode} (hh : scalarC s h i = .ok (nd, j)) : LeafN nd := by
 unfold scalarC at hh
 split at hh
 ·cases hh; exact ⟨rfl, rfl, rfl⟩
 split at hh
 ·obtain ⟨⟨t, i1⟩, _, h2⟩ := CR.bind_ok hh
  cases h2; exact ⟨rfl, rfl, rfl⟩
 split at hh
 ·obtain ⟨⟨t, i1⟩, _, h2⟩ := CR.bind_ok hh
  cases h2; exact ⟨rfl, rfl, rfl⟩
 split at hh
 ·obtain ⟨z, h1, h2⟩ := CR.bind_ok hh
  cases h2; exact simple_leaf h1
 split at hh <;> cases hh
theorem by_ntxB (neg : Bool) (m : Nat) : By (ntx neg m) := by
 unfold ntx
 split
 ·intro c hc; have := List.mem_singleton.1 hc; omega
 ·refine By.append ?_ ?_
  ·cases neg
   ·exact By.nil
   ·intro c hc; have := List.mem_singleton.1 hc; omega
  ·intro c hc
   have := List.all_eq_true.1 (all_asc m) c hc
   unfold isDig at this
   have := of_decide_eq_true this
   omega
theorem tS_by (x : Bool × Nat) : By (tS x) := by
 unfold tS
 split
 ·exact by_ntxB _ _
 ·exact By.nil
theorem simple_by {h : CH} {nd : GNode} (hh : simpleC h = .ok nd) : By nd.text := by
 unfold simpleC at hh
 repeat' split at hh
 all_goals first | (cases hh; exact By.nil) | (cases hh; intro c hc; simp at hc; omega) | cases hh
theorem scal_by {s : List Nat} {h : CH} {i j : Nat} {nd : GNode} (hs : By s) (hh : scalarC s h i = .ok (nd, j)) : By nd.text := by
 unfold scalarC at hh
 split at hh
 ·cases hh; exact tS_by _
 split at hh
 ·obtain ⟨⟨t, i1⟩, h1, h2⟩ := CR.bind_ok hh
  cases h2; exact text_by hs h1
 split at hh
 ·obtain ⟨⟨t, i1⟩, h1, h2⟩ := CR.bind_ok hh
  cases h2; exact text_by hs h1
 split at hh
 ·obtain ⟨z, h1, h2⟩ := CR.bind_ok hh
  cases h2; exact simple_by h1
 split at hh <;> cases hh
theorem CM.nodeCells {w : World} {B : Nat} {s : List Nat} {vn vs vh vm : Value} {ncs : List Value} {lab : Nat → Option Nat} {st : CSt} (h : CM w B s vn vs vh vm ncs lab st) {i : Nat} {nd : GNode} (hi : st.nodes[i]? = some nd) :
  ∃ vk vi, ncs[i * 5]? = some (.int .i64 nd.kind) ∧ ncs[i * 5 + 1]? = some (.string (mks nd.text)) ∧ ncs[i * 5 + 3]? = some vk ∧ ncs[i * 5 + 4]? = some vi ∧ (ncs.drop (i * 5)).take 5 = [.int .i64 nd.kind, .string (mks nd.text), .bool nd.ord, vk, vi] ∧ BRow w B lab (2 * i + 2) vk nd.keys ∧ BRow w B lab (2 * i + 3) vi nd.items := by
 obtain ⟨vk, vi, e, h2, h3⟩ := h.nds i nd hi
 have g : ∀ r, r < 5 → ncs[i * 5 + r]? = ([.int .i64 nd.kind, .string (mks nd.text), .bool nd.ord, vk, vi] : List Value)[r]? := fun r hr => by
  rw [← e, List.getElem?_take, if_pos hr, List.getElem?_drop]
 exact ⟨vk, vi, g 0 (by decide), g 1 (by decide), g 3 (by decide), g 4 (by decide), e, h2, h3⟩
set_option maxRecDepth 20000 in
set_option maxHeartbeats 16000000 in
theorem key_cb {w : World} {B : Nat} {s : List Nat} {vn vs vh vm : Value} {ncs : List Value} {lab : Nat → Option Nat} {st : CSt} (hs : By s) (hl : s.length ≤ 65536) (hi : st.i ≤ s.length) (h : CM w B s vn vs vh vm ncs lab st) (x : CH) (n d : Nat) (hx : x.arg < 18446744073709551616) (hno : keyC s x n d st ≠ .no) (hw : LibH w B)
  (hm : st.nodes.length ≤ 4096) (hn : n < st.nodes.length) (hby : ∀ nd ∈ st.nodes, By nd.text) (hkl : (ndAt st.nodes n).keys.length ≤ 65536) (hks : ∀ z ∈ (ndAt st.nodes n).keys, ∃ k : Nat, z = (k : Int) ∧ k < st.nodes.length) :
  Calls Tryz.prog 77 #[.pointer (some ⟨B, 0, none⟩), headV x, .int .i64 (n : Int), .int .i64 (d : Int)] w (KeyP s x n d w B vn vs vh vm lab st) := by
 obtain ⟨hat, m, k, a⟩ := x
 have HX := Lib.hid (Arr.new w 76 [.int .i64 (hat : Int), .int .i64 (m : Int), .int .i64 (k : Int), .int .u64 (a : Int)])
 have HBd := Lib.hid ((Below.refl w.heap.size w).alloc (Nat.le_refl _) (.cells #[.int .i64 (hat : Int), .int .i64 (m : Int), .int .i64 (k : Int), .int .u64 (a : Int)] 76))
 have HF0 := Lib.hid ((HF.refl (B := B) (Nat.le_refl w.heap.size)).below HBd.out)
 have hBw := h.lt
 have hW := Lib.hid (h.below HBd.out)
 have HL := Lib.hid (hw.hf HF0.out)
 have HNO := Lib.hid hno
 have HBY := Lib.hid hby
 have HKL := Lib.hid hkl
 have HKS := Lib.hid hks
 have HM := Lib.hid hm
 have HN := Lib.hid hn
 have HAR := Lib.hid hx
 have H0 := Lib.hid (fun g (hg : CF B vn vs lab g) => show g < w.heap.size from by
  rcases hg with e | e | e | e
  ·rw [e]; exact h.lt
  ·exact (h.nod.lt g e).2
  ·exact (h.spn.lt g e).2
  ·exact (h.labB g e).2)
 clear h hw hno hby hkl hks hm hn hx
 go_enter Tryz.func77, Tryz.ntmps77
 go_upto_region 1 with (fail)
 generalize (w.alloc (.cells #[.int .i64 (hat : Int), .int .i64 (m : Int), .int .i64 (k : Int), .int .u64 (a : Int)] 76)) = W at *
 obtain ⟨gb, hgb⟩ : ∃ x, w.heap.size = x := ⟨_, rfl⟩
 have X0 : Hid (Arr W gb 76 [.int .i64 (hat : Int), .int .i64 (m : Int), .int .i64 (k : Int), .int .u64 (a : Int)]) := by rw [← hgb]; exact HX
 have HGB := Lib.hid hgb
 rw [hgb] at hBw ⊢
 clear HX hgb
 have x0 := X0.out.cell' (i := 0) rfl
 have x1 := X0.out.cell' (i := 1) rfl
 have x2 := X0.out.cell' (i := 2) rfl
 have x3 := X0.out.cell' (i := 3) rfl
 by_cases hc : m = 4 ∨ m = 5
 ·have hh := Lib.hid (show keyC s ⟨hat, m, k, a⟩ n d st = .err hat 16 by
   unfold keyC
   rw [if_pos (by rcases hc with h | h; exact .inl h; exact .inr (.inl h))])
  have hb4 : ((m : Int) == 4) = true ∨ (((m : Int) == 4) = false ∧ ((m : Int) == 5) = true) := by
   rcases hc with rfl | rfl
   ·exact .inl rfl
   ·exact .inr ⟨rfl, rfl⟩
  clear hc
  rcases hb4 with e4 | ⟨e4, e5⟩
  ·go_wp2
   go_ret
   exact KeyP.of_err hh.out rfl (PStep.of_below HBd.out)
  ·go_wp2
   go_ret
   exact KeyP.of_err hh.out rfl (PStep.of_below HBd.out)
 have e4 : ((m : Int) == 4) = false := by rw [beq_eq_false_iff_ne]; omega
 have e5 : ((m : Int) == 5) = false := by rw [beq_eq_false_iff_ne]; omega
 have hkc : keyC s ⟨hat, m, k, a⟩ n d st = if (CH.mk hat m k a).tag 28 = true ∨ (CH.mk hat m k a).tag 29 = true ∨ (CH.mk hat m k a).tag 1147 = true then .err hat 16 else keyC s ⟨hat, m, k, a⟩ n d st := by
  split
  ·rename_i h1
   unfold keyC
   rw [if_pos (.inr (.inr h1))]
  ·rfl
 have HKC := Lib.hid hkc
 have D28 := Lib.hid (is_cb ⟨hat, m, k, a⟩ 28)
 have D29 := Lib.hid (is_cb ⟨hat, m, k, a⟩ 29)
 have D47 := Lib.hid (is_cb ⟨hat, m, k, a⟩ 1147)
 obtain ⟨b28, h28⟩ : ∃ b, (CH.mk hat m k a).tag 28 = b := ⟨_, rfl⟩
 obtain ⟨b29, h29⟩ : ∃ b, (CH.mk hat m k a).tag 29 = b := ⟨_, rfl⟩
 obtain ⟨b47, h47⟩ : ∃ b, (CH.mk hat m k a).tag 1147 = b := ⟨_, rfl⟩
 rw [h28] at D28 HKC
 rw [h29] at D29 HKC
 rw [h47] at D47 HKC
 have H28 := Lib.hid h28
 have H29 := Lib.hid h29
 have H47 := Lib.hid h47
 clear h28 h29 h47 hkc
 have c28 : ((28 : Nat) : Int) = 28 := rfl
 have c29 : ((29 : Nat) : Int) = 29 := rfl
 have c47 : ((1147 : Nat) : Int) = 1147 := rfl
 rw [c28] at D28
 rw [c29] at D29
 rw [c47] at D47
 clear c28 c29 c47
 cases b28
 ·cases b29
  ·cases b47
   ·go_upto_region 3 with (go_at_call 39; (first | ((with_reducible refine (D28.out _).mono ?_); rintro e w4 ⟨rfl, hb4⟩; have X4 := Lib.hid (X0.out.keep hb4); have y0 := X4.out.cell' (i := 0) rfl; have y1 := X4.out.cell' (i := 1) rfl; have y2 := X4.out.cell' (i := 2) rfl; have y3 := X4.out.cell' (i := 3) rfl) | ((with_reducible refine (D29.out _).mono ?_); rintro e w5 ⟨rfl, hb5⟩; have X5 := Lib.hid (X4.out.keep hb5); have z0 := X5.out.cell' (i := 0) rfl; have z1 := X5.out.cell' (i := 1) rfl; have z2 := X5.out.cell' (i := 2) rfl; have z3 := X5.out.cell' (i := 3) rfl) | ((with_reducible refine (D47.out _).mono ?_); rintro e w6 ⟨rfl, hb6⟩; have X6 := Lib.hid (X5.out.keep hb6); have v0 := X6.out.cell' (i := 0) rfl; have v1 := X6.out.cell' (i := 1) rfl; have v2 := X6.out.cell' (i := 2) rfl; have v3 := X6.out.cell' (i := 3) rfl)))
    have HB6 := Lib.hid ((HBd.out.trans (hb4.mono HBd.out.size)).trans ((hb5.mono (Nat.le_trans HBd.out.size hb4.size)).trans (hb6.mono (Nat.le_trans (Nat.le_trans HBd.out.size hb4.size) hb5.size))))
    have C6 := Lib.hid (((hW.out.below hb4).below hb5).below hb6)
    have F6 := Lib.hid (((HF0.out.below hb4).below hb5).below hb6)
    have L6 := Lib.hid (((HL.out.hf ((HF.refl (Nat.le_refl _)).below hb4)).hf ((HF.refl (Nat.le_refl _)).below hb5)).hf ((HF.refl (Nat.le_refl _)).below hb6))
    clear hb4 hb5 hb6 x0 x1 x2 x3 y0 y1 y2 y3 z0 z1 z2 z3 X0 X4 X5 D28 D29 D47 hW HL HF0 HBd HKC
    have hsc : keyC s ⟨hat, m, k, a⟩ n d st = (scalarC s ⟨hat, m, k, a⟩ st.i).bind fun (x, i1) =>
      (addC { st with i := i1 } x hat d).bind fun (k, st1) =>
       if hitC st1.nodes x.kind x.text (ndAt st1.nodes n).keys = true then .err hat 8
       else .ok { st1 with nodes := st1.nodes.set n { ndAt st1.nodes n with keys := (ndAt st1.nodes n).keys ++ [(k : Int)] } } := by
     unfold keyC
     rw [if_neg (by rw [H28.out, H29.out, H47.out]; rw [beq_eq_false_iff_ne] at e4 e5; simp; omega)]
     rfl
    have HSC := Lib.hid hsc
    clear hsc e4 e5 H28 H29 H47
    have hscn : scalarC s ⟨hat, m, k, a⟩ st.i ≠ .no := fun e => HNO.out (by rw [HSC.out, e]; rfl)
    have D := Lib.hid (scalar_cb hs hl hi HAR.out hscn w6 L6.out C6.out.par)
    unfold ScP at D
    cases hq : scalarC s ⟨hat, m, k, a⟩ st.i with
    | no => exact absurd hq hscn
    | err b c =>
     rw [hq] at D
     have hh := Lib.hid (show keyC s ⟨hat, m, k, a⟩ n d st = .err b c by rw [HSC.out, hq]; rfl)
     clear hq hscn HSC
     go_upto_region 4 with (go_at_call 53; ((with_reducible refine D.out.mono ?_)); rintro e w7 ⟨⟨nk, rfl⟩, j, hk⟩)
     have S8 := Lib.hid ((C6.out.atw hk).2.trans (PStep.of_below (F := CF B vn vs lab) ((Below.refl w7.heap.size w7).alloc (Nat.le_refl _) (.cells #[.int .i64 nk, .string (mks []), .bool false, .slice none 0 0, .slice none 0 0] 60))))
     go_wp2
     go_ret
     exact KeyP.of_err hh.out rfl ((PStep.of_below HB6.out).trans S8.out)
    | ok p =>
     obtain ⟨⟨nk, nt, no, nks, nis⟩, j⟩ := p
     rw [hq] at D
     go_upto_region 4 with (go_at_call 53; ((with_reducible refine D.out.mono ?_)); rintro e w7 ⟨rfl, hk⟩)
     have HBT := Lib.hid (show By nt from scal_by hs hq)
     have hlf := scal_leaf hq
     obtain ⟨l1, l2, l3⟩ := hlf
     have l1' : no = false := l1
     have l2' : nks = [] := l2
     have l3' : nis = [] := l3
     subst l1' l2' l3'
     clear l1 l2 l3
     have C8 := Lib.hid ((C6.out.atw hk).1.below ((Below.refl w7.heap.size w7).alloc (Nat.le_refl _) (.cells #[.int .i64 nk, .string (mks nt), .bool false, .slice none 0 0, .slice none 0 0] 60)))
     have S8 := Lib.hid ((PStep.of_below HB6.out).trans ((C6.out.atw hk).2.trans (PStep.of_below (F := CF B vn vs lab) ((Below.refl w7.heap.size w7).alloc (Nat.le_refl _) (.cells #[.int .i64 nk, .string (mks nt), .bool false, .slice none 0 0, .slice none 0 0] 60)))))
     have X8 : Hid (Arr (w7.alloc (.cells #[.int .i64 nk, .string (mks nt), .bool false, .slice none 0 0, .slice none 0 0] 60)) gb 76 [.int .i64 (hat : Int), .int .i64 (m : Int), .int .i64 (k : Int), .int .u64 (a : Int)]) := Arr.alloc ((hk.hf.keep gb X6.out.lt (by omega)).trans X6.out) _
     have Y8 : Hid (Arr (w7.alloc (.cells #[.int .i64 nk, .string (mks nt), .bool false, .slice none 0 0, .slice none 0 0] 60)) w7.heap.size 60 [.int .i64 nk, .string (mks nt), .bool false, .slice none 0 0, .slice none 0 0]) := Arr.new w7 _ _
     have hsz7 := hk.size
     have hl6 := X6.out.lt
     obtain ⟨g8, hg8⟩ : ∃ x, w7.heap.size = x := ⟨_, rfl⟩
     rw [hg8] at Y8 ⊢
     generalize (w7.alloc (.cells #[.int .i64 nk, .string (mks nt), .bool false, .slice none 0 0, .slice none 0 0] 60)) = W8 at *
     have hg8' : B < g8 := by omega
     have hg88 : gb < g8 := by omega
     clear hk D C6 HB6 F6 L6 X6 hsz7 hl6 hg8
     have D9 := Lib.hid (add_cb C8.out (show st.nodes.length ≤ 100000 by have := HM.out; omega) nk nt hat d)
     have x0 := X8.out.cell' (i := 0) rfl
     have y0 := Y8.out.cell' (i := 0) rfl
     have y1 := Y8.out.cell' (i := 1) rfl
     have y2 := Y8.out.cell' (i := 2) rfl
     have y3 := Y8.out.cell' (i := 3) rfl
     have y4 := Y8.out.cell' (i := 4) rfl
     unfold AddP at D9
     cases hA : addC { st with i := j } ⟨nk, nt, false, [], []⟩ hat d with
     | no =>
      unfold addC at hA
      split at hA
      ·cases hA
      split at hA <;> cases hA
     | err b c =>
      rw [hA] at D9
      have hh := Lib.hid (show keyC s ⟨hat, m, k, a⟩ n d st = .err b c by rw [HSC.out, hq]; show (addC { st with i := j } ⟨nk, nt, false, [], []⟩ hat d).bind _ = _; rw [hA]; rfl)
      clear hA hq HSC hscn
      go_upto_region 7 with (go_at_call 54; ((with_reducible refine D9.out.mono ?_)); rintro e w9 ⟨rfl, hb9⟩)
      go_wp2
      go_ret
      exact KeyP.of_err hh.out rfl (S8.out.trans (PStep.of_below hb9))
     | ok p =>
      obtain ⟨kk, st9⟩ := p
      rw [hA] at D9
      go_upto_region 7 with (go_at_call 54; ((with_reducible refine D9.out.mono ?_)); rintro e w9 ⟨rfl, vn9, ncs9, C9, S9⟩)
      have hkk : kk = st.nodes.length ∧ st9 = { st with i := j, nodes := st.nodes ++ [⟨nk, nt, false, [], []⟩] } := by
       unfold addC at hA
       split at hA
       ·cases hA
       split at hA
       ·cases hA
       ·cases hA; exact ⟨rfl, rfl⟩
      have hh := Lib.hid (show keyC s ⟨hat, m, k, a⟩ n d st = if hitC st9.nodes nk nt (ndAt st9.nodes n).keys = true then .err hat 8 else .ok { st9 with nodes := st9.nodes.set n { ndAt st9.nodes n with keys := (ndAt st9.nodes n).keys ++ [(kk : Int)] } } by
       rw [HSC.out, hq]
       show (addC { st with i := j } ⟨nk, nt, false, [], []⟩ hat d).bind _ = _
       rw [hA]
       rfl)
      clear hA hq HSC hscn D9
      have C9' := Lib.hid C9
      have S9' := Lib.hid (S8.out.trans S9)
      clear C9 S8
      have hbt : By nt := HBT.out
      obtain ⟨hk1, hk2⟩ := hkk
      have hl9 : st9.nodes.length = st.nodes.length + 1 := by rw [hk2]; simp
      have hnd : ∀ q, q < st.nodes.length → ndAt st9.nodes q = ndAt st.nodes q := fun q hq => by
       have h1 := ndAt_get (nodes := st9.nodes) (i := q) (by omega)
       have h2 := ndAt_get hq
       rw [hk2] at h1
       rw [show ({ st with i := j, nodes := st.nodes ++ [⟨nk, nt, false, [], []⟩] } : CSt).nodes = st.nodes ++ [⟨nk, nt, false, [], []⟩] from rfl, List.getElem?_append_left hq, h2] at h1
       rw [hk2]
       exact (Option.some.inj h1).symm
      have hN' := HN.out
      have hM' := HM.out
      obtain ⟨g9, c9, hv9, _, _⟩ := own_some C9'.out.nod (by omega)
      subst hv9
      have hkeys9 : (ndAt st9.nodes n).keys = (ndAt st.nodes n).keys := by rw [hnd n hN']
      obtain ⟨vk, vi, q0, q1, q3, q4, qc, hrk, hri⟩ := C9'.out.nodeCells (ndAt_get (nodes := st9.nodes) (i := n) (by omega))
      have hLn : (n : Int) < st9.nodes.length := by omega
      have hLm : (st9.nodes.length : Int) ≤ 100000 := by omega
      have hn0 : (0 : Int) ≤ n := by omega
      have c4 := C9'.out.par.cell' (i := 4) rfl
      have C10 := Lib.hid (C9'.out.below ((Below.refl w9.heap.size w9).alloc (Nat.le_refl _) (.cells #[.slice (some ⟨g9, 0, none⟩) st9.nodes.length c9] 24)))
      have hz8 := X8.out.lt
      have hw8 : W8.heap.size ≤ w9.heap.size := S9.size
      have hY8 := Y8.out.lt
      have X9 : Hid (Arr w9 gb 76 [.int .i64 (hat : Int), .int .i64 (m : Int), .int .i64 (k : Int), .int .u64 (a : Int)]) := (S9.keep gb hz8 (fun h => by have := H0.out gb h; rw [HGB.out] at this; omega)).trans X8.out
      have Y9 : Hid (Arr w9 g8 60 [.int .i64 nk, .string (mks nt), .bool false, .slice none 0 0, .slice none 0 0]) := (S9.keep g8 hY8 (fun h => by have := H0.out g8 h; rw [HGB.out] at this; omega)).trans Y8.out
      obtain ⟨K, ck, hvk, _, _, _, hrd, _⟩ := own_rd hrk.1
      subst hvk
      have hks9 : ∀ z ∈ (ndAt st9.nodes n).keys, ∃ k : Nat, z = (k : Int) ∧ k < st9.nodes.length ∧ By (ndAt st9.nodes k).text ∧ ncs9[k * 5]? = some (.int .i64 (ndAt st9.nodes k).kind) ∧ ncs9[k * 5 + 1]? = some (.string (mks (ndAt st9.nodes k).text)) := fun z hz => by
       rw [hkeys9] at hz
       obtain ⟨q, hq1, hq2⟩ := HKS.out z hz
       obtain ⟨_, _, r0, r1, _⟩ := C9'.out.nodeCells (ndAt_get (nodes := st9.nodes) (i := q) (by omega))
       refine ⟨q, hq1, by omega, ?_, r0, r1⟩
       rw [hnd q hq2]
       exact HBY.out _ (List.mem_of_getElem? (ndAt_get hq2))
      have hbX := (Below.refl w9.heap.size w9).alloc (Nat.le_refl _) (.cells #[.slice (some ⟨g9, 0, none⟩) st9.nodes.length c9] 24)
      have Z10 : Hid (Arr (w9.alloc (.cells #[.slice (some ⟨g9, 0, none⟩) st9.nodes.length c9] 24)) w9.heap.size 24 [.slice (some ⟨g9, 0, none⟩) st9.nodes.length c9]) := Arr.new w9 _ _
      have DC := Lib.hid (contains_cb (ck := ck) _ C10.out.nod Z10.out (Y9.out.keep hbX) hbt (by omega) (by rw [hkeys9]; exact HKL.out) (hrd.keep hbX) hks9)
      have p3 := (own_cell1 C10.out.nod q3).1
      have b0 := Z10.out.cell' (i := 0) rfl
      have t0 := (X9.out.keep hbX).cell' (i := 0) rfl
      have hkeysH := Lib.hid hkeys9
      clear hl9 hk1 hk2 hnd hkeys9 hks9
      go_upto_region 10 with (fail)
      obtain ⟨V, hV⟩ : ∃ V, hitC st9.nodes nk nt (ndAt st9.nodes n).keys = V := ⟨_, rfl⟩
      rw [hV] at DC hh
      clear hV
      cases V
      ·have hh2 := Lib.hid (hh.out.trans (if_neg (by decide)))
       clear hh
       go_upto_region 12 with (go_at_call 23; ((with_reducible refine DC.out.mono ?_)); rintro e w11 ⟨rfl, hb11⟩)
       have hndN := Lib.hid (ndAt_get (nodes := st9.nodes) (i := n) (by omega))
       have C11 := Lib.hid (C10.out.below hb11)
       have Z11 := Lib.hid (Z10.out.keep hb11)
       have hrk11 := Lib.hid ((hrk.below hbX).below hb11)
       have hri11 := Lib.hid ((hri.below hbX).below hb11)
       have S11 := Lib.hid ((S9'.out.trans (PStep.of_below hbX)).trans (PStep.of_below hb11))
       have QC := Lib.hid qc
       have Q3 := Lib.hid q3
       have HKL2 : Hid ((ndAt st9.nodes n).keys.length ≤ 65536) := by show _ ≤ _; rw [hkeysH.out]; exact HKL.out
       have hBw11 : B < w11.heap.size := C11.out.lt
       obtain ⟨gx, hgx⟩ : ∃ x, w9.heap.size = x := ⟨_, rfl⟩
       rw [hgx] at Z11
       rw [hgx]
       have hgx9 : gx ≠ g9 := by
        have h1 := (C9'.out.nod.lt g9 rfl).2
        omega
       clear hb11 DC b0 t0 p3 c4 hrk hri qc q0 q1 q3 q4 hrd hbX X9 Y9 C9' C10 Z10 S9' S9 X8 Y8 hz8 hw8 hY8 x0 y0 y1 y2 y3 y4 hgx
       have b11 : w11.cell? ⟨gx, 0, none⟩ = some (.slice (some ⟨g9, 0, none⟩) st9.nodes.length c9) := Z11.out.cell' (i := 0) rfl
       have p11 := (own_cell1 C11.out.nod Q3.out).1
       have C11a := C11.out.below ((Below.refl _ _).alloc (Nat.le_refl _) (.cells #[.int .i64 (kk : Int)] 3))
       have d11 : (w11.alloc (.cells #[.int .i64 (kk : Int)] 3)).cell? ⟨g9, n * 5 + 3, none⟩ = some (.slice K (ndAt st9.nodes n).keys.length ck) := (own_cell1 C11a.nod Q3.out).1
       clear C11a
       have hk2d : w11.drew.ownsRow B 3 1 (.slice K (ndAt st9.nodes n).keys.length ck) (ndAt st9.nodes n).keys.length (I64 (ndAt st9.nodes n).keys) := hrk11.out.1
       have Zd : Arr w11.drew gx 24 [.slice (some ⟨g9, 0, none⟩) st9.nodes.length c9] := Z11.out
       have hkl2 := HKL2.out
       rw [cload_eq 44 (.tmp 80)]
       go_region_held3 (fun w' => w'.cell? ⟨gx, 0, none⟩ = some (.slice (some ⟨g9, 0, none⟩) st9.nodes.length c9)) (first | assumption | go_keep) (first | (refine step_apS rfl (.tmp 81) (.tmp 83) 44 rfl B 3 _ 1 _ Tryz.underlying44 Tryz.info3 rfl (by decide) _ (ndAt st9.nodes n).keys.length (I64 (ndAt st9.nodes n).keys) rfl (hk2d.alloc _) ⟨w11.heap.size, 0, none⟩ _ [.int .i64 (kk : Int)] rfl rfl (cells_new _ _ _) rfl (by unfold maxLen; omega) (by omega) (by simp; omega) ?_; intro v3 w3 hown3 hgr3 hat3; obtain ⟨A3, c3, rfl, hc3, hm3⟩ := own_slice hown3; obtain ⟨P3, N3, h12, hP12⟩ := C11.out.drew.addKeys hndN.out QC.out (hrk11.out.below (Below.drew (Below.refl _ _))) (hri11.out.below (Below.drew (Below.refl _ _))) rfl (kk : Int) _ hown3 hgr3 hat3; have z3 := (arr_grew Zd hk2d (by decide) hgr3).cell' (i := 0) rfl; have i3 := (own_cell1 N3 Q3.out).1; have q3 := (own_cell1 N3 Q3.out).2; have z4 : (w3.setCell ⟨g9, n * 5 + 3, none⟩ (.slice A3 ((ndAt st9.nodes n).keys.length + 1) c3)).cell? ⟨gx, 0, none⟩ = some (.slice (some ⟨g9, 0, none⟩) st9.nodes.length c9) := ((arr_grew Zd hk2d (by decide) hgr3).far (p := ⟨g9, n * 5 + 3, none⟩) hgx9 _).cell' (i := 0) rfl; clear hgr3 hat3 hown3))
       all_goals
        have H12 := Lib.hid h12
        have HP12 := Lib.hid (S11.out.trans ((PStep.of_below (Below.drew (Below.refl _ _))).trans hP12))
        clear h12 hP12
       all_goals
        go_wp2_with (fail)
        go_ret
        exact KeyP.of_ok hh2.out rfl H12.out HP12.out
      ·have hh2 := Lib.hid (hh.out.trans (if_pos rfl))
       clear hh
       go_wp2_with (go_at_call 23; ((with_reducible refine DC.out.mono ?_)); rintro e w11 ⟨rfl, hb11⟩; have u0 := ((X9.out.keep hbX).keep hb11).cell' (i := 0) rfl)
       go_ret
       exact KeyP.of_err hh2.out rfl ((S9'.out.trans (PStep.of_below hbX)).trans (PStep.of_below hb11))
   ·have hh := Lib.hid (show keyC s ⟨hat, m, k, a⟩ n d st = .err hat 16 by rw [HKC.out, if_pos (.inr (.inr rfl))])
    clear HKC
    go_wp2_with (go_at_call 39; (first | ((with_reducible refine (D28.out _).mono ?_); rintro e w4 ⟨rfl, hb4⟩; have X4 := Lib.hid (X0.out.keep hb4); have y0 := X4.out.cell' (i := 0) rfl; have y1 := X4.out.cell' (i := 1) rfl; have y2 := X4.out.cell' (i := 2) rfl; have y3 := X4.out.cell' (i := 3) rfl) | ((with_reducible refine (D29.out _).mono ?_); rintro e w5 ⟨rfl, hb5⟩; have X5 := Lib.hid (X4.out.keep hb5); have z0 := X5.out.cell' (i := 0) rfl; have z1 := X5.out.cell' (i := 1) rfl; have z2 := X5.out.cell' (i := 2) rfl; have z3 := X5.out.cell' (i := 3) rfl) | ((with_reducible refine (D47.out _).mono ?_); rintro e w6 ⟨rfl, hb6⟩; have X6 := Lib.hid (X5.out.keep hb6); have v0 := X6.out.cell' (i := 0) rfl; have v1 := X6.out.cell' (i := 1) rfl; have v2 := X6.out.cell' (i := 2) rfl; have v3 := X6.out.cell' (i := 3) rfl)))
    go_ret
    exact KeyP.of_err hh.out rfl (PStep.of_below ((HBd.out.trans (hb4.mono HBd.out.size)).trans ((hb5.mono (Nat.le_trans HBd.out.size hb4.size)).trans (hb6.mono (Nat.le_trans (Nat.le_trans HBd.out.size hb4.size) hb5.size)))))
  ·have hh := Lib.hid (show keyC s ⟨hat, m, k, a⟩ n d st = .err hat 16 by rw [HKC.out, if_pos (.inr (.inl rfl))])
   clear HKC
   go_wp2_with (go_at_call 39; (first | ((with_reducible refine (D28.out _).mono ?_); rintro e w4 ⟨rfl, hb4⟩; have X4 := Lib.hid (X0.out.keep hb4); have y0 := X4.out.cell' (i := 0) rfl; have y1 := X4.out.cell' (i := 1) rfl; have y2 := X4.out.cell' (i := 2) rfl; have y3 := X4.out.cell' (i := 3) rfl) | ((with_reducible refine (D29.out _).mono ?_); rintro e w5 ⟨rfl, hb5⟩; have X5 := Lib.hid (X4.out.keep hb5); have z0 := X5.out.cell' (i := 0) rfl; have z1 := X5.out.cell' (i := 1) rfl; have z2 := X5.out.cell' (i := 2) rfl; have z3 := X5.out.cell' (i := 3) rfl)))
   go_ret
   exact KeyP.of_err hh.out rfl (PStep.of_below ((HBd.out.trans (hb4.mono HBd.out.size)).trans (hb5.mono (Nat.le_trans HBd.out.size hb4.size))))
 ·have hh := Lib.hid (show keyC s ⟨hat, m, k, a⟩ n d st = .err hat 16 by rw [HKC.out, if_pos (.inl rfl)])
  clear HKC
  go_wp2_with (go_at_call 39; ((with_reducible refine (D28.out _).mono ?_)); rintro e w4 ⟨rfl, hb4⟩; have X4 := Lib.hid (X0.out.keep hb4); have y0 := X4.out.cell' (i := 0) rfl)
  go_ret
  exact KeyP.of_err hh.out rfl (PStep.of_below (HBd.out.trans (hb4.mono (HBd.out.size))))
end Go.Proofs.YtbhigefbihpnlaaGreatDoor
