/- Plain laws: what the scanner reads in a text of nested lists and maps around an inner text. No program is mentioned here. -/
import Derived.Test.YtimanbbdfbloeaaGreatDoorMO
import Derived.Test.YtimanbbdfbloeaaGreatDoorMGh
import Derived.Test.YtimanbbdfbloeaaGreatDoorMGg
import Derived.Test.YtimanbbdfbloeaaGreatDoorMGj
set_option linter.unusedVariables false
set_option linter.unusedSimpArgs false
set_option linter.defProp false
set_option linter.constructorNameAsVariable false
namespace Go.Proofs.YtimanbbdfbloeaaGreatDoor
open Go.RowKit
theorem idxB_nl {c : Nat} {r : List Nat} (y : List Nat) (h : idxB c r = none) : idxB c (r ++ c :: y) = some r.length := by
 induction r with
 | nil => simp [idxB]
 | cons x r ih =>
  rw [idxB] at h
  by_cases hx : x = c
  ·rw [if_pos hx] at h; cases h
  ·rw [if_neg hx] at h
   have h' : idxB c r = none := by cases e : idxB c r with | none => rfl | some k => rw [e] at h; cases h
   rw [List.cons_append, idxB, if_neg hx, ih h']
   rfl
theorem commV_nl {r : List Nat} (y : List Nat) (h : 0 < commV r) : commV (r ++ 10 :: y) = commV r := by
 have h2 := commV_ge h
 have hb := (commV_bd r).2
 have hr : 2 ≤ r.length := by omega
 unfold commV at h hb ⊢
 rw [hasP2_app (10 :: y) hr, hasP2_app (10 :: y) hr]
 by_cases h1 : hasP [47, 47] r = true
 ·rw [if_pos h1] at h hb ⊢
  rw [if_pos h1]
  cases hi : idxB 10 r with
  | none =>
   rw [idxB_nl y hi]
  | some n =>
   have hn := (idxB_at hi).1
   rw [idxB_app (r := r) (x := []) (10 :: y) (by rw [List.append_nil]; exact hi) hn]
 ·rw [if_neg h1] at h hb ⊢
  rw [if_neg h1]
  by_cases h3 : hasP [47, 42] r = true
  ·rw [if_pos h3] at h hb ⊢
   rw [if_pos h3]
   rw [List.drop_append_of_le_length hr]
   cases hi : idxP 42 47 (r.drop 2) with
   | none => rw [hi] at h; simp at h
   | some n =>
    rw [hi] at hb
    rw [idxP_app (r := r.drop 2) (x := []) (10 :: y) (by rw [List.append_nil]; exact hi) (by rw [List.length_drop]; simp only at hb; omega)]
  ·rw [if_neg h3] at h; simp at h
def shT (d : Nat) (t : JTok) : JTok := { t with from_ := t.from_ + d, to_ := t.to_ + d }
def tkL (o : Option (Nat × List Nat)) (a k : Nat) : List JTok := match o with | none => [] | some p => [⟨p.1, a, a + k, p.2⟩]
def ntL (o : Option (List Nat)) (a k : Nat) : List JNote := match o with | none => [] | some p => [⟨a, a + k, p⟩]
theorem step_nl {r : List Nat} (hne : r ≠ []) (y : List Nat) {f a : Nat} {ts : List JTok} {ns : List JNote} (h : (scanG (f + 1) a r ts ns).err = 0) :
  ∃ (k : Nat) (tk : Option (Nat × List Nat)) (nt : Option (List Nat)), 1 ≤ k ∧ k ≤ r.length ∧
   (∀ f a ts ns, scanG (f + 1) a r ts ns = scanG f (a + k) (r.drop k) (ts ++ tkL tk a k) (ns ++ ntL nt a k)) ∧
   (∀ f a ts ns, scanG (f + 1) a (r ++ 10 :: y) ts ns = scanG f (a + k) (r.drop k ++ 10 :: y) (ts ++ tkL tk a k) (ns ++ ntL nt a k)) := by
 have hp : 0 < r.length := List.length_pos_iff.2 hne
 have hne2 : r ++ 10 :: y ≠ [] := by simp
 have h0 : (r ++ 10 :: y).getD 0 0 = r.getD 0 0 := getD_app (10 :: y) hne
 by_cases hb : isBlank (r.getD 0 0) = true
 ·refine ⟨1, none, none, Nat.le_refl _, hp, fun f a ts ns => by rw [scanG_blank hne hb]; simp [tkL, ntL], fun f a ts ns => ?_⟩
  rw [scanG_blank hne2 (by rw [h0]; exact hb), List.drop_append_of_le_length hp]
  simp [tkL, ntL]
 ·by_cases hc : commV r < 0
  ·rw [scanG_open hne hb hc] at h; simp at h
  ·by_cases hc2 : 0 < commV r
   ·have hbd := (commV_bd r).2
    have hk : (commV r).toNat ≤ r.length := by omega
    have e := commV_nl y hc2
    refine ⟨(commV r).toNat, none, some (r.take (commV r).toNat), by omega, by omega, fun f a ts ns => by rw [scanG_note hne hb hc2]; simp [tkL, ntL], fun f a ts ns => ?_⟩
    rw [scanG_note hne2 (by rw [h0]; exact hb) (by rw [e]; exact hc2), e, List.drop_append_of_le_length hk, List.take_append_of_le_length hk]
    simp [tkL, ntL]
   ·have hc3 : commV r = 0 := by omega
    have ht := tokV_bd r hne
    by_cases h3 : (tokV r).2 = 0
    ·have e : tokV (r ++ 10 :: y) = tokV r := by
      have := tokV_local (r := r) (x := []) (y := 10 :: y) hne (by decide) (by show 10 < 128; decide) (by show (letB 10 || numB 10) = false; decide) (by rw [List.append_nil]; exact h3) (by rw [List.append_nil]; exact ht.1)
      rw [List.append_nil] at this
      exact this
     have hs := tokB_bd (tokV_start h3)
     refine ⟨(tokV r).1.to_, some ((tokV r).1.kind, (tokV r).1.text), none, ht.2.1 h3, ht.1, fun f a ts ns => by rw [scanG_tok hne hb hc3 h3]; simp [tkL, ntL], fun f a ts ns => ?_⟩
     rw [scanG_tok hne2 (by rw [h0]; exact hb) (commV_no (by rw [h0]; exact hs.2.2.1)) (by rw [e]; exact h3), e, List.drop_append_of_le_length ht.1]
     simp [tkL, ntL]
    ·rw [scanG_bad hne hb hc3 h3] at h
     exact absurd h h3
theorem shT_tkL (o : Option (Nat × List Nat)) (a k d : Nat) : (tkL o a k).map (shT d) = tkL o (a + d) k := by
 cases o with
 | none => rfl
 | some p => simp [tkL, shT]; omega
theorem scan_nl (y : List Nat) : ∀ (f a : Nat) (r : List Nat) (ts : List JTok) (ns : List JNote), (scanG f a r ts ns).err = 0 → r.length ≤ f →
  ∃ more : List JTok, (∃ mn, scanG f a r ts ns = ⟨ts ++ more, mn, 0, 0⟩) ∧ (∀ t ∈ more, a ≤ t.from_ ∧ t.from_ < a + r.length) ∧
   ∀ g d ts' ns', (r ++ 10 :: y).length ≤ g → ∃ g' ns2, y.length ≤ g' ∧ scanG g (a + d) (r ++ 10 :: y) ts' ns' = scanG g' (a + d + r.length + 1) y (ts' ++ more.map (shT d)) ns2 := by
 have base : ∀ (a : Nat) (g d : Nat) (ts' : List JTok) (ns' : List JNote), (([] : List Nat) ++ 10 :: y).length ≤ g → ∃ g' ns2, y.length ≤ g' ∧ scanG g (a + d) (([] : List Nat) ++ 10 :: y) ts' ns' = scanG g' (a + d + ([] : List Nat).length + 1) y (ts' ++ ([] : List JTok).map (shT d)) ns2 := by
  intro a g d ts' ns' hg
  simp only [List.nil_append, List.length_cons] at hg
  obtain ⟨g, rfl⟩ : ∃ g', g = g' + 1 := ⟨g - 1, by omega⟩
  refine ⟨g, ns', by omega, ?_⟩
  rw [List.nil_append, scanG_blank (by simp) (by rfl)]
  simp
 intro f
 induction f with
 | zero =>
  intro a r ts ns h hl
  have : r = [] := List.eq_nil_of_length_eq_zero (by omega)
  subst this
  exact ⟨[], ⟨ns, by rw [scanG_end]; simp⟩, by simp, base a⟩
 | succ f ih =>
  intro a r ts ns h hl
  by_cases hne : r = []
  ·subst hne
   exact ⟨[], ⟨ns, by rw [scanG_end]; simp⟩, by simp, base a⟩
  ·obtain ⟨k, tk, nt, hk1, hk2, e1, e2⟩ := step_nl hne y h
   rw [e1] at h
   obtain ⟨more, ⟨mn, m1⟩, m2, m3⟩ := ih _ _ _ _ h (by rw [List.length_drop]; omega)
   refine ⟨tkL tk a k ++ more, ⟨mn, by rw [e1, m1, List.append_assoc]⟩, fun t ht => ?_, fun g d ts' ns' hg => ?_⟩
   ·rcases List.mem_append.1 ht with h1 | h1
    ·cases tk with
     | none => simp [tkL] at h1
     | some p => simp [tkL] at h1; subst h1; exact ⟨Nat.le_refl _, by simp only; have := List.length_pos_iff.2 hne; omega⟩
    ·have := m2 t h1
     rw [List.length_drop] at this
     omega
   ·have hlen : (r ++ 10 :: y).length = r.length + y.length + 1 := by simp; omega
    obtain ⟨g, rfl⟩ : ∃ g', g = g' + 1 := ⟨g - 1, by omega⟩
    obtain ⟨g', ns2, q1, q2⟩ := m3 g d (ts' ++ tkL tk (a + d) k) (ns' ++ ntL nt (a + d) k) (by simp [List.length_drop]; omega)
    refine ⟨g', ns2, q1, ?_⟩
    rw [e2, show a + d + k = a + k + d by omega, q2, List.length_drop, List.map_append, shT_tkL, List.append_assoc, show a + k + d + (r.length - k) + 1 = a + d + r.length + 1 by omega]
/-! ### The brackets -/
def openL : Bool → List Nat | true => [123, 34, 107, 34, 58] | false => [91]
def preL (sh : List Bool) : List Nat := sh.flatMap openL
def closeL : Bool → Nat | true => 125 | false => 93
def endL (sh : List Bool) : List Nat := (sh.map closeL).reverse
def openT (a : Nat) : Bool → List JTok | true => [⟨1, a, a + 1, [123]⟩, ⟨2, a + 1, a + 4, [107]⟩, ⟨1, a + 4, a + 5, [58]⟩] | false => [⟨1, a, a + 1, [91]⟩]
def preT : Nat → List Bool → List JTok | _, [] => [] | a, b :: sh => openT a b ++ preT (a + (openL b).length) sh
def endT : Nat → List Nat → List JTok | _, [] => [] | a, c :: cs => ⟨1, a, a + 1, [c]⟩ :: endT (a + 1) cs
theorem scan_punct {c : Nat} (hc : isPunct c = true) (f a : Nat) (l : List Nat) (ts : List JTok) (ns : List JNote) : scanG (f + 1) a (c :: l) ts ns = scanG f (a + 1) l (ts ++ [⟨1, a, a + 1, [c]⟩]) ns := by
 have ht : tokV (c :: l) = (⟨1, 0, 1, [c]⟩, 0) := by
  unfold tokV
  have : (c :: l).getD 0 0 = c := rfl
  rw [this, if_pos hc]
  rfl
 have hb := tokB_bd (c := c) (by unfold tokB; rw [hc]; rfl)
 rw [scanG_tok (by simp) (by show ¬ isBlank c = true; rw [hb.2.2.2]; simp) (commV_no (by exact hb.2.2.1)) (by rw [ht]), ht]
 rfl
theorem decL_ascii {c : Nat} {l : List Nat} (hc : c < 128) : decL (c :: l) = (c, 1) := by
 rw [decL_N]
 have : (c :: l).getD 0 0 % 256 = c := by show c % 256 = c; omega
 rw [this, Lib.decodeN_ascii _ _ _ _ _ hc]
theorem quot_k (l : List Nat) : quotV (34 :: 107 :: 34 :: l) = ([107], 3, 0) := by
 unfold quotV
 show quotG (l.length + 3) _ 0 1 [] = _
 rw [quotG, if_neg (by simp), if_pos (by omega), decL_ascii (by omega)]
 show quotG (l.length + 2) (107 :: 34 :: l) 1 1 [] = _
 rw [quotG, if_neg (by simp), if_neg (by omega), decL_ascii (by omega)]
 simp only
 rw [if_neg (by omega), if_neg (by omega), if_neg (by omega)]
 have e1 : ([] : List Nat) ++ encL ((107 : Nat) : Int) = [107] := by decide
 have e2 : 1 + (Lib.runeLen ((107 : Nat) : Int)).toNat = 2 := by decide
 rw [e1, e2]
 show quotG (l.length + 1) (34 :: l) 2 2 [107] = _
 rw [quotG, if_neg (by simp), if_neg (by omega), decL_ascii (by omega)]
 simp
theorem scan_key (f a : Nat) (l : List Nat) (ts : List JTok) (ns : List JNote) : scanG (f + 1) a (34 :: 107 :: 34 :: l) ts ns = scanG f (a + 3) l (ts ++ [⟨2, a, a + 3, [107]⟩]) ns := by
 have ht : tokV (34 :: 107 :: 34 :: l) = (⟨2, 0, 3, [107]⟩, 0) := by
  unfold tokV
  rw [quot_k]
  rfl
 rw [scanG_tok (by simp) (by show ¬ isBlank 34 = true; decide) (commV_no (by show 34 ≠ 47; decide)) (by rw [ht]), ht]
 rfl
theorem scan_pre : ∀ (sh : List Bool) (f a : Nat) (y : List Nat) (ts : List JTok) (ns : List JNote), (preL sh ++ y).length ≤ f → ∃ f', y.length ≤ f' ∧ scanG f a (preL sh ++ y) ts ns = scanG f' (a + (preL sh).length) y (ts ++ preT a sh) ns := by
 intro sh
 induction sh with
 | nil => intro f a y ts ns h; exact ⟨f, h, by simp [preL, preT]⟩
 | cons b sh ih =>
  intro f a y ts ns h
  have e : preL (b :: sh) = openL b ++ preL sh := rfl
  rw [e] at h ⊢
  rw [List.append_assoc] at h ⊢
  cases b with
  | false =>
   simp only [openL, List.cons_append, List.nil_append, List.length_cons] at h ⊢
   obtain ⟨f, rfl⟩ : ∃ g, f = g + 1 := ⟨f - 1, by omega⟩
   obtain ⟨f', h1, h2⟩ := ih f (a + 1) y (ts ++ [⟨1, a, a + 1, [91]⟩]) ns (by omega)
   refine ⟨f', h1, ?_⟩
   rw [scan_punct (by decide), h2, List.append_assoc]
   have e3 : a + 1 + (preL sh).length = a + ((preL sh).length + 1) := by omega
   rw [e3]
   rfl
  | true =>
   simp only [openL, List.cons_append, List.nil_append, List.length_cons] at h ⊢
   obtain ⟨f, rfl⟩ : ∃ g, f = g + 3 := ⟨f - 3, by omega⟩
   obtain ⟨f', h1, h2⟩ := ih f (a + 5) y (ts ++ [⟨1, a, a + 1, [123]⟩] ++ [⟨2, a + 1, a + 4, [107]⟩] ++ [⟨1, a + 4, a + 5, [58]⟩]) ns (by omega)
   refine ⟨f', h1, ?_⟩
   rw [scan_punct (by decide), scan_key, scan_punct (by decide)]
   have e3 : a + 5 + (preL sh).length = a + ((preL sh).length + 1 + 1 + 1 + 1 + 1) := by omega
   rw [e3] at h2
   have e4 : a + 1 + 3 = a + 4 := by omega
   have e5 : a + 4 + 1 = a + 5 := by omega
   rw [e4, e5, h2]
   simp only [List.append_assoc]
   rfl
theorem scan_ends : ∀ (cs : List Nat) (f a : Nat) (ts : List JTok) (ns : List JNote), (∀ c ∈ cs, isPunct c = true) → cs.length ≤ f → scanG f a cs ts ns = ⟨ts ++ endT a cs, ns, 0, 0⟩ := by
 intro cs
 induction cs with
 | nil => intro f a ts ns _ _; rw [scanG_end]; simp [endT]
 | cons c cs ih =>
  intro f a ts ns hc hf
  rw [List.length_cons] at hf
  obtain ⟨f, rfl⟩ : ∃ g, f = g + 1 := ⟨f - 1, by omega⟩
  rw [scan_punct (hc c (by simp)), ih f _ _ _ (fun x hx => hc x (by simp [hx])) (by omega), List.append_assoc]
  rfl
theorem check_pre : ∀ (l : List Nat) (g b : Nat) (z : List Nat), (∀ c ∈ l, c < 128) → checkG (l.length + g) b (l ++ z) = checkG g (b + l.length) z := by
 intro l
 induction l with
 | nil => intro g b z _; simp
 | cons c l ih =>
  intro g b z h
  rw [List.length_cons, show l.length + 1 + g = l.length + g + 1 by omega, List.cons_append, check_ascii (h c (by simp)), ih g (b + 1) z (fun x hx => h x (by simp [hx])), show b + 1 + l.length = b + (l.length + 1) by omega]
theorem preL_ascii (sh : List Bool) : ∀ c ∈ preL sh, c < 128 := by
 intro c hc
 obtain ⟨b, _, h⟩ := List.mem_flatMap.1 hc
 cases b <;> simp [openL] at h <;> omega
theorem endL_punct (sh : List Bool) : ∀ c ∈ endL sh, isPunct c = true := by
 intro c hc
 unfold endL at hc
 rw [List.mem_reverse, List.mem_map] at hc
 obtain ⟨b, _, rfl⟩ := hc
 cases b <;> rfl
theorem endL_ascii (sh : List Bool) : ∀ c ∈ endL sh, c < 128 := fun c hc => (tokB_bd (c := c) (by unfold tokB; rw [endL_punct sh c hc]; rfl)).1
theorem preL_len (sh : List Bool) : (preL sh).length ≤ 5 * sh.length := by
 induction sh with
 | nil => simp [preL]
 | cons b sh ih =>
  have e : preL (b :: sh) = openL b ++ preL sh := rfl
  rw [e, List.length_append, List.length_cons]
  cases b <;> simp [openL] <;> omega
theorem endL_len (sh : List Bool) : (endL sh).length = sh.length := by simp [endL]
def nestL (sh : List Bool) (inner : List Nat) : List Nat := preL sh ++ (inner ++ 10 :: endL sh)
theorem scan_nest (sh : List Bool) (inner : List Nat) (h1 : sh.length ≤ 60) (h2 : inner.length ≤ 50) (he : (scanV inner).err = 0) :
  (∀ t ∈ (scanV inner).toks, t.from_ < inner.length) ∧ ∃ ns2, scanV (nestL sh inner) = ⟨preT 0 sh ++ ((scanV inner).toks.map (shT (preL sh).length) ++ endT ((preL sh).length + inner.length + 1) (endL sh)), ns2, 0, 0⟩ := by
 have e0 : scanV inner = scanG inner.length 0 inner [] [] ∧ checkV inner = none := by
  unfold scanV at he ⊢
  rw [if_neg (by omega)] at he ⊢
  cases hc : checkV inner with
  | none => exact ⟨rfl, rfl⟩
  | some k => rw [hc] at he; simp at he
 obtain ⟨e0, hck⟩ := e0
 rw [e0] at he ⊢
 obtain ⟨more, ⟨mn, m1⟩, m2, m3⟩ := scan_nl (endL sh) _ _ _ _ _ he (Nat.le_refl _)
 rw [m1]
 simp only [List.nil_append]
 have hpl := preL_len sh
 have hel := endL_len sh
 refine ⟨fun t ht => by have := (m2 t ht).2; omega, ?_⟩
 have hlen : (nestL sh inner).length = (preL sh).length + (inner.length + 1 + sh.length) := by simp [nestL, hel]; omega
 have hck2 : checkV (nestL sh inner) = none := by
  unfold checkV at hck ⊢
  rw [hlen]
  unfold nestL
  rw [check_pre _ _ _ _ (preL_ascii sh)]
  have hend : checkG (10 :: endL sh).length 0 (10 :: endL sh) = none := by
   have := check_pre (10 :: endL sh) 0 0 [] (by intro c hc; rcases List.mem_cons.1 hc with rfl | hc; decide; exact endL_ascii sh c hc)
   rw [List.append_nil, Nat.add_zero] at this
   rw [this]
   exact checkG_end
  exact check_app (x := []) (y := 10 :: endL sh) (by decide) (by show 10 < 128; decide) _ inner 0 _ _ (by rw [List.append_nil]; exact hck) (by rw [List.append_nil]; exact Nat.le_refl _) (by simp [hel]; omega) (fun _ => hend)
 unfold scanV
 rw [if_neg (by omega), hck2]
 simp only
 obtain ⟨f1, q1, q2⟩ := scan_pre sh (nestL sh inner).length 0 (inner ++ 10 :: endL sh) [] [] (Nat.le_refl _)
 obtain ⟨f2, ns2, q3, q4⟩ := m3 f1 (preL sh).length ([] ++ preT 0 sh) [] q1
 refine ⟨ns2, ?_⟩
 have q2' : scanG (nestL sh inner).length 0 (nestL sh inner) [] [] = scanG f1 (0 + (preL sh).length) (inner ++ 10 :: endL sh) ([] ++ preT 0 sh) [] := q2
 rw [q2', q4, scan_ends _ _ _ _ _ (endL_punct sh) q3]
 simp
end Go.Proofs.YtimanbbdfbloeaaGreatDoor
namespace Go.Proofs.YtimanbbdfbloeaaGreatDoor
open Go.RowKit
theorem val_more {en f : Nat} {st st' : PSt} {s : JSpan} {d : Nat} {v : Int} (hi : PInv st) (h : valueV en f st s d = .ok (v, st')) : v = (st.nodes.length : Int) ∧ st.nodes.length + 1 ≤ st'.nodes.length := by
 cases f with
 | zero => rw [valueV] at h; cases h
 | succ f =>
  rw [valueV] at h
  cases hl : st.left with
  | nil => rw [hl] at h; cases h
  | cons t r =>
   rw [hl] at h
   simp only at h
   split at h
   ·cases h
   split at h
   ·cases h
   split at h
   ·cases h
   rename_i hn
   split at h
   ·split at h
    ·cases h
    ·rename_i x hx
     have hi1 : PInv (⟨r, st.nodes ++ [⟨if t.text = [123] then 10 else 9, [], false, [], []⟩], st.spans ++ [{ s with node := st.nodes.length, from_ := t.from_, whole := true }]⟩ : PSt) := ⟨by simp; omega, by have := hi.2; simp; omega⟩
     obtain ⟨_, h2, _⟩ := (val_ok en f).2 _ _ _ _ _ hi1 hx
     have h3 := h2.nodes
     simp only [List.length_append, List.length_singleton] at h3
     injection h with h
     injection h with h4 h
     subst h
     exact ⟨h4.symm, by simp; omega⟩
   ·split at h
    ·cases h
    ·injection h with h
     injection h with h4 h
     subst h
     exact ⟨h4.symm, by simp⟩
theorem comma_nil (en : Nat) (st : PSt) (ks : List (List Nat)) (keys : List Int) : commaV en ⟨st, ks, keys, []⟩ = .ok ⟨st, ks, keys, []⟩ := rfl
inductive InnT (toks : List JTok) (nd : GNode) : Prop
 | leaf (t : JTok) : toks = [t] → t.kind ≠ 1 → scalarV t = some nd → InnT toks nd
 | list (t t2 : JTok) : toks = [t, t2] → t.kind = 1 → t.text = [91] → t2.kind = 1 → t2.text = [93] → nd = ⟨9, [], false, [], []⟩ → InnT toks nd
 | map (t t2 : JTok) : toks = [t, t2] → t.kind = 1 → t.text = [123] → t2.kind = 1 → t2.text = [125] → nd = ⟨10, [], false, [], []⟩ → InnT toks nd
theorem InnT.shift {toks : List JTok} {nd : GNode} (h : InnT toks nd) (d : Nat) : InnT (toks.map (shT d)) nd := by
 cases h with
 | leaf t h1 h2 h3 => exact .leaf (shT d t) (by rw [h1]; rfl) h2 h3
 | list t t2 h1 h2 h3 h4 h5 h6 => exact .list (shT d t) (shT d t2) (by rw [h1]; rfl) h2 h3 h4 h5 h6
 | map t t2 h1 h2 h3 h4 h5 h6 => exact .map (shT d t) (shT d t2) (by rw [h1]; rfl) h2 h3 h4 h5 h6
def Begs (t : JTok) : Prop := ¬ (t.kind = 1 ∧ ¬ t.text = [91] ∧ ¬ t.text = [123])
theorem InnT.head {toks : List JTok} {nd : GNode} (h : InnT toks nd) : ∃ t r, toks = t :: r ∧ Begs t := by
 cases h with
 | leaf t h1 h2 h3 => exact ⟨t, [], h1, fun h => h2 h.1⟩
 | list t t2 h1 h2 h3 h4 h5 h6 => exact ⟨t, [t2], h1, fun h => h.2.1 h3⟩
 | map t t2 h1 h2 h3 h4 h5 h6 => exact ⟨t, [t2], h1, fun h => h.2.2 h3⟩
theorem isV_yes {t : JTok} {r : List JTok} {c : List Nat} (h1 : t.kind = 1) (h2 : t.text = c) : isV (t :: r) c = true := decide_eq_true ⟨h1, h2⟩
theorem isV_no {t : JTok} {r : List JTok} {c : List Nat} (h : ¬ (t.kind = 1 ∧ t.text = c)) : isV (t :: r) c = false := decide_eq_false h
theorem Begs.no {t : JTok} (h : Begs t) {c : Nat} (hc : c = 93 ∨ c = 125) (r : List JTok) : isV (t :: r) [c] = false := isV_no fun hh => h ⟨hh.1, by rw [hh.2]; intro e; injection e with e; omega, by rw [hh.2]; intro e; injection e with e; omega⟩
theorem set_snoc (N : List GNode) (a b : GNode) (r : List GNode) : (N ++ a :: r).set N.length b = N ++ b :: r := by
 rw [List.set_append_right (h := Nat.le_refl _), Nat.sub_self]; rfl
theorem InnT.value {toks : List JTok} {nd : GNode} (h : InnT toks nd) (en f : Nat) (N : List GNode) (S : List JSpan) (s : JSpan) (d : Nat) (rest : List JTok) (hd : d ≤ 32) (hN : N.length < 4096) :
  ∃ S', valueV en (f + 2) ⟨toks ++ rest, N, S⟩ s d = .ok ((N.length : Int), ⟨rest, N ++ [nd], S'⟩) := by
 cases h with
 | leaf t h1 h2 h3 =>
  subst h1
  rw [List.singleton_append, valueV]
  simp only
  rw [if_neg (fun h => h2 h.1), if_neg (by omega), if_neg (by omega), if_neg h2, h3]
  exact ⟨_, rfl⟩
 | list t t2 h1 h2 h3 h4 h5 h6 =>
  subst h1
  rw [List.cons_append, valueV]
  simp only
  rw [if_neg (fun h => h.2.1 h3), if_neg (by omega), if_neg (by omega), if_pos h2, h3, itemsV]
  have e1 : decide (([91] : List Nat) = [123]) = false := by decide
  have e2 : (if ([91] : List Nat) = [123] then (10 : Int) else 9) = 9 := by decide
  rw [e1, e2]
  simp only
  rw [if_pos (by simp only [Bool.false_eq_true, if_false]; exact isV_yes h4 h5)]
  simp only
  rw [set_snoc, h6]
  exact ⟨_, rfl⟩
 | map t t2 h1 h2 h3 h4 h5 h6 =>
  subst h1
  rw [List.cons_append, valueV]
  simp only
  rw [if_neg (fun h => h.2.2 h3), if_neg (by omega), if_neg (by omega), if_pos h2, h3, itemsV]
  have e1 : decide (([123] : List Nat) = [123]) = true := by decide
  have e2 : (if ([123] : List Nat) = [123] then (10 : Int) else 9) = 10 := by decide
  rw [e1, e2]
  simp only
  rw [if_pos (by simp only [if_true]; exact isV_yes h4 h5)]
  simp only
  rw [set_snoc, h6]
  exact ⟨_, rfl⟩
theorem inner_toks {en f : Nat} {toks : List JTok} {s : JSpan} {v : Int} {st' : PSt} (h : valueV en f ⟨toks, [], []⟩ s 0 = .ok (v, st')) (hl : st'.left = []) (hn : st'.nodes.length = 1) : ∃ nd, st'.nodes = [nd] ∧ InnT toks nd := by
 cases f with
 | zero => rw [valueV] at h; cases h
 | succ f =>
  rw [valueV] at h
  cases toks with
  | nil => cases h
  | cons t r =>
   simp only at h
   split at h
   ·cases h
   rename_i hb
   split at h
   ·cases h
   split at h
   ·cases h
   split at h
   ·rename_i hk
    split at h
    ·cases h
    ·rename_i x hx
     injection h with h
     injection h with h4 h
     subst h
     simp only [List.length_nil, List.length_set] at hn hl
     cases f with
     | zero => rw [itemsV] at hx; cases hx
     | succ f =>
      rw [itemsV] at hx
      simp only at hx
      by_cases hc : isV r (if decide (t.text = [123]) = true then [125] else [93]) = true
      ·rw [if_pos hc] at hx
       injection hx with hx
       subst hx
       simp only at hl hn ⊢
       obtain ⟨t2, r2, rfl, k1, k2⟩ := isV_cons hc
       have : r2 = [] := by simpa using hl
       subst this
       by_cases h12 : t.text = [123]
       ·refine ⟨⟨10, [], false, [], []⟩, by rw [if_pos h12]; rfl, .map t t2 rfl hk h12 k1 (by rw [k2, h12]; rfl) rfl⟩
       ·have h9 : t.text = [91] := by
         by_cases h9 : t.text = [91]
         ·exact h9
         ·exact absurd ⟨hk, h9, h12⟩ hb
        refine ⟨⟨9, [], false, [], []⟩, by rw [if_neg h12]; rfl, .list t t2 rfl hk h9 k1 (by rw [k2, decide_eq_false h12]; rfl) rfl⟩
      ·rw [if_neg hc] at hx
       exfalso
       have key : ∀ (z : PLoop) (sp : JSpan), PInv z.st → 1 ≤ z.st.nodes.length → (match valueV en f z.st sp (0 + 1) with | .error e => .error e | .ok (v, st) => itemsV en f (decide (t.text = [123])) ([] : List JSpan).length 0 ⟨st, z.ks, z.keys, z.items ++ [v]⟩) = Except.ok x → False := by
        intro z sp hz hz1 hh
        cases hv : valueV en f z.st sp (0 + 1) with
        | error e => rw [hv] at hh; cases hh
        | ok p =>
         obtain ⟨v, st⟩ := p
         rw [hv] at hh
         simp only at hh
         have b1 := ((val_ok en f).1 _ _ _ _ _ hz hv).1
         have b2 := (val_more hz hv).2
         have b3 := ((val_ok en f).2 _ _ _ _ _ b1 hh).2.1.nodes
         simp only at b3
         omega
       have hi1 : PInv (⟨r, [] ++ [⟨if t.text = [123] then 10 else 9, [], false, [], []⟩], [] ++ [{ s with node := ([] : List GNode).length, from_ := t.from_, whole := true }]⟩ : PSt) := ⟨by simp, by simp⟩
       rw [comma_nil] at hx
       simp only at hx
       by_cases h12 : t.text = [123]
       ·rw [decide_eq_true h12] at hx key
        simp only [if_true] at hx
        cases hk2 : keyV en 0 (⟨⟨r, [] ++ [⟨if t.text = [123] then 10 else 9, [], false, [], []⟩], [] ++ [{ s with node := ([] : List GNode).length, from_ := t.from_, whole := true }]⟩, [], [], []⟩ : PLoop) ⟨0, ([] : List JSpan).length, ([] : List Int).length, 0, 0, 0, 0, false, false⟩ with
        | error e => rw [hk2] at hx; cases hx
        | ok p =>
         obtain ⟨z, sp⟩ := p
         rw [hk2] at hx
         simp only at hx
         obtain ⟨k1, k2, _⟩ := keyV_sub hk2 hi1
         exact key z sp k1 (by have := k2.nodes; simp at this; omega) hx
       ·rw [decide_eq_false h12] at hx key
        simp only [Bool.false_eq_true, if_false] at hx
        exact key ⟨_, [], [], []⟩ _ hi1 (by simp) hx
   ·rename_i hk
    split at h
    ·cases h
    ·rename_i nd hnd
     injection h with h
     injection h with h4 h
     subst h
     have : r = [] := hl
     subst this
     exact ⟨nd, rfl, .leaf t rfl hk hnd⟩
/-! ### The nested value -/
def nestN : Nat → List Bool → GNode → List GNode
 | _, [], nd => [nd]
 | b, false :: sh, nd => ⟨9, [], false, [], [((b + 1 : Nat) : Int)]⟩ :: nestN (b + 1) sh nd
 | b, true :: sh, nd => ⟨10, [], false, [((b + 1 : Nat) : Int)], [((b + 2 : Nat) : Int)]⟩ :: ⟨5, [107], false, [], []⟩ :: nestN (b + 2) sh nd
theorem endT_app (l : List Nat) (e c : Nat) : endT e (l ++ [c]) = endT e l ++ [⟨1, e + l.length, e + l.length + 1, [c]⟩] := by
 induction l generalizing e with
 | nil => rfl
 | cons x l ih =>
  rw [List.cons_append, endT, endT, ih]
  simp only [List.cons_append, List.length_cons]
  rw [show e + 1 + l.length = e + (l.length + 1) by omega]
theorem endL_cons (b : Bool) (sh : List Bool) : endL (b :: sh) = endL sh ++ [closeL b] := by simp [endL]
theorem nest_head {IT : List JTok} {nd : GNode} (hI : InnT IT nd) (sh : List Bool) (a : Nat) (X : List JTok) :
  ∃ t r, preT a sh ++ (IT ++ X) = t :: r ∧ Begs t ∧ (sh ≠ [] → t.from_ = a) ∧ (sh = [] → ∃ r', IT = t :: r') := by
 cases sh with
 | nil =>
  obtain ⟨t, r, h1, h2⟩ := hI.head
  subst h1
  exact ⟨t, r ++ X, rfl, h2, fun h => absurd rfl h, fun _ => ⟨r, rfl⟩⟩
 | cons b sh =>
  cases b with
  | false => exact ⟨_, _, rfl, fun h => h.2.1 rfl, fun _ => rfl, fun h => by cases h⟩
  | true => exact ⟨_, _, rfl, fun h => h.2.2 rfl, fun _ => rfl, fun h => by cases h⟩
theorem nest_ok {IT : List JTok} {nd : GNode} (hI : InnT IT nd) (en : Nat) : ∀ (sh : List Bool) (a e f : Nat) (N : List GNode) (S : List JSpan) (s : JSpan) (d : Nat) (rest : List JTok), d + sh.length ≤ 32 → N.length + 2 * sh.length < 4096 →
  ∃ S', valueV en (f + 2 * sh.length + 2) ⟨preT a sh ++ (IT ++ (endT e (endL sh) ++ rest)), N, S⟩ s d = .ok ((N.length : Int), ⟨rest, N ++ nestN N.length sh nd, S'⟩) := by
 intro sh
 induction sh with
 | nil =>
  intro a e f N S s d rest hd hN
  exact hI.value en f N S s d rest (by simpa using hd) (by simpa using hN)
 | cons b sh ih =>
  intro a e f N S s d rest hd hN
  rw [List.length_cons] at hd hN ⊢
  obtain ⟨F, hF⟩ : ∃ F, f + 2 * sh.length + 2 = F + 1 := ⟨f + 2 * sh.length + 1, by omega⟩
  rw [show f + 2 * (sh.length + 1) + 2 = f + 2 * sh.length + 2 + 1 + 1 by omega, endL_cons, endT_app, List.append_assoc]
  obtain ⟨tl, htl⟩ : ∃ tl : JTok, tl = ⟨1, e + (endL sh).length, e + (endL sh).length + 1, [closeL b]⟩ := ⟨_, rfl⟩
  rw [← htl]
  have tl1 : tl.kind = 1 := by rw [htl]
  have tl2 : tl.text = [closeL b] := by rw [htl]
  clear htl
  cases b with
  | false =>
   have e0 : preT a (false :: sh) ++ (IT ++ (endT e (endL sh) ++ ([tl] ++ rest))) = ⟨1, a, a + 1, [91]⟩ :: (preT (a + 1) sh ++ (IT ++ (endT e (endL sh) ++ (tl :: rest)))) := rfl
   obtain ⟨t, r, ht, hb, _, _⟩ := nest_head hI sh (a + 1) (endT e (endL sh) ++ (tl :: rest))
   rw [e0, valueV]
   simp only
   rw [if_neg (by simp), if_neg (by omega), if_neg (by omega), if_pos trivial, itemsV]
   have e1 : decide (([91] : List Nat) = [123]) = false := by decide
   have e2 : (if ([91] : List Nat) = [123] then (10 : Int) else 9) = 9 := by decide
   rw [e1, e2]
   simp only [Bool.false_eq_true, if_false]
   rw [if_neg (by rw [ht, hb.no (.inl rfl)]; simp), comma_nil]
   simp only
   obtain ⟨S1, h1⟩ := ih (a + 1) e f (N ++ [⟨9, [], false, [], []⟩]) (S ++ [{ s with node := N.length, from_ := a, whole := true }]) ⟨0, S.length, ([] : List Int).length, 0, 0, 0, 0, false, false⟩ (d + 1) (tl :: rest) (by omega) (by simp; omega)
   rw [h1]
   simp only
   rw [hF, itemsV]
   simp only [Bool.false_eq_true, if_false]
   rw [if_pos (show isV (tl :: rest) [93] = true from isV_yes tl1 tl2)]
   simp only
   have e3 : (N ++ [(⟨9, [], false, [], []⟩ : GNode)]).length = N.length + 1 := by simp
   rw [e3, List.append_assoc, List.singleton_append, set_snoc]
   exact ⟨_, rfl⟩
  | true =>
   have e0 : preT a (true :: sh) ++ (IT ++ (endT e (endL sh) ++ ([tl] ++ rest))) = ⟨1, a, a + 1, [123]⟩ :: ⟨2, a + 1, a + 4, [107]⟩ :: ⟨1, a + 4, a + 5, [58]⟩ :: (preT (a + 5) sh ++ (IT ++ (endT e (endL sh) ++ (tl :: rest)))) := rfl
   rw [e0, valueV]
   simp only
   rw [if_neg (by simp), if_neg (by omega), if_neg (by omega), if_pos trivial, itemsV]
   simp only [if_true, decide_true]
   rw [if_neg (by rw [isV_no (by simp)]; simp), comma_nil]
   simp only
   rw [keyV]
   simp only
   rw [if_neg (by simp), if_neg (by omega), if_neg (by simp; omega), if_neg (by simp), if_pos (isV_yes rfl rfl)]
   simp only
   obtain ⟨S1, h1⟩ := ih (a + 5) e f (N ++ [⟨10, [], false, [], []⟩] ++ [⟨5, [107], false, [], []⟩]) (S ++ [{ s with node := N.length, from_ := a, whole := true }]) (⟨0, S.length, ([] : List Int).length, 0, 0, ((a + 1 : Nat) : Int), ((a + 4 : Nat) : Int), false, false⟩ : JSpan) (d + 1) (tl :: rest) (by omega) (by simp; omega)
   have h1' : valueV en (f + 2 * sh.length + 2) ⟨List.drop 1 (⟨1, a + 4, a + 5, [58]⟩ :: (preT (a + 5) sh ++ (IT ++ (endT e (endL sh) ++ (tl :: rest))))), N ++ [⟨10, [], false, [], []⟩] ++ [⟨5, [107], false, [], []⟩], S ++ [{ s with node := N.length, from_ := a, whole := true }]⟩ (⟨0, S.length, ([] : List Int).length, 0, 0, ((a + 1 : Nat) : Int), ((a + 4 : Nat) : Int), false, false⟩ : JSpan) (d + 1) = _ := h1
   rw [h1']
   simp only
   rw [hF, itemsV]
   simp only [if_true]
   rw [if_pos (show isV (tl :: rest) [125] = true from isV_yes tl1 tl2)]
   simp only
   have e3 : (N ++ [(⟨10, [], false, [], []⟩ : GNode)] ++ [(⟨5, [107], false, [], []⟩ : GNode)]).length = N.length + 2 := by simp
   have e4 : (N ++ [(⟨10, [], false, [], []⟩ : GNode)]).length = N.length + 1 := by simp
   rw [e3, e4, List.append_assoc, List.append_assoc, List.singleton_append, List.singleton_append, set_snoc]
   exact ⟨_, rfl⟩
theorem nest_deep {IT : List JTok} {nd : GNode} (hI : InnT IT nd) (en : Nat) {t0 : JTok} {r0 : List JTok} (h0 : IT = t0 :: r0) : ∀ (sh : List Bool) (a f : Nat) (N : List GNode) (S : List JSpan) (s : JSpan) (d : Nat) (X : List JTok), d ≤ 32 → 32 < d + sh.length → N.length + 2 * sh.length < 4096 →
  valueV en (f + 2 * sh.length + 2) ⟨preT a sh ++ (IT ++ X), N, S⟩ s d = .error (if d + sh.length = 33 ∧ sh.getD (32 - d) false = false then t0.from_ else a + (preL (sh.take (32 - d))).length + 1, 5) := by
 intro sh
 induction sh with
 | nil => intro a f N S s d X h1 h2; simp at h2; omega
 | cons b sh ih =>
  intro a f N S s d X h1 h2 hN
  rw [List.length_cons] at h2 hN ⊢
  rw [show f + 2 * (sh.length + 1) + 2 = f + 2 * sh.length + 2 + 1 + 1 by omega]
  obtain ⟨F, hF⟩ : ∃ F, f + 2 * sh.length + 2 = F + 1 := ⟨f + 2 * sh.length + 1, by omega⟩
  cases b with
  | false =>
   have e0 : preT a (false :: sh) ++ (IT ++ X) = ⟨1, a, a + 1, [91]⟩ :: (preT (a + 1) sh ++ (IT ++ X)) := rfl
   obtain ⟨t, r, ht, hb, hfr, hnil⟩ := nest_head hI sh (a + 1) X
   rw [e0, valueV]
   simp only
   rw [if_neg (by simp), if_neg (by omega), if_neg (by omega), if_pos trivial, itemsV]
   have e1 : decide (([91] : List Nat) = [123]) = false := by decide
   have e2 : (if ([91] : List Nat) = [123] then (10 : Int) else 9) = 9 := by decide
   rw [e1, e2]
   simp only [Bool.false_eq_true, if_false]
   rw [if_neg (by rw [ht, hb.no (.inl rfl)]; simp), comma_nil]
   simp only
   by_cases hd : d = 32
   ·subst hd
    rw [hF, valueV, ht]
    simp only
    rw [if_neg hb, if_pos (by omega)]
    simp only
    cases sh with
    | nil =>
     obtain ⟨r', hr'⟩ := hnil rfl
     rw [h0] at hr'
     injection hr' with hr'
     subst hr'
     rw [if_pos ⟨rfl, rfl⟩]
    | cons b2 sh2 =>
     rw [if_neg (by rw [List.length_cons]; omega), hfr (by simp)]
     rfl
   ·have h3 := ih (a + 1) f (N ++ [⟨9, [], false, [], []⟩]) (S ++ [{ s with node := N.length, from_ := a, whole := true }]) ⟨0, S.length, ([] : List Int).length, 0, 0, 0, 0, false, false⟩ (d + 1) X (by omega) (by omega) (by simp; omega)
    rw [h3]
    simp only
    obtain ⟨q, hq⟩ : ∃ q, 32 - d = q + 1 := ⟨31 - d, by omega⟩
    have hq2 : 32 - (d + 1) = q := by omega
    rw [hq, hq2, List.take_succ_cons, show d + 1 + sh.length = d + (sh.length + 1) by omega]
    have e5 : (false :: sh).getD (q + 1) false = sh.getD q false := rfl
    have e6 : a + (preL (false :: sh.take q)).length + 1 = a + 1 + (preL (sh.take q)).length + 1 := by
     show a + ([91] ++ preL (sh.take q)).length + 1 = _
     simp; omega
    rw [e5, e6]
  | true =>
   have e0 : preT a (true :: sh) ++ (IT ++ X) = ⟨1, a, a + 1, [123]⟩ :: ⟨2, a + 1, a + 4, [107]⟩ :: ⟨1, a + 4, a + 5, [58]⟩ :: (preT (a + 5) sh ++ (IT ++ X)) := rfl
   rw [e0, valueV]
   simp only
   rw [if_neg (by simp), if_neg (by omega), if_neg (by omega), if_pos trivial, itemsV]
   simp only [if_true, decide_true]
   rw [if_neg (by rw [isV_no (by simp)]; simp), comma_nil]
   simp only
   rw [keyV]
   simp only
   by_cases hd : d = 32
   ·subst hd
    rw [if_neg (by simp), if_pos (by omega)]
    simp only
    rw [if_neg (by intro h; have := h.2; simp at this)]
    rfl
   ·rw [if_neg (by simp), if_neg (by omega), if_neg (by simp; omega), if_neg (by simp), if_pos (isV_yes rfl rfl)]
    simp only
    have h3 := ih (a + 5) f (N ++ [⟨10, [], false, [], []⟩] ++ [⟨5, [107], false, [], []⟩]) (S ++ [{ s with node := N.length, from_ := a, whole := true }]) (⟨0, S.length, ([] : List Int).length, 0, 0, ((a + 1 : Nat) : Int), ((a + 4 : Nat) : Int), false, false⟩ : JSpan) (d + 1) X (by omega) (by omega) (by simp; omega)
    have h3' : valueV en (f + 2 * sh.length + 2) ⟨List.drop 1 (⟨1, a + 4, a + 5, [58]⟩ :: (preT (a + 5) sh ++ (IT ++ X))), N ++ [⟨10, [], false, [], []⟩] ++ [⟨5, [107], false, [], []⟩], S ++ [{ s with node := N.length, from_ := a, whole := true }]⟩ (⟨0, S.length, ([] : List Int).length, 0, 0, ((a + 1 : Nat) : Int), ((a + 4 : Nat) : Int), false, false⟩ : JSpan) (d + 1) = _ := h3
    rw [h3']
    simp only
    obtain ⟨q, hq⟩ : ∃ q, 32 - d = q + 1 := ⟨31 - d, by omega⟩
    have hq2 : 32 - (d + 1) = q := by omega
    rw [hq, hq2, List.take_succ_cons, show d + 1 + sh.length = d + (sh.length + 1) by omega]
    have e5 : (true :: sh).getD (q + 1) false = sh.getD q false := rfl
    have e6 : a + (preL (true :: sh.take q)).length + 1 = a + 5 + (preL (sh.take q)).length + 1 := by
     show a + ([123, 34, 107, 34, 58] ++ preL (sh.take q)).length + 1 = _
     simp; omega
    rw [e5, e6]
theorem preT_len (sh : List Bool) (a : Nat) : sh.length ≤ (preT a sh).length := by
 induction sh generalizing a with
 | nil => simp
 | cons b sh ih =>
  rw [preT, List.length_append, List.length_cons]
  have := ih (a + (openL b).length)
  cases b <;> simp only [openT, List.length_cons, List.length_nil] <;> omega
theorem inner_one {inner : List Nat} {D : JDoc} (h : parseJ inner = .ok D) (hn : D.nodes.length = 1) : (scanV inner).err = 0 ∧ ∃ nd, D.nodes = [nd] ∧ InnT (scanV inner).toks nd := by
 unfold parseJ at h
 split at h
 ·cases h
 rename_i he
 refine ⟨by omega, ?_⟩
 split at h
 ·cases h
 rename_i v st hv
 split at h
 ·rename_i hl
  injection h with h
  subst h
  obtain ⟨nd, h1, h2⟩ := inner_toks hv hl hn
  exact ⟨nd, h1, h2⟩
 ·cases h
theorem parse_nest {sh : List Bool} {inner : List Nat} {nd : GNode} (h1 : sh.length ≤ 32) (h2 : inner.length ≤ 50) (he : (scanV inner).err = 0) (hI : InnT (scanV inner).toks nd) :
  ∃ S ns, parseJ (nestL sh inner) = .ok ⟨nestN 0 sh nd, S, ns⟩ := by
 obtain ⟨_, ns2, hs⟩ := scan_nest sh inner (by omega) h2 he
 have hI2 := hI.shift (preL sh).length
 unfold parseJ
 rw [hs]
 simp only
 rw [if_neg (by simp)]
 generalize (nestL sh inner).length = en
 generalize (scanV inner).toks.map (shT (preL sh).length) = IT at *
 obtain ⟨t, r, ht, _⟩ := hI2.head
 have hpl := preT_len sh 0
 obtain ⟨f, hf⟩ : ∃ f, 2 * (preT 0 sh ++ (IT ++ endT ((preL sh).length + inner.length + 1) (endL sh))).length + 1 = f + 2 * sh.length + 2 := ⟨2 * (preT 0 sh ++ (IT ++ endT ((preL sh).length + inner.length + 1) (endL sh))).length + 1 - 2 * sh.length - 2, by rw [ht]; simp; omega⟩
 obtain ⟨S', h3⟩ := nest_ok hI2 en sh 0 ((preL sh).length + inner.length + 1) f [] [] spanZ 0 [] (by omega) (by simp; omega)
 rw [List.append_nil] at h3
 rw [hf, h3]
 exact ⟨S', ns2, rfl⟩
theorem parse_deep {sh : List Bool} {inner : List Nat} {nd : GNode} (h1 : 32 < sh.length) (h60 : sh.length ≤ 60) (h2 : inner.length ≤ 50) (he : (scanV inner).err = 0) (hI : InnT (scanV inner).toks nd) :
  ∃ at_, parseJ (nestL sh inner) = .error (at_, 5) ∧ (at_ = (preL (sh.take 32)).length + 1 ∨ (sh.length = 33 ∧ sh.getD 32 false = false) ∧ (preL (sh.take 32)).length + 1 ≤ at_ ∧ at_ < (preL (sh.take 32)).length + 1 + inner.length) := by
 obtain ⟨hfr, ns2, hs⟩ := scan_nest sh inner (by omega) h2 he
 obtain ⟨t0, r0, ht0, _⟩ := hI.head
 have hI2 := hI.shift (preL sh).length
 have hlt := hfr t0 (by rw [ht0]; simp)
 unfold parseJ
 rw [hs]
 simp only
 rw [if_neg (by simp)]
 generalize (nestL sh inner).length = en
 have ht1 : (scanV inner).toks.map (shT (preL sh).length) = shT (preL sh).length t0 :: r0.map (shT (preL sh).length) := by rw [ht0]; rfl
 generalize (scanV inner).toks.map (shT (preL sh).length) = IT at *
 have hpl := preT_len sh 0
 obtain ⟨f, hf⟩ : ∃ f, 2 * (preT 0 sh ++ (IT ++ endT ((preL sh).length + inner.length + 1) (endL sh))).length + 1 = f + 2 * sh.length + 2 := ⟨2 * (preT 0 sh ++ (IT ++ endT ((preL sh).length + inner.length + 1) (endL sh))).length + 1 - 2 * sh.length - 2, by rw [ht1]; simp; omega⟩
 have h3 := nest_deep hI2 en ht1 sh 0 f [] [] spanZ 0 (endT ((preL sh).length + inner.length + 1) (endL sh)) (by omega) (by omega) (by simp; omega)
 rw [hf, h3]
 refine ⟨_, rfl, ?_⟩
 by_cases hc : 0 + sh.length = 33 ∧ sh.getD (32 - 0) false = false
 ·rw [if_pos hc]
  obtain ⟨c1, c2⟩ := hc
  have e1 : (preL sh).length = (preL (sh.take 32)).length + 1 := by
   have h32 : 32 < sh.length := h1
   have e2 : sh = sh.take 32 ++ [sh.getD 32 false] := by
    conv => lhs; rw [← List.take_append_drop 32 sh]
    congr 1
    rw [List.drop_eq_getElem_cons h32, List.drop_of_length_le (by omega), List.getD_eq_getElem?_getD, List.getElem?_eq_getElem h32]
    rfl
   have e3 : sh.getD 32 false = false := c2
   conv => lhs; rw [e2, e3]
   unfold preL
   rw [List.flatMap_append]
   simp [openL]
  refine .inr ⟨⟨by omega, c2⟩, ?_, ?_⟩
  ·show _ ≤ t0.from_ + (preL sh).length; omega
  ·show t0.from_ + (preL sh).length < _; omega
 ·rw [if_neg hc]
  exact .inl (by simp)
end Go.Proofs.YtimanbbdfbloeaaGreatDoor
namespace Go.Proofs.YtimanbbdfbloeaaGreatDoor
open Go.RowKit
def kindJ (k : Int) : Prop := k = 0 ∨ k = 1 ∨ k = 2 ∨ k = 3 ∨ k = 5 ∨ k = 9 ∨ k = 10
structure NodeJ (N : List GNode) (i : Nat) (nd : GNode) : Prop where
 kind : kindJ nd.kind
 tx : By nd.text
 len : nd.text.length ≤ 4294967200
 leaf : nd.kind ≠ 9 → nd.kind ≠ 10 → nd.keys = [] ∧ nd.items = []
 ref : ∀ y ∈ refs nd, (i : Int) < y ∧ y < (N.length : Int)
 key : ∀ y ∈ nd.keys, ∃ nk : GNode, N[y.toNat]? = some nk ∧ nk.kind = 5
def JG (N : List GNode) : Prop := ∀ (i : Nat) (nd : GNode), N[i]? = some nd → NodeJ N i nd
def Ext (N N' : List GNode) : Prop := ∀ (j : Nat) (nk : GNode), N[j]? = some nk → N'[j]? = some nk
theorem Ext.refl (N : List GNode) : Ext N N := fun _ _ h => h
theorem Ext.trans {a b c : List GNode} (h : Ext a b) (k : Ext b c) : Ext a c := fun j nk e => k j nk (h j nk e)
theorem Ext.app (N M : List GNode) : Ext N (N ++ M) := fun j nk h => by
 rw [List.getElem?_append_left (List.getElem?_eq_some_iff.1 h).1]; exact h
theorem Ext.len {a b : List GNode} (h : Ext a b) : a.length ≤ b.length := by
 by_cases e : a.length = 0
 ·omega
 ·have h1 := h (a.length - 1) _ (List.getElem?_eq_getElem (by omega))
  have := (List.getElem?_eq_some_iff.1 h1).1
  omega
theorem NodeJ.ext {N N' : List GNode} {i : Nat} {nd : GNode} (h : NodeJ N i nd) (he : Ext N N') : NodeJ N' i nd :=
 ⟨h.kind, h.tx, h.len, h.leaf, fun y hy => ⟨(h.ref y hy).1, by have := (h.ref y hy).2; have := he.len; omega⟩, fun y hy => by
  obtain ⟨nk, h1, h2⟩ := h.key y hy
  exact ⟨nk, he _ _ h1, h2⟩⟩
theorem JG.snoc {N : List GNode} (h : JG N) {nd : GNode} (hk : kindJ nd.kind) (ht : By nd.text) (hl : nd.text.length ≤ 4294967200) (h1 : nd.keys = []) (h2 : nd.items = []) : JG (N ++ [nd]) := fun i x hx => by
 by_cases hi : i < N.length
 ·rw [List.getElem?_append_left hi] at hx
  exact (h i x hx).ext (Ext.app _ _)
 ·have hlt := (List.getElem?_eq_some_iff.1 hx).1
  rw [List.length_append, List.length_singleton] at hlt
  have : i = N.length := by omega
  subst this
  rw [List.getElem?_append_right (Nat.le_refl _), Nat.sub_self] at hx
  have : nd = x := by simpa using hx
  subst this
  exact ⟨hk, ht, hl, fun _ _ => ⟨h1, h2⟩, fun y hy => by unfold refs at hy; rw [h1, h2] at hy; simp at hy, fun y hy => by rw [h1] at hy; simp at hy⟩
theorem parR_by (l : List Nat) : By (parR l 10).1 ∧ (parR l 10).1.length ≤ 500 := by
 have nil : By ([] : List Nat) ∧ ([] : List Nat).length ≤ 500 := ⟨By.nil, by simp⟩
 unfold parR
 split
 ·split
  ·exact nil
  ·unfold pB
   split
   ·split
    ·unfold tS
     split
     ·rename_i h
      simp only at h ⊢
      unfold ntx
      split
      ·exact ⟨by intro c hc; simp at hc; omega, by simp⟩
      ·refine ⟨By.append ?_ ?_, ?_⟩
       ·split
        ·intro c hc; simp at hc; omega
        ·exact By.nil
       ·intro c hc
        rw [List.mem_reverse] at hc
        unfold asc at hc
        obtain ⟨y, hy, rfl⟩ := List.mem_map.1 hc
        have := ten_dg _ y hy
        omega
       ·rw [List.length_append, List.length_reverse]
        have : (asc (dg (hor (10 : Int).toNat digV (lead 48 (parB l).2)))).length = (dg (hor (10 : Int).toNat digV (lead 48 (parB l).2))).length := by unfold asc; exact List.length_map ..
        split <;> simp only [List.length_singleton, List.length_nil] <;> omega
     ·exact nil
    ·exact nil
   ·exact nil
 ·exact nil
theorem text_ok {t : JTok} (ht : TokOK t) {nd : GNode} (h : scalarV t = some nd) : kindJ nd.kind ∧ By nd.text ∧ nd.text.length ≤ 4294967200 := by
 obtain ⟨h1, h2, _⟩ := ht
 unfold scalarV at h
 split at h
 ·obtain rfl := Option.some.inj h; exact ⟨by simp [kindJ], h1, h2⟩
 split at h
 ·split at h
  ·obtain rfl := Option.some.inj h; exact ⟨by simp [kindJ], By.nil, by simp⟩
  ·obtain rfl := Option.some.inj h; exact ⟨by simp [kindJ], h1, h2⟩
 split at h
 ·split at h
  ·rename_i hp
   obtain rfl := Option.some.inj h
   refine ⟨by simp [kindJ], ?_⟩
   show By (parseDV t.text).1 ∧ (parseDV t.text).1.length ≤ _
   cases hn : numeralV t.text with
   | none => rw [parseDV_none hn]; exact ⟨By.nil, by simp⟩
   | some x =>
    have hx := numeralV_ok hn
    rw [parseDV_some hn]
    unfold resV
    split
    ·refine ⟨textV_by hx.1, ?_⟩
     rename_i hlim
     have hlen : x.2.1.length ≤ 400 := by
      unfold limV at hlim
      split at hlim
      ·cases hlim
      ·omega
     unfold textV
     have e1 := coefL_len x.1 x.2.1
     have e2 := itoaL_len x.2.2 (by have := hx.2.2.1; omega) (by have := hx.2.2.2; omega)
     simp only [List.length_append, List.length_singleton]
     omega
    ·exact ⟨By.nil, by simp⟩
  ·cases h
 ·split at h
  ·rename_i hp
   obtain rfl := Option.some.inj h
   refine ⟨by simp [kindJ], ?_⟩
   exact ⟨(parR_by t.text).1, by have := (parR_by t.text).2; show (parR t.text 10).1.length ≤ _; omega⟩
  ·cases h
def ColJ (N : List GNode) (k0 : Nat) (keys items : List Int) : Prop :=
 (∀ y ∈ keys, ((k0 : Int) < y ∧ y < (N.length : Int)) ∧ ∃ nk : GNode, N[y.toNat]? = some nk ∧ nk.kind = 5) ∧ ∀ y ∈ items, (k0 : Int) < y ∧ y < (N.length : Int)
theorem ColJ.ext {N N' : List GNode} {k0 : Nat} {ks is_ : List Int} (h : ColJ N k0 ks is_) (he : Ext N N') : ColJ N' k0 ks is_ :=
 ⟨fun y hy => ⟨⟨(h.1 y hy).1.1, by have := (h.1 y hy).1.2; have := he.len; omega⟩, by obtain ⟨nk, h1, h2⟩ := (h.1 y hy).2; exact ⟨nk, he _ _ h1, h2⟩⟩, fun y hy => ⟨(h.2 y hy).1, by have := (h.2 y hy).2; have := he.len; omega⟩⟩
theorem json_nodes (en f : Nat) :
  (∀ st s d v st', (∀ t ∈ st.left, TokOK t) → PInv st → JG st.nodes → valueV en f st s d = .ok (v, st') → JG st'.nodes ∧ Ext st.nodes st'.nodes) ∧
  (∀ obj k d x y k0, (∀ t ∈ x.st.left, TokOK t) → PInv x.st → JG x.st.nodes → k0 < x.st.nodes.length → ColJ x.st.nodes k0 x.keys x.items → itemsV en f obj k d x = .ok y → JG y.st.nodes ∧ Ext x.st.nodes y.st.nodes ∧ ColJ y.st.nodes k0 y.keys y.items) := by
 induction f with
 | zero =>
  constructor
  ·intro st s d v st' _ _ _ h; rw [valueV] at h; cases h
  ·intro obj k d x y k0 _ _ _ _ _ h; rw [itemsV] at h; cases h
 | succ f ih =>
  constructor
  ·intro st s d v st' ht hi hg h
   rw [valueV] at h
   cases hl : st.left with
   | nil => rw [hl] at h; cases h
   | cons t r =>
    rw [hl] at h
    simp only at h
    split at h
    ·cases h
    split at h
    ·cases h
    split at h
    ·cases h
    rename_i hn
    have htr : ∀ t' ∈ r, TokOK t' := fun t' h' => ht t' (by rw [hl]; simp [h'])
    split at h
    ·split at h
     ·cases h
     ·rename_i x hx
      have hi1 : PInv (⟨r, st.nodes ++ [⟨if t.text = [123] then 10 else 9, [], false, [], []⟩], st.spans ++ [{ s with node := st.nodes.length, from_ := t.from_, whole := true }]⟩ : PSt) := ⟨by simp; omega, by have := hi.2; simp; omega⟩
      have hk910 : (if t.text = [123] then (10 : Int) else 9) = 10 ∨ (if t.text = [123] then (10 : Int) else 9) = 9 := by split <;> simp
      obtain ⟨g1, g2, g3⟩ := ih.2 _ _ _ _ _ st.nodes.length htr hi1 (hg.snoc (by rcases hk910 with e | e <;> simp [kindJ, e]) By.nil (by simp) rfl rfl) (by simp) ⟨by simp, by simp⟩ hx
      injection h with h
      injection h with _ h
      subst h
      simp only at g1 g2 g3 ⊢
      have hpl : x.st.nodes[st.nodes.length]? = some ⟨if t.text = [123] then 10 else 9, [], false, [], []⟩ := g2 _ _ (by simp)
      have hlt := (List.getElem?_eq_some_iff.1 hpl).1
      have hset : ∀ (nd' : GNode) (j : Nat) (nk : GNode), x.st.nodes[j]? = some nk → nk.kind = 5 → (x.st.nodes.set st.nodes.length nd')[j]? = some nk := by
       intro nd' j nk hj h5
       rw [List.getElem?_set]
       by_cases e : st.nodes.length = j
       ·exfalso
        subst e
        rw [hpl] at hj
        obtain rfl := Option.some.inj hj
        rcases hk910 with e | e <;> simp only [e] at h5 <;> omega
       ·rw [if_neg e]; exact hj
      refine ⟨fun i nd hnd => ?_, fun j nk hj => ?_⟩
      ·rw [List.getElem?_set] at hnd
       by_cases e : st.nodes.length = i
       ·rw [if_pos e, if_pos hlt] at hnd
        obtain rfl := Option.some.inj hnd
        subst e
        refine ⟨by rcases hk910 with e | e <;> simp [kindJ, e], By.nil, by simp, fun h9 h10 => ?_, fun y hy => ?_, fun y hy => ?_⟩
        ·exfalso; rcases hk910 with e | e
         ·exact h10 e
         ·exact h9 e
        ·rw [List.length_set]
         rcases List.mem_append.1 hy with h1 | h1
         ·exact (g3.1 y h1).1
         ·exact g3.2 y h1
        ·obtain ⟨nk, n1, n2⟩ := (g3.1 y hy).2
         exact ⟨nk, hset _ _ _ n1 n2, n2⟩
       ·rw [if_neg e] at hnd
        have := g1 i nd hnd
        exact ⟨this.kind, this.tx, this.len, this.leaf, fun y hy => by rw [List.length_set]; exact this.ref y hy, fun y hy => by obtain ⟨nk, n1, n2⟩ := this.key y hy; exact ⟨nk, hset _ _ _ n1 n2, n2⟩⟩
      ·have hjl := (List.getElem?_eq_some_iff.1 hj).1
       rw [List.getElem?_set, if_neg (by omega)]
       exact g2 _ _ (Ext.app _ _ _ _ hj)
    ·split at h
     ·cases h
     ·rename_i nd hnd
      injection h with h
      injection h with _ h
      subst h
      obtain ⟨k1, k2, k3⟩ := text_ok (ht t (by rw [hl]; simp)) hnd
      exact ⟨hg.snoc k1 k2 k3 (scalarV_no hnd).1 (scalarV_no hnd).2, Ext.app _ _⟩
  ·intro obj k d x y k0 ht hi hg hk0 hcol h
   rw [itemsV] at h
   by_cases hc : isV x.st.left (if obj then [125] else [93]) = true
   ·rw [if_pos hc] at h
    injection h with h
    subst h
    exact ⟨hg, Ext.refl _, hcol⟩
   ·rw [if_neg hc] at h
    cases hcm : commaV en x with
    | error e => rw [hcm] at h; cases h
    | ok a =>
     rw [hcm] at h
     simp only at h
     obtain ⟨a1, a2, a3, a4, a5, a6⟩ := commaV_ok hcm
     have hia : PInv a.st := ⟨by rw [a4]; exact hi.1, by rw [a4, a5]; exact hi.2⟩
     have hta := a6.ok ht
     have key : ∀ (z : PLoop) (s : JSpan), (∀ t ∈ z.st.left, TokOK t) → PInv z.st → JG z.st.nodes → k0 < z.st.nodes.length → ColJ z.st.nodes k0 z.keys z.items → Ext x.st.nodes z.st.nodes → (match valueV en f z.st s (d + 1) with | .error e => .error e | .ok (v, st) => itemsV en f obj k d ⟨st, z.ks, z.keys, z.items ++ [v]⟩) = Except.ok y → JG y.st.nodes ∧ Ext x.st.nodes y.st.nodes ∧ ColJ y.st.nodes k0 y.keys y.items := by
      intro z s hzt hz hzg hz0 hzc hze hh
      cases hv : valueV en f z.st s (d + 1) with
      | error e => rw [hv] at hh; cases hh
      | ok p =>
       obtain ⟨v, st⟩ := p
       rw [hv] at hh
       simp only at hh
       obtain ⟨b1, b2⟩ := (val_ok en f).1 _ _ _ _ _ hz hv
       obtain ⟨b3, b4⟩ := val_more hz hv
       obtain ⟨b5, b6⟩ := ih.1 _ _ _ _ _ hzt hz hzg hv
       have hcv := hzc.ext b6
       obtain ⟨c1, c2, c3⟩ := ih.2 _ _ _ _ _ k0 (b2.ok hzt) b1 b5 (by simp only; omega) ⟨hcv.1, fun q hq => by
        rcases List.mem_append.1 hq with h1 | h1
        ·exact hcv.2 q h1
        ·have : q = v := by simpa using h1
         subst this
         rw [b3]; simp only; omega⟩ hh
       exact ⟨c1, hze.trans (b6.trans c2), c3⟩
     cases obj with
     | false => exact key a _ hta hia (by rw [a4]; exact hg) (by rw [a4]; exact hk0) (by rw [a4, a2, a3]; exact hcol) (by rw [a4]; exact Ext.refl _) h
     | true =>
      simp only [if_true] at h
      cases hk : keyV en d a ⟨0, k, x.items.length, 0, 0, 0, 0, false, false⟩ with
      | error e => rw [hk] at h; cases h
      | ok p =>
       obtain ⟨z, s⟩ := p
       rw [hk] at h
       obtain ⟨k1, k2, _⟩ := keyV_sub hk hia
       obtain ⟨t, r, r2, t2, hl, _, _, _, hn4, _, _, rfl, _⟩ := keyV_ok hk
       have htt := hta t (by rw [hl]; simp)
       have hcx := hcol.ext (Ext.app x.st.nodes [⟨5, t.text, false, [], []⟩])
       refine key _ s (k2.ok hta) k1 ?_ ?_ ?_ ?_ h
       ·rw [a4]; exact hg.snoc (by simp [kindJ]) htt.1 htt.2.1 rfl rfl
       ·rw [a4]; simp; omega
       ·rw [a4, a2, a3]
        refine ⟨fun q hq => ?_, hcx.2⟩
        rcases List.mem_append.1 hq with h1 | h1
        ·exact hcx.1 q h1
        ·have : q = (x.st.nodes.length : Int) := by simpa using h1
         subst this
         refine ⟨⟨by omega, by simp; omega⟩, ⟨5, t.text, false, [], []⟩, ?_, rfl⟩
         rw [Int.toNat_natCast]; simp
       ·rw [a4]; exact Ext.app _ _
theorem parseJ_JG {s : List Nat} (hs : By s) {D : JDoc} (h : parseJ s = .ok D) : JG D.nodes ∧ 0 < D.nodes.length ∧ D.nodes.length ≤ 4096 := by
 unfold parseJ at h
 split at h
 ·cases h
 split at h
 ·cases h
 rename_i v st hv
 split at h
 ·injection h with h
  subst h
  have hi0 : PInv (⟨(scanV s).toks, [], []⟩ : PSt) := ⟨by simp, by simp⟩
  obtain ⟨h1, h2⟩ := (json_nodes _ _).1 _ _ _ _ _ (scanV_toks s hs).1 hi0 (fun i nd hnd => by simp at hnd) hv
  have h3 := ((val_ok _ _).1 _ _ _ _ _ hi0 hv).1
  have h4 := (val_more hi0 hv).2
  exact ⟨h1, by simp at h4 ⊢; omega, h3.1⟩
 ·cases h
end Go.Proofs.YtimanbbdfbloeaaGreatDoor
namespace Go.Proofs.YtimanbbdfbloeaaGreatDoor
open Go.RowKit
theorem ndAt_of {N : List GNode} {i : Nat} {nd : GNode} (h : N[i]? = some nd) : ndAt N i = nd := by
 unfold ndAt; rw [List.getD_eq_getElem?_getD, h]; rfl
theorem JG.at_ {N : List GNode} (h : JG N) {i : Nat} (hi : i < N.length) : NodeJ N i (ndAt N i) := h i _ (ndAt_get hi)
theorem JG.idx {N : List GNode} (h : JG N) : Idx N := fun i hi x hx => by
 have := (h.at_ hi).ref x hx
 omega
theorem JG.ranks {N : List GNode} (h : JG N) : Ranks N (fun x => N.length - x.toNat) := fun x hx y hy => by
 obtain ⟨h1, h2⟩ := hx
 have := (h.at_ (i := x.toNat) (by omega)).ref y hy
 show N.length - y.toNat < N.length - x.toNat
 omega
theorem endT_dag {nodes : List GNode} {s : TS} (h : DI nodes [] s) (hall : ∀ x, InN nodes.length x → 0 ≤ gI s.inn x) (hT : TOK nodes.length s) (hn : nodes.length ≤ 65536) : EndT nodes s := by
 have hsl : s.sizes.length ≤ 65536 := by have := hT.sz; have := hT.cn; omega
 refine ⟨h.ln, fun i hi => ?_, fun c => ?_, hsl⟩
 ·have hx : InN nodes.length (i : Int) := ⟨by omega, by omega⟩
  have h1 := hall (i : Int) hx
  have h2 := (h.dn (i : Int) hx h1).1
  unfold gI at h1 h2
  rw [Int.toNat_natCast] at h1 h2
  exact ⟨h1, h2⟩
 ·by_cases hc : c < s.sizes.length
  ·rw [h.one c hc]; omega
  ·rw [List.getD_eq_getElem?_getD, List.getElem?_eq_none (by omega)]; simp
theorem JG.dp {N : List GNode} (h : JG N) (hn : N.length ≤ 4096) {root : Int} (hr : InN N.length root) (hall : ∀ i, i < N.length → Reach N root.toNat i) : ∃ s, compV N root = some s ∧ EndT N s := by
 obtain ⟨s, e, d, hin⟩ := compV_dag h.idx h.ranks hr (by show N.length - root.toNat ≤ N.length; omega) hall
 refine ⟨s, e, endT_dag d hin ?_ (by omega)⟩
 refine TOK.visit h.idx _ root _ s hr ?_ (TOK.start _) e
 show (List.replicate N.length (0 : Int)).getD _ _ = 0
 rw [List.getD_eq_getElem?_getD, List.getElem?_replicate]; split <;> rfl
theorem reach_of {N : List GNode} (hI : Idx N) {root : Int} (hr : 0 ≤ root ∧ root < (N.length : Int)) (h : (List.range N.length).all (okN N root) = true) : ∀ i, i < N.length → Reach N root.toNat i := fun i hi => by
 rw [List.all_eq_true] at h
 have := h i (List.mem_range.2 hi)
 unfold okN at this
 rw [Bool.and_eq_true] at this
 exact (reached_iff hI hr i).1 this.1
theorem JG.chk {N : List GNode} (h : JG N) (h0 : 0 < N.length) (h1 : N.length ≤ 4096) (hb : NB 65536 N) : ChkOK N 0 where
 n0 := h0
 n1 := h1
 nl := fun i hi => hb _ (ndAt_mem hi)
 tw := {
  leaf := fun i hi x hx => by
   obtain ⟨nk, k1, k2⟩ := (h.at_ hi).key x hx
   rw [ndAt_of k1]
   exact (h _ _ k1).leaf (by omega) (by omega)
  by_ := fun i hi => (h.at_ hi).tx
  wf := fun i hi => by
   have := (h.at_ hi).kind
   unfold kindJ at this
   rcases this with e | e | e | e | e | e | e <;> rw [e] <;> decide
  len := fun i hi => by
   have := (h.at_ hi).len
   rw [size_mks]; unfold maxLen; omega }
 sc := fun i hi => by
  have hk := (h.at_ hi).kind
  have ht := (h.at_ hi).tx
  have hl := (h.at_ hi).len
  generalize ndAt N i = nd at *
  unfold kindJ at hk
  refine ⟨by omega, fun h9 h10 => ?_⟩
  unfold scV
  rcases hk with e | e | e | e | e | e | e
  ·rw [e]; exact scal_null _
  ·rw [e]; exact scal_bool _ ht
  ·rw [e]; exact scal_int _ ht
  ·rw [e]; exact scal_dec _ ht (by omega)
  ·rw [e]; exact scal_text _ (by omega)
  ·exact absurd e h9
  ·exact absurd e h10
 dp := fun hi ha => by
  obtain ⟨hr, hI⟩ := idx_of hi
  exact h.dp h1 hr (reach_of hI hr ha)
/-! ### Nested values -/
def lenN : List Bool → Nat | [] => 1 | false :: sh => lenN sh + 1 | true :: sh => lenN sh + 2
theorem nest_len (sh : List Bool) (nd : GNode) : ∀ b, (nestN b sh nd).length = lenN sh := by
 induction sh with
 | nil => intro b; rfl
 | cons x sh ih => intro b; cases x <;> simp [nestN, lenN, ih]
theorem lenN_bd (sh : List Bool) : 1 ≤ lenN sh ∧ lenN sh ≤ 2 * sh.length + 1 := by
 induction sh with
 | nil => simp [lenN]
 | cons x sh ih => cases x <;> simp [lenN] <;> omega
theorem nest_refs {nd : GNode} (h1 : nd.keys = []) (h2 : nd.items = []) (sh : List Bool) : ∀ b, (nestN b sh nd).flatMap refs = (List.range' (b + 1) (lenN sh - 1)).map (fun (i : Nat) => (i : Int)) := by
 induction sh with
 | nil => intro b; simp [nestN, lenN, refs, h1, h2]
 | cons x sh ih =>
  intro b
  have hb := (lenN_bd sh).1
  cases x with
  | false =>
   rw [nestN, List.flatMap_cons, ih]
   show [((b + 1 : Nat) : Int)] ++ _ = _
   rw [show lenN (false :: sh) - 1 = (lenN sh - 1) + 1 by simp [lenN]; omega, List.range'_succ, List.map_cons]
   rfl
  | true =>
   rw [nestN, List.flatMap_cons, List.flatMap_cons, ih]
   show [((b + 1 : Nat) : Int), ((b + 2 : Nat) : Int)] ++ ([] ++ _) = _
   rw [show lenN (true :: sh) - 1 = (lenN sh - 1) + 1 + 1 by simp [lenN]; omega, List.range'_succ, List.range'_succ, List.map_cons, List.map_cons]
   rfl
theorem nest_cnt {nd : GNode} (h1 : nd.keys = []) (h2 : nd.items = []) (sh : List Bool) {i : Nat} (hi : i < lenN sh) : cnt (nestN 0 sh nd) 0 i = 1 := by
 have hb := (lenN_bd sh).1
 unfold cnt
 rw [nest_refs h1 h2]
 have e : (0 : Int) :: (List.range' (0 + 1) (lenN sh - 1)).map (fun (i : Nat) => (i : Int)) = (List.range' 0 (lenN sh)).map (fun (i : Nat) => (i : Int)) := by
  obtain ⟨m, hm⟩ : ∃ m, lenN sh = m + 1 := ⟨lenN sh - 1, by omega⟩
  rw [hm, List.range'_succ, List.map_cons]; rfl
 rw [e]
 have hn : ((List.range' 0 (lenN sh)).map (fun (i : Nat) => (i : Int))).Nodup := by
  unfold List.Nodup
  rw [List.pairwise_map]
  exact (List.nodup_range' (s := 0) (n := lenN sh)).imp (fun h e => h (by omega))
 have hm : (i : Int) ∈ (List.range' 0 (lenN sh)).map (fun (i : Nat) => (i : Int)) := List.mem_map.2 ⟨i, by rw [List.mem_range'_1]; omega, rfl⟩
 have h3 := List.one_le_count_iff.2 hm
 have h4 := List.nodup_iff_count.1 hn (i : Int)
 omega
theorem drop_tail {α : Type} {l : List α} {b : Nat} {x : α} {r : List α} (h : l.drop b = x :: r) : l[b]? = some x ∧ l.drop (b + 1) = r := by
 constructor
 ·have := congrArg List.head? h
  rw [List.head?_drop] at this
  exact this
 ·have := congrArg (List.drop 1) h
  rw [List.drop_drop] at this
  exact this
theorem nest_reach {nodes : List GNode} {nd : GNode} (sh : List Bool) : ∀ b, nodes.drop b = nestN b sh nd → ∀ i, b ≤ i → i < b + lenN sh → Reach nodes b i := by
 induction sh with
 | nil => intro b _ i h1 h2; simp [lenN] at h2; rw [show i = b by omega]; exact .refl
 | cons x sh ih =>
  intro b hd i h1 h2
  by_cases hib : i = b
  ·rw [hib]; exact .refl
  cases x with
  | false =>
   obtain ⟨g1, g2⟩ := drop_tail hd
   simp only [lenN] at h2
   have hs : Reach nodes b (b + 1) := by
    have := (Reach.refl (nodes := nodes) (a := b)).step (x := ((b + 1 : Nat) : Int)) (List.getElem?_eq_some_iff.1 g1).1 (by rw [ndAt_of g1]; simp [refs])
    rwa [Int.toNat_natCast] at this
   exact hs.trans (ih (b + 1) g2 i (by omega) (by omega))
  | true =>
   obtain ⟨g1, g2⟩ := drop_tail hd
   obtain ⟨g3, g4⟩ := drop_tail g2
   simp only [lenN] at h2
   have hl := (List.getElem?_eq_some_iff.1 g1).1
   by_cases hi2 : i = b + 1
   ·have := (Reach.refl (nodes := nodes) (a := b)).step (x := ((b + 1 : Nat) : Int)) hl (by rw [ndAt_of g1]; simp [refs])
    rw [Int.toNat_natCast] at this
    rw [hi2]; exact this
   ·have hs : Reach nodes b (b + 2) := by
     have := (Reach.refl (nodes := nodes) (a := b)).step (x := ((b + 2 : Nat) : Int)) hl (by rw [ndAt_of g1]; simp [refs])
     rwa [Int.toNat_natCast] at this
    exact hs.trans (ih (b + 2) g4 i (by omega) (by omega))
theorem nest_mem {nd : GNode} (sh : List Bool) : ∀ b, ∀ x ∈ nestN b sh nd, x = nd ∨ (∃ y, x = ⟨9, [], false, [], [y]⟩) ∨ (∃ y z, x = ⟨10, [], false, [y], [z]⟩) ∨ x = ⟨5, [107], false, [], []⟩ := by
 induction sh with
 | nil => intro b x hx; simp [nestN] at hx; exact .inl hx
 | cons q sh ih =>
  intro b x hx
  cases q with
  | false =>
   rcases List.mem_cons.1 hx with rfl | hx
   ·exact .inr (.inl ⟨_, rfl⟩)
   ·exact ih _ x hx
  | true =>
   rcases List.mem_cons.1 hx with rfl | hx
   ·exact .inr (.inr (.inl ⟨_, _, rfl⟩))
   ·rcases List.mem_cons.1 hx with rfl | hx
    ·exact .inr (.inr (.inr rfl))
    ·exact ih _ x hx
theorem form_k : formV ⟨5, [107], false, [], []⟩ (scV ⟨5, [107], false, [], []⟩) = true := by
 have : checkV [107] = none := by
  unfold checkV
  rw [show ([107] : List Nat).length = 0 + 1 from rfl, check_ascii (by decide)]
  exact checkG_end
 simp [formV, scV, this, ckErr]
def hgt : List Bool → List Int | [] => [1] | false :: sh => ((sh.length : Int) + 2) :: hgt sh | true :: sh => ((sh.length : Int) + 2) :: 1 :: hgt sh
theorem hgt_head (sh : List Bool) : ∃ r, hgt sh = ((sh.length : Int) + 1) :: r := by
 cases sh with
 | nil => exact ⟨[], rfl⟩
 | cons x sh =>
  cases x with
  | false => exact ⟨hgt sh, by simp only [hgt, List.length_cons]; first | rfl | (congr 1; omega) | congr 1⟩
  | true => exact ⟨1 :: hgt sh, by simp only [hgt, List.length_cons]; first | rfl | (congr 1; omega) | congr 1⟩
theorem nest_H {nodes : List GNode} {hs : List Int} {nd : GNode} (h1 : nd.keys = []) (h2 : nd.items = []) (sh : List Bool) : ∀ b, nodes.drop b = nestN b sh nd → hs.drop b = hgt sh → ∀ i, b ≤ i → i < b + lenN sh → hs.getD i 0 = 1 + maxL (fun x => hs.getD x.toNat 0) (refs (ndAt nodes i)) 0 := by
 induction sh with
 | nil =>
  intro b hd hh i g1 g2
  have : i = b := by simp [lenN] at g2; omega
  subst this
  obtain ⟨d1, _⟩ := drop_tail hd
  obtain ⟨e1, _⟩ := drop_tail hh
  rw [ndAt_of d1, List.getD_eq_getElem?_getD, e1]
  simp [refs, h1, h2, maxL]
 | cons x sh ih =>
  intro b hd hh i g1 g2
  cases x with
  | false =>
   obtain ⟨d1, d2⟩ := drop_tail hd
   obtain ⟨e1, e2⟩ := drop_tail hh
   simp only [lenN] at g2
   by_cases hib : i = b
   ·subst hib
    obtain ⟨r, hr⟩ := hgt_head sh
    rw [hr] at e2
    obtain ⟨f1, _⟩ := drop_tail e2
    rw [ndAt_of d1, List.getD_eq_getElem?_getD, e1]
    simp only [refs, List.nil_append, maxL, List.foldl_cons, List.foldl_nil, Int.toNat_natCast, List.getD_eq_getElem?_getD, f1, Option.getD_some]
    omega
   ·exact ih (b + 1) d2 e2 i (by omega) (by omega)
  | true =>
   obtain ⟨d1, d2⟩ := drop_tail hd
   obtain ⟨d3, d4⟩ := drop_tail d2
   obtain ⟨e1, e2⟩ := drop_tail hh
   obtain ⟨e3, e4⟩ := drop_tail e2
   simp only [lenN] at g2
   by_cases hib : i = b
   ·subst hib
    obtain ⟨r, hr⟩ := hgt_head sh
    rw [hr] at e4
    obtain ⟨f1, _⟩ := drop_tail e4
    rw [ndAt_of d1, List.getD_eq_getElem?_getD, e1]
    simp only [refs, List.singleton_append, maxL, List.foldl_cons, List.foldl_nil, Int.toNat_natCast, List.getD_eq_getElem?_getD, f1, e3, Option.getD_some]
    omega
   ·by_cases hi2 : i = b + 1
    ·subst hi2
     rw [ndAt_of d3, List.getD_eq_getElem?_getD, e3]
     simp [refs, maxL]
    ·exact ih (b + 2) d4 e4 i (by omega) (by omega)
theorem nest_depth {nd : GNode} (h1 : nd.keys = []) (h2 : nd.items = []) (hf : formV nd (scV nd) = true) (sh : List Bool) (hs : sh.length ≤ 32) (hJ : JG (nestN 0 sh nd)) : depthR (nestN 0 sh nd) 0 = ((sh.length : Int), true) := by
 have hl := nest_len sh nd 0
 have hb := lenN_bd sh
 have hI := hJ.idx
 have hr : InN (nestN 0 sh nd).length 0 := ⟨by omega, by omega⟩
 have hre : ∀ i, i < (nestN 0 sh nd).length → Reach (nestN 0 sh nd) (0 : Int).toNat i := fun i hi => nest_reach (nd := nd) sh 0 (by simp) i (by omega) (by omega)
 have hdep : depthV (nestN 0 sh nd) 0 = some ((sh.length : Int), true) := by
  have hH : ∀ x, InN (nestN 0 sh nd).length x → (fun x : Int => (hgt sh).getD x.toNat 0) x = 1 + maxL (fun x : Int => (hgt sh).getD x.toNat 0) (refs (ndAt (nestN 0 sh nd) x.toNat)) 0 := fun x hx =>
   nest_H (hs := hgt sh) h1 h2 sh 0 (by simp) (by simp) x.toNat (by omega) (by have := hx.1; have := hx.2; omega)
  have := depthV_dag hI hJ.ranks hr (by show _ - _ ≤ _; omega) hre hH
  rw [this]
  obtain ⟨r, hr⟩ := hgt_head sh
  simp [hr]
 have hix : indicesV (nestN 0 sh nd) 0 = true := by
  unfold indicesV
  rw [Bool.and_eq_true, List.all_eq_true]
  refine ⟨inB_iff.2 hr, fun x hx => ?_⟩
  obtain ⟨j, hj, rfl⟩ := List.getElem_of_mem hx
  have e : ndAt (nestN 0 sh nd) j = (nestN 0 sh nd)[j] := ndAt_of (List.getElem?_eq_getElem hj)
  rw [← e]
  unfold inAll
  rw [Bool.and_eq_true, List.all_eq_true, List.all_eq_true]
  exact ⟨fun y hy => inB_iff.2 (hI j hj y (List.mem_append.2 (.inl hy))), fun y hy => inB_iff.2 (hI j hj y (List.mem_append.2 (.inr hy)))⟩
 have hok : (List.range (nestN 0 sh nd).length).all (okN (nestN 0 sh nd) 0) = true := all_yes fun j hj => by
  unfold okN
  rw [(reached_iff hI (at_ := 0) ⟨by omega, hr.2⟩ j).2 (hre j hj), Bool.true_and]
  rcases nest_mem sh 0 _ (ndAt_mem hj) with e | ⟨y, e⟩ | ⟨y, z, e⟩ | e
  ·rw [e]; exact hf
  ·rw [e]; simp [formV]
  ·rw [e]; simp [formV]
  ·rw [e]; exact form_k
 have hkk : (List.range (nestN 0 sh nd).length).all (okK (nestN 0 sh nd) 0) = true := all_yes fun j hj => by
  unfold okK
  rw [counts_get hix hj, nest_cnt h1 h2 sh (by omega)]
  simp
 have htw : twiceV (nestN 0 sh nd) = false := by
  unfold twiceV
  rw [List.any_eq_false]
  intro x hx
  rcases nest_mem sh 0 x hx with e | ⟨y, e⟩ | ⟨y, z, e⟩ | e
  ·rw [e, h1]; simp [dupF]
  ·rw [e]; simp [dupF]
  ·rw [e]; simp [dupF]
  ·rw [e]; simp [dupF]
 have hc : chkV (nestN 0 sh nd) 0 = 0 := by
  unfold chkV
  rw [if_neg (by rw [hix]; simp), if_neg (by rw [hok]; simp), if_neg (by rw [hkk]; simp), if_neg (by rw [htw]; simp)]
  unfold depD
  rw [hdep]
  simp only
  rw [if_neg (by omega)]
 unfold depthR
 rw [if_pos hc, hdep]
theorem one_form {nd : GNode} (h : chkV [nd] 0 = 0) : formV nd (scV nd) = true := by
 obtain ⟨_, h2⟩ := chkV_zero h
 rw [List.all_eq_true] at h2
 have := h2 0 (by simp)
 unfold okN at this
 rw [Bool.and_eq_true] at this
 exact this.2
end Go.Proofs.YtimanbbdfbloeaaGreatDoor
