/- What the plain parser of CBOR keeps: the bounds of its state. -/
import Derived.Test.YtbhigefbihpnlaaGreatDoorMAs
set_option linter.unusedVariables false
set_option linter.unusedSimpArgs false
set_option linter.defProp false
set_option linter.constructorNameAsVariable false
namespace Go.Proofs.YtbhigefbihpnlaaGreatDoor
open Go.RowKit
theorem hd_facts {s : List Nat} {i j : Nat} {h : CH} (hs : By s) (hh : hdC s i = .ok (h, j)) : h.at_ = i ∧ i < j ∧ j ≤ s.length ∧ h.arg < 18446744073709551616 ∧ h.major < 8 ∧ h.info < 32 := by
 unfold hdC at hh
 cases hc : s[i]? with
 | none => rw [hc] at hh; cases hh
 | some c =>
  rw [hc] at hh
  have hlt := (List.getElem?_eq_some_iff.1 hc).1
  have hb := hs.get hc
  dsimp only at hh
  have d1 : c / 32 < 8 := by omega
  have d2 : c % 32 < 32 := by omega
  have d3 : c % 32 < 18446744073709551616 := by omega
  split at hh
  ·cases hh; exact ⟨rfl, by omega, by omega, d3, d1, d2⟩
  split at hh
  ·split at hh
   ·cases hh
   ·rename_i h1 h2 h3
    have e3 : c % 32 - 24 ≤ 3 := by omega
    obtain ⟨k, hk⟩ : ∃ k, 2 ^ (c % 32 - 24) = k := ⟨_, rfl⟩
    have hk8 : k ≤ 8 := by rw [← hk]; exact Nat.le_trans (Nat.pow_le_pow_right (by decide) e3) (by decide)
    rw [hk] at h3 hh
    cases hh
    refine ⟨rfl, by omega, by omega, ?_, ?_, ?_⟩
    ·have q1 := horF_lt (b := 256) (f := id) (l := (s.drop (i + 1)).take k) (fun c hc => (hs.drop _).take _ c hc) 0
     have q2 : ((s.drop (i + 1)).take k).length ≤ 8 := by rw [List.length_take]; omega
     have q3 : (256 : Nat) ^ ((s.drop (i + 1)).take k).length ≤ 256 ^ 8 := Nat.pow_le_pow_right (by decide) q2
     have q4 : hor 256 id ((s.drop (i + 1)).take k) < 1 * 256 ^ ((s.drop (i + 1)).take k).length := by simpa [hor] using q1
     show hor 256 id ((s.drop (i + 1)).take k) < _
     omega
    ·exact d1
    ·exact d2
  split at hh
  ·cases hh
  ·cases hh; exact ⟨rfl, by omega, by omega, d3, d1, d2⟩
theorem run_le {s : List Nat} {h : CH} {i j : Nat} {t : List Nat} (hi : i ≤ s.length) (hh : runC s h i = .ok (t, j)) : i ≤ j ∧ j ≤ s.length := by
 unfold runC at hh
 split at hh
 ·cases hh
 split at hh
 ·cases hh
 ·cases hh; omega
theorem parts_le {s : List Nat} (hs : By s) (mj : Nat) : ∀ (f i : Nat) (acc : List Nat) (j : Nat) (t : List Nat), i ≤ s.length → partsC s mj f i acc = .ok (t, j) → i ≤ j ∧ j ≤ s.length
 | 0, _, _, _, _, _, h => by cases h
 | f + 1, i, acc, j, t, hi, h => by
  unfold partsC at h
  obtain ⟨⟨x, i1⟩, h1, h2⟩ := CR.bind_ok h
  obtain ⟨_, q1, q2, _⟩ := hd_facts hs h1
  dsimp only at h2
  split at h2
  ·cases h2; omega
  split at h2
  ·cases h2
  ·obtain ⟨⟨t2, i2⟩, h3, h4⟩ := CR.bind_ok h2
   have q3 := run_le (by omega) h3
   have q4 := parts_le hs mj f i2 _ j t (by omega) h4
   omega
theorem text_le {s : List Nat} {h : CH} {i j : Nat} {t : List Nat} (hs : By s) (hi : i ≤ s.length) (hh : textC s h i = .ok (t, j)) : i ≤ j ∧ j ≤ s.length := by
 unfold textC at hh
 split at hh
 ·exact run_le hi hh
 ·exact parts_le hs _ _ _ _ _ _ hi hh
theorem scal_le {s : List Nat} {h : CH} {i j : Nat} {nd : GNode} (hs : By s) (hi : i ≤ s.length) (hh : scalarC s h i = .ok (nd, j)) : i ≤ j ∧ j ≤ s.length := by
 unfold scalarC at hh
 split at hh
 ·cases hh; omega
 split at hh
 ·obtain ⟨⟨t, i1⟩, h1, h2⟩ := CR.bind_ok hh
  cases h2; exact text_le hs hi h1
 split at hh
 ·obtain ⟨⟨t, i1⟩, h1, h2⟩ := CR.bind_ok hh
  cases h2; exact text_le hs hi h1
 split at hh
 ·obtain ⟨z, h1, h2⟩ := CR.bind_ok hh
  cases h2; omega
 split at hh <;> cases hh
structure CI (s : List Nat) (st : CSt) : Prop where
 i : st.i ≤ s.length
 nod : st.nodes.length ≤ 4096
 spn : st.spans.length ≤ st.i
 shr : st.shared.length ≤ st.spans.length
 mrk : st.marks.length ≤ st.spans.length
 by_ : ∀ nd ∈ st.nodes, By nd.text
 kl : ∀ nd ∈ st.nodes, nd.keys.length ≤ st.i ∧ nd.items.length ≤ st.i
 ks : ∀ nd ∈ st.nodes, ∀ z ∈ nd.keys, ∃ k : Nat, z = (k : Int) ∧ k < st.nodes.length
theorem CI.to {s : List Nat} {st : CSt} (h : CI s st) {j : Nat} (h1 : st.i ≤ j) (h2 : j ≤ s.length) : CI s { st with i := j } :=
 ⟨h2, h.nod, Nat.le_trans h.spn h1, h.shr, h.mrk, h.by_, fun nd hn => ⟨Nat.le_trans (h.kl nd hn).1 h1, Nat.le_trans (h.kl nd hn).2 h1⟩, h.ks⟩
structure CV (s : List Nat) (p : Nat → Prop) (st st' : CSt) : Prop where
 ci : CI s st'
 i : st.i ≤ st'.i
 spn : st.spans.length ≤ st'.spans.length
 shr : st.shared.length ≤ st'.shared.length
 nod : st.nodes.length ≤ st'.nodes.length
 old : ∀ q, q < st.nodes.length → p q → ndAt st'.nodes q = ndAt st.nodes q
theorem CV.trans {s : List Nat} {p : Nat → Prop} {a b c : CSt} (h : CV s p a b) (k : CV s p b c) : CV s p a c :=
 ⟨k.ci, Nat.le_trans h.i k.i, Nat.le_trans h.spn k.spn, Nat.le_trans h.shr k.shr, Nat.le_trans h.nod k.nod, fun q hq hp => (k.old q (Nat.lt_of_lt_of_le hq h.nod) hp).trans (h.old q hq hp)⟩
theorem CV.weak {s : List Nat} {p p' : Nat → Prop} {a b : CSt} (h : CV s p a b) (hp : ∀ q, q < a.nodes.length → p' q → p q) : CV s p' a b :=
 ⟨h.ci, h.i, h.spn, h.shr, h.nod, fun q hq hq' => h.old q hq (hp q hq hq')⟩
theorem ndAt_app {N : List GNode} {x : GNode} {q : Nat} (h : q < N.length) : ndAt (N ++ [x]) q = ndAt N q := by
 unfold ndAt
 rw [List.getD_eq_getElem?_getD, List.getD_eq_getElem?_getD, List.getElem?_append_left h]
theorem ndAt_put {N : List GNode} {x : GNode} {n q : Nat} (h : q ≠ n) : ndAt (N.set n x) q = ndAt N q := by
 unfold ndAt
 rw [List.getD_eq_getElem?_getD, List.getD_eq_getElem?_getD, List.getElem?_set_ne (fun e => h e.symm)]
theorem ndAt_same {N : List GNode} {x : GNode} {n : Nat} (h : n < N.length) : ndAt (N.set n x) n = x := by
 unfold ndAt
 rw [List.getD_eq_getElem?_getD, List.getElem?_set_self h]
 rfl
theorem add_facts {st st' : CSt} {nd : GNode} {a d n : Nat} (hh : addC st nd a d = .ok (n, st')) : n = st.nodes.length ∧ st' = { st with nodes := st.nodes ++ [nd] } ∧ st.nodes.length < 4096 ∧ d ≤ 32 := by
 unfold addC at hh
 split at hh
 ·cases hh
 split at hh
 ·cases hh
 ·cases hh; exact ⟨rfl, rfl, by omega, by omega⟩
theorem CI.add {s : List Nat} {st : CSt} (h : CI s st) {nd : GNode} (hb : By nd.text) (hk : nd.keys = []) (hi : nd.items = []) (hl : st.nodes.length < 4096) : CI s { st with nodes := st.nodes ++ [nd] } := by
 refine ⟨h.i, by simp; omega, h.spn, h.shr, h.mrk, fun x hx => ?_, fun x hx => ?_, fun x hx z hz => ?_⟩
 ·rcases List.mem_append.1 hx with e | e
  ·exact h.by_ x e
  ·rw [List.mem_singleton.1 e]; exact hb
 ·rcases List.mem_append.1 hx with e | e
  ·exact h.kl x e
  ·rw [List.mem_singleton.1 e, hk, hi]; exact ⟨Nat.zero_le _, Nat.zero_le _⟩
 ·rcases List.mem_append.1 hx with e | e
  ·obtain ⟨k, h1, h2⟩ := h.ks x e z hz
   exact ⟨k, h1, by simp; omega⟩
  ·rw [List.mem_singleton.1 e, hk] at hz; cases hz
theorem CI.put {s : List Nat} {st : CSt} (h : CI s st) {n : Nat} {nd : GNode} (hb : By nd.text) (hk : nd.keys.length ≤ st.i ∧ nd.items.length ≤ st.i) (hz : ∀ z ∈ nd.keys, ∃ k : Nat, z = (k : Int) ∧ k < st.nodes.length) : CI s { st with nodes := st.nodes.set n nd } := by
 refine ⟨h.i, by simp; exact h.nod, h.spn, h.shr, h.mrk, fun x hx => ?_, fun x hx => ?_, fun x hx z hz2 => ?_⟩
 ·rcases List.mem_or_eq_of_mem_set hx with e | e
  ·exact h.by_ x e
  ·rw [e]; exact hb
 ·rcases List.mem_or_eq_of_mem_set hx with e | e
  ·exact h.kl x e
  ·rw [e]; exact hk
 ·have hl : (st.nodes.set n nd).length = st.nodes.length := List.length_set ..
  show ∃ k : Nat, z = (k : Int) ∧ k < (st.nodes.set n nd).length
  rw [hl]
  rcases List.mem_or_eq_of_mem_set hx with e | e
  ·exact h.ks x e z hz2
  ·rw [e] at hz2; exact hz z hz2
theorem key_ci {s : List Nat} (hs : By s) {h : CH} {n d : Nat} {st st' : CSt} (hc : CI s st) (hn : n < st.nodes.length) (hk : (ndAt st.nodes n).keys.length < st.i) (hh : keyC s h n d st = .ok st') :
  CV s (fun q => q ≠ n) st st' ∧ st'.spans = st.spans ∧ (ndAt st'.nodes n).items = (ndAt st.nodes n).items ∧ (ndAt st'.nodes n).keys.length ≤ st.i := by
 unfold keyC at hh
 split at hh
 ·cases hh
 obtain ⟨⟨x, i1⟩, h1, h2⟩ := CR.bind_ok hh
 obtain ⟨⟨k, st1⟩, h3, h4⟩ := CR.bind_ok h2
 dsimp only at h3 h4
 have hl := scal_le hs hc.i h1
 have hlf := scal_leaf h1
 obtain ⟨rfl, rfl, h5, h6⟩ := add_facts h3
 have c1 := (hc.to hl.1 hl.2).add (scal_by hs h1) hlf.2.1 hlf.2.2 h5
 split at h4
 ·cases h4
 ·cases h4
  have hn0 := ndAt_app (x := x) hn
  have hmem := ndAt_mem hn
  dsimp only at c1 h5 ⊢
  rw [hn0]
  refine ⟨⟨CI.put (st := { st with i := i1, nodes := st.nodes ++ [x] }) c1 (hc.by_ (ndAt st.nodes n) hmem) ⟨by simp; omega, Nat.le_trans (hc.kl (ndAt st.nodes n) hmem).2 hl.1⟩ (fun z hz => ?_), hl.1, Nat.le_refl _, Nat.le_refl _, by simp, fun q hq hp => ?_⟩, rfl, ?_, ?_⟩
  ·show ∃ k : Nat, z = (k : Int) ∧ k < (st.nodes ++ [x]).length
   rcases List.mem_append.1 hz with e | e
   ·obtain ⟨k, e1, e2⟩ := hc.ks _ hmem z e
    exact ⟨k, e1, by simp; omega⟩
   ·exact ⟨st.nodes.length, List.mem_singleton.1 e, by simp⟩
  ·show ndAt ((st.nodes ++ [x]).set n _) q = ndAt st.nodes q
   rw [ndAt_put hp, ndAt_app hq]
  ·rw [ndAt_same (by simp; omega)]
  ·rw [ndAt_same (by simp; omega)]; simp; omega
theorem ndAt_modK {s : List Nat} {st : CSt} (h : CI s st) (f : List JSpan → List JSpan) (hf : (f st.spans).length = st.spans.length) : CI s { st with spans := f st.spans } :=
 ⟨h.i, h.nod, by show (f st.spans).length ≤ _; rw [hf]; exact h.spn, by show _ ≤ (f st.spans).length; rw [hf]; exact h.shr, by show _ ≤ (f st.spans).length; rw [hf]; exact h.mrk, h.by_, h.kl, h.ks⟩
def ValK (s : List Nat) (f : Nat) : Prop := ∀ h sp d st r st', CI s st → st.spans.length < st.i → valueC s f h sp d st = .ok (r, st') → CV s (fun _ => True) st st' ∧ st.spans.length < st'.spans.length
def DefK (s : List Nat) (f : Nat) : Prop := ∀ h fr span d lab st r st', CI s st → defineC s f h fr span d lab st = .ok (r, st') → CV s (fun _ => True) st st'
def ConK (s : List Nat) (f : Nat) : Prop := ∀ h n span d k st st', CI s st → n < st.nodes.length → contentC s f h n span d k st = .ok st' → CV s (fun q => q ≠ n) st st'
theorem CI.push {s : List Nat} {st : CSt} (h : CI s st) (hl : st.spans.length < st.i) (sp : JSpan) : CI s { st with spans := st.spans ++ [sp] } :=
 ⟨h.i, h.nod, by simp; omega, by have := h.shr; simp; omega, by have := h.mrk; simp; omega, h.by_, h.kl, h.ks⟩
theorem val_k {s : List Nat} (hs : By s) {f : Nat} (hd : DefK s f) : ValK s (f + 1) := by
 intro h sp d st r st' hc hl hh
 unfold valueC at hh
 dsimp only at hh
 obtain ⟨⟨h2, i2⟩, e1, e2⟩ := CR.bind_ok hh
 have hi2 : st.i ≤ i2 ∧ i2 ≤ s.length := by
  split at e1
  ·obtain ⟨_, q1, q2, _⟩ := hd_facts hs e1; omega
  ·cases e1; exact ⟨Nat.le_refl _, hc.i⟩
 dsimp only at e2
 split at e2
 ·cases e2
 obtain ⟨⟨n, st4⟩, e3, e4⟩ := CR.bind_ok e2
 obtain ⟨st3, hst3⟩ : ∃ x, ({ (if h.tag 28 = true then ({ st with spans := st.spans ++ [{ sp with from_ := (h.at_ : Int), whole := true }], shared := st.shared ++ [-1], marks := st.marks ++ [(h.at_ : Int)] } : CSt) else { st with spans := st.spans ++ [{ sp with from_ := (h.at_ : Int), whole := true }] }) with i := i2 } : CSt) = x := ⟨_, rfl⟩
 have hC3 : CI s st3 ∧ st.i ≤ st3.i ∧ st3.spans.length = st.spans.length + 1 ∧ st.shared.length ≤ st3.shared.length ∧ st3.nodes = st.nodes := by
  rw [← hst3]
  have c1 := (hc.push hl { sp with from_ := (h.at_ : Int), whole := true }).to hi2.1 hi2.2
  split
  ·refine ⟨⟨c1.i, c1.nod, c1.spn, ?_, ?_, c1.by_, c1.kl, c1.ks⟩, hi2.1, by simp, by simp, rfl⟩
   ·have := hc.shr; simp; omega
   ·have := hc.mrk; simp; omega
  ·exact ⟨c1, hi2.1, by simp, Nat.le_refl _, rfl⟩
 rw [hst3] at e3
 have hV4 : CV s (fun _ => True) st3 st4 := by
  split at e3
  ·obtain ⟨⟨v, st5⟩, e5, e6⟩ := CR.bind_ok e3
   unfold aliasC at e5
   obtain ⟨⟨x, i5⟩, e7, e8⟩ := CR.bind_ok e5
   obtain ⟨_, q1, q2, _⟩ := hd_facts hs e7
   dsimp only at e8
   split at e8
   ·cases e8
   split at e8
   ·cases e8
   ·cases e8
    cases e6
    have c5 := hC3.1.to (j := i5) (by omega) q2
    refine ⟨ndAt_modK c5 (fun l => l.modify st.spans.length fun x => { x with alias_ := true }) (by simp), by show st3.i ≤ i5; omega, by simp, Nat.le_refl _, Nat.le_refl _, fun _ _ _ => rfl⟩
  ·exact hd _ _ _ _ _ _ _ _ hC3.1 e3
 cases e4
 refine ⟨⟨ndAt_modK hV4.ci (fun l => l.modify st.spans.length fun x => { x with node := _, to_ := _ }) (by simp), Nat.le_trans hC3.2.1 hV4.i, ?_, Nat.le_trans hC3.2.2.2.1 hV4.shr, by show _ ≤ st4.nodes.length; rw [← hC3.2.2.2.2]; exact hV4.nod, fun q hq _ => ?_⟩, ?_⟩
 ·have := hV4.spn; simp; omega
 ·show ndAt st4.nodes q = _
  rw [hV4.old q (by rw [hC3.2.2.2.2]; exact hq) trivial, hC3.2.2.2.2]
 ·have := hV4.spn; simp; omega
theorem def_k {s : List Nat} (hs : By s) {f : Nat} (hcn : ConK s f) : DefK s (f + 1) := by
 intro h fr span d lab st r st' hc hh
 unfold defineC at hh
 dsimp only at hh
 obtain ⟨⟨x, i1⟩, e1, e2⟩ := CR.bind_ok hh
 have hx : st.i ≤ i1 ∧ i1 ≤ s.length ∧ By x.text ∧ x.keys = [] ∧ x.items = [] := by
  split at e1
  ·cases e1; exact ⟨Nat.le_refl _, hc.i, By.nil, rfl, rfl⟩
  split at e1
  ·cases e1; exact ⟨Nat.le_refl _, hc.i, By.nil, rfl, rfl⟩
  split at e1
  ·cases e1
  ·have h1 := scal_le hs hc.i e1
   have h2 := scal_leaf e1
   exact ⟨h1.1, h1.2, scal_by hs e1, h2.2.1, h2.2.2⟩
 dsimp only at e2
 obtain ⟨⟨n, st1⟩, e3, e4⟩ := CR.bind_ok e2
 obtain ⟨rfl, rfl, h5, _⟩ := add_facts e3
 have c1 := (hc.to hx.1 hx.2.1).add hx.2.2.1 hx.2.2.2.1 hx.2.2.2.2 h5
 dsimp only at e4 h5 c1
 obtain ⟨st2, hst2⟩ : ∃ y, (if 0 ≤ lab then ({ st with i := i1, nodes := st.nodes ++ [x], shared := st.shared.set lab.toNat (st.nodes.length : Int) } : CSt) else { st with i := i1, nodes := st.nodes ++ [x] }) = y := ⟨_, rfl⟩
 have hC2 : CI s st2 ∧ st2.i = i1 ∧ st2.spans = st.spans ∧ st2.shared.length = st.shared.length ∧ st2.nodes = st.nodes ++ [x] := by
  rw [← hst2]
  split
  ·exact ⟨⟨c1.i, c1.nod, c1.spn, by have := c1.shr; simpa using this, c1.mrk, c1.by_, c1.kl, c1.ks⟩, rfl, rfl, by simp, rfl⟩
  ·exact ⟨c1, rfl, rfl, rfl, rfl⟩
 have hV2 : CV s (fun _ => True) st st2 := ⟨hC2.1, by rw [hC2.2.1]; exact hx.1, by rw [hC2.2.2.1]; exact Nat.le_refl _, by rw [hC2.2.2.2.1]; exact Nat.le_refl _, by rw [hC2.2.2.2.2]; simp, fun q hq _ => by rw [hC2.2.2.2.2, ndAt_app hq]⟩
 rw [hst2] at e4
 split at e4
 ·obtain ⟨st3, e5, e6⟩ := CR.bind_ok e4
  cases e6
  have h7 := hcn _ _ _ _ _ _ _ hC2.1 (by rw [hC2.2.2.2.2]; simp) e5
  exact ⟨h7.ci, Nat.le_trans hV2.i h7.i, Nat.le_trans hV2.spn h7.spn, Nat.le_trans hV2.shr h7.shr, Nat.le_trans hV2.nod h7.nod, fun q hq _ => (h7.old q (Nat.lt_of_lt_of_le hq hV2.nod) (by omega)).trans (hV2.old q hq trivial)⟩
 ·cases e4
  exact hV2
theorem con_k {s : List Nat} (hs : By s) {f : Nat} (hv : ValK s f) (hcn : ConK s f) : ConK s (f + 1) := by
 intro h n span d k st st' hc hn hh
 unfold contentC at hh
 split at hh
 ·obtain ⟨⟨x, i1⟩, e1, e2⟩ := CR.bind_ok hh
  obtain ⟨_, q1, q2, _⟩ := hd_facts hs e1
  dsimp only at e2
  have c1 := hc.to (j := i1) (by omega) q2
  have v1 : CV s (fun q => q ≠ n) st { st with i := i1 } := ⟨c1, by show st.i ≤ i1; omega, Nat.le_refl _, Nat.le_refl _, Nat.le_refl _, fun _ _ _ => rfl⟩
  have hmem := ndAt_mem hn
  have hkl := hc.kl _ hmem
  split at e2
  ·cases e2; exact v1
  ·obtain ⟨⟨y, sp2, st2⟩, e3, e4⟩ := CR.bind_ok e2
   have h2 : CV s (fun q => q ≠ n) st st2 ∧ st2.spans = st.spans ∧ (ndAt st2.nodes n).items = (ndAt st.nodes n).items ∧ st.i < st2.i := by
    split at e3
    ·obtain ⟨st1, e5, e6⟩ := CR.bind_ok e3
     obtain ⟨⟨y2, i2⟩, e7, e8⟩ := CR.bind_ok e6
     cases e8
     obtain ⟨g1, g2, g3, g4⟩ := key_ci hs c1 hn (by show (ndAt st.nodes n).keys.length < i1; omega) e5
     obtain ⟨_, r1, r2, _⟩ := hd_facts hs e7
     have c2 := g1.ci.to (j := i2) (by omega) r2
     have g1i := g1.i
     dsimp only at g1i
     exact ⟨v1.trans ⟨c2, by show i1 ≤ i2; omega, g1.spn, g1.shr, g1.nod, g1.old⟩, g2, g3, by show st.i < i2; omega⟩
    ·cases e3; exact ⟨v1, rfl, rfl, q1⟩
   dsimp only at e4
   obtain ⟨⟨item, st3⟩, e9, ea⟩ := CR.bind_ok e4
   have hsp : st2.spans.length < st2.i := by rw [h2.2.1]; have := hc.spn; omega
   obtain ⟨h3, h3'⟩ := hv _ _ _ _ _ _ h2.1.ci hsp e9
   have hn2 : n < st2.nodes.length := Nat.lt_of_lt_of_le hn h2.1.nod
   have hn3 : n < st3.nodes.length := Nat.lt_of_lt_of_le hn2 h3.nod
   have hnd3 := h3.old n hn2 trivial
   have hm3 := ndAt_mem hn3
   dsimp only at ea
   have hit : (ndAt st3.nodes n).items.length < st3.i := by
    rw [hnd3, h2.2.2.1]
    have := h3.i
    omega
   have c4 := h3.ci.put (n := n) (nd := { ndAt st3.nodes n with items := (ndAt st3.nodes n).items ++ [item] }) (h3.ci.by_ (ndAt st3.nodes n) hm3) ⟨(h3.ci.kl (ndAt st3.nodes n) hm3).1, by simp; omega⟩ (h3.ci.ks (ndAt st3.nodes n) hm3)
   have v4 : CV s (fun q => q ≠ n) st3 { st3 with nodes := st3.nodes.set n { ndAt st3.nodes n with items := (ndAt st3.nodes n).items ++ [item] } } := ⟨c4, Nat.le_refl _, Nat.le_refl _, Nat.le_refl _, by simp, fun q _ hp => ndAt_put hp⟩
   have v5 := hcn _ _ _ _ _ _ _ c4 (by simpa using hn3) ea
   exact ((h2.1.trans (h3.weak (fun _ _ _ => trivial))).trans v4).trans v5
 ·cases hh
  exact ⟨hc, Nat.le_refl _, Nat.le_refl _, Nat.le_refl _, Nat.le_refl _, fun _ _ _ => rfl⟩
theorem all_k {s : List Nat} (hs : By s) (f : Nat) : ValK s f ∧ DefK s f ∧ ConK s f := by
 induction f with
 | zero =>
  refine ⟨?_, ?_, ?_⟩
  ·intro _ _ _ _ _ _ _ _ h; unfold valueC at h; cases h
  ·intro _ _ _ _ _ _ _ _ _ h; unfold defineC at h; cases h
  ·intro _ _ _ _ _ _ _ _ _ h; unfold contentC at h; cases h
 | succ f ih => exact ⟨val_k hs ih.2.1, def_k hs ih.2.2, con_k hs ih.1 ih.2.2⟩
end Go.Proofs.YtbhigefbihpnlaaGreatDoor
namespace Go.Proofs.YtbhigefbihpnlaaGreatDoor
open Go.RowKit
def LibA (B : Nat) (w : World) : Prop := ∀ w', Below B w w' → LibE w'
theorem LibA.h {B : Nat} {w : World} (h : LibA B w) (hB : B ≤ w.heap.size) : LibH w B := fun w' hf => h w' ⟨hf.os, hf.tape, hf.output, hf.size, fun k hk => hf.keep k (by omega) (by omega)⟩
theorem LibA.step {B : Nat} {w w' : World} (h : LibA B w) (hb : Below B w w') : LibA B w' := fun w2 h2 => h w2 (hb.trans h2)
structure PW (s : List Nat) (w : World) (B : Nat) (vn vs vh vm : Value) (ncs : List Value) (lab : Nat → Option Nat) (st : CSt) : Prop where
 by_ : By s
 len : s.length ≤ 65536
 ci : CI s st
 cm : CM w B s vn vs vh vm ncs lab st
 lib : LibA B w
section
variable {s : List Nat} {w w' : World} {B : Nat} {vn vs vh vm vn' vs' vh' vm' : Value} {ncs ncs' : List Value} {lab lab' : Nat → Option Nat} {st st' : CSt} {F' : Nat → Prop}
theorem PW.low (h : PW s w B vn vs vh vm ncs lab st) (hs : PStep w w' (CF B vn vs lab) F') : Below B w w' := hs.below h.cm.cfB (Nat.le_of_lt h.cm.lt)
theorem PW.step (h : PW s w B vn vs vh vm ncs lab st) (hs : PStep w w' (CF B vn vs lab) F') (hc : CM w' B s vn' vs' vh' vm' ncs' lab' st') (hi : CI s st') : PW s w' B vn' vs' vh' vm' ncs' lab' st' :=
 ⟨h.by_, h.len, hi, hc, h.lib.step (h.low hs)⟩
theorem PW.libH (h : PW s w B vn vs vh vm ncs lab st) : LibH w B := h.lib.h (Nat.le_of_lt h.cm.lt)
theorem PW.below (h : PW s w B vn vs vh vm ncs lab st) (hb : Below w.heap.size w w') : PW s w' B vn vs vh vm ncs lab st := h.step (PStep.of_below hb) (h.cm.below hb) h.ci
theorem PW.new (h : PW s w B vn vs vh vm ncs lab st) {g : Nat} (hg : w.heap.size ≤ g) : ¬ CF B vn vs lab g := fun hf => by have := h.cm.cfLt g hf; omega
end
def ValP (s : List Nat) (w : World) (B : Nat) (F : Nat → Prop) (r : CR (Int × CSt)) (e : Ending) (w' : World) : Prop :=
 match r with
 | .ok (v, st') => e = .returned (.tuple #[.int .i64 v, .nilIface]) ∧ ∃ vn vs vh vm ncs lab, CM w' B s vn vs vh vm ncs lab st' ∧ PStep w w' F (CF B vn vs lab)
 | .err a c => e = .returned (.tuple #[.int .i64 0, faultV a c]) ∧ ∃ F', PStep w w' F F'
 | .no => True
def ConP (s : List Nat) (w : World) (B : Nat) (F : Nat → Prop) (r : CR CSt) (e : Ending) (w' : World) : Prop :=
 match r with
 | .ok st' => e = .returned .nilIface ∧ ∃ vn vs vh vm ncs lab, CM w' B s vn vs vh vm ncs lab st' ∧ PStep w w' F (CF B vn vs lab)
 | .err a c => e = .returned (faultV a c) ∧ ∃ F', PStep w w' F F'
 | .no => True
section
variable {s : List Nat} {w w' : World} {B : Nat} {F : Nat → Prop} {e : Ending}
theorem ValP.of_ok {r : CR (Int × CSt)} {v : Int} {st' : CSt} (hr : r = .ok (v, st')) (he : e = .returned (.tuple #[.int .i64 v, .nilIface])) {vn vs vh vm : Value} {ncs : List Value} {lab : Nat → Option Nat} (hc : CM w' B s vn vs vh vm ncs lab st') (hs : PStep w w' F (CF B vn vs lab)) : ValP s w B F r e w' := by
 unfold ValP; rw [hr]; exact ⟨he, vn, vs, vh, vm, ncs, lab, hc, hs⟩
theorem ValP.of_err {r : CR (Int × CSt)} {a c : Nat} (hr : r = .err a c) (he : e = .returned (.tuple #[.int .i64 0, faultV a c])) {F' : Nat → Prop} (hs : PStep w w' F F') : ValP s w B F r e w' := by
 unfold ValP; rw [hr]; exact ⟨he, F', hs⟩
theorem ConP.of_ok {r : CR CSt} {st' : CSt} (hr : r = .ok st') (he : e = .returned .nilIface) {vn vs vh vm : Value} {ncs : List Value} {lab : Nat → Option Nat} (hc : CM w' B s vn vs vh vm ncs lab st') (hs : PStep w w' F (CF B vn vs lab)) : ConP s w B F r e w' := by
 unfold ConP; rw [hr]; exact ⟨he, vn, vs, vh, vm, ncs, lab, hc, hs⟩
theorem ConP.of_err {r : CR CSt} {a c : Nat} (hr : r = .err a c) (he : e = .returned (faultV a c)) {F' : Nat → Prop} (hs : PStep w w' F F') : ConP s w B F r e w' := by
 unfold ConP; rw [hr]; exact ⟨he, F', hs⟩
end
def ValH (f : Nat) : Prop := ∀ (s : List Nat) (w : World) (B : Nat) (vn vs vh vm : Value) (ncs : List Value) (lab : Nat → Option Nat) (st : CSt) (h : CH) (sp : JSpan) (d : Nat), PW s w B vn vs vh vm ncs lab st → st.spans.length < st.i → h.arg < 18446744073709551616 → d ≤ 33 → valueC s f h sp d st ≠ .no →
 Calls Tryz.prog 22 #[.pointer (some ⟨B, 0, none⟩), headV h, .agg (spanC sp).toArray, .int .i64 (d : Int)] w (ValP s w B (CF B vn vs lab) (valueC s f h sp d st))
def DefH (f : Nat) : Prop := ∀ (s : List Nat) (w : World) (B : Nat) (vn vs vh vm : Value) (ncs : List Value) (lab : Nat → Option Nat) (st : CSt) (h : CH) (fr span d : Nat) (la : Int) (lb pb : Nat), PW s w B vn vs vh vm ncs lab st → h.arg < 18446744073709551616 → d ≤ 33 → la < st.shared.length →
 Arr w lb 3 [.int .i64 la] → Arr w pb 43 [.pointer (some ⟨B, 0, none⟩)] → ¬ CF B vn vs lab lb → ¬ CF B vn vs lab pb → defineC s f h fr span d la st ≠ .no →
 Calls Tryz.prog 41 #[.pointer (some ⟨B, 0, none⟩), headV h, .int .i64 (fr : Int), .int .i64 (span : Int), .int .i64 (d : Int), .func (.func 42) #[] #[.pointer (some ⟨lb, 0, none⟩), .pointer (some ⟨pb, 0, none⟩)]] w (ValP s w B (CF B vn vs lab) (defineC s f h fr span d la st))
def ConH (f : Nat) : Prop := ∀ (s : List Nat) (w : World) (B : Nat) (vn vs vh vm : Value) (ncs : List Value) (lab : Nat → Option Nat) (st : CSt) (h : CH) (n span d : Nat), PW s w B vn vs vh vm ncs lab st → n < st.nodes.length → h.arg < 18446744073709551616 → d ≤ 33 → contentC s f h n span d 0 st ≠ .no →
 Calls Tryz.prog 55 #[.pointer (some ⟨B, 0, none⟩), headV h, .int .i64 (n : Int), .int .i64 (span : Int), .int .i64 (d : Int)] w (ConP s w B (CF B vn vs lab) (contentC s f h n span d 0 st))
def knownC (la : Int) (n : Nat) (st : CSt) : CSt := if 0 ≤ la then { st with shared := st.shared.set la.toNat (n : Int) } else st
set_option maxRecDepth 20000 in
set_option maxHeartbeats 4000000 in
theorem known_cb {s : List Nat} {w : World} {B lb pb : Nat} {vn vs vh vm : Value} {ncs : List Value} {lab : Nat → Option Nat} {st : CSt} {la : Int} (h : CM w B s vn vs vh vm ncs lab st) (hl : Arr w lb 3 [.int .i64 la]) (hp : Arr w pb 43 [.pointer (some ⟨B, 0, none⟩)]) (hla : la < st.shared.length) (hsl : st.shared.length ≤ 70000) (n : Nat) :
  Calls Tryz.prog 42 #[.int .i64 (n : Int), .pointer (some ⟨lb, 0, none⟩), .pointer (some ⟨pb, 0, none⟩)] w fun e w' => e = .returned (.tuple #[]) ∧ CM w' B s vn vs vh vm ncs lab (knownC la n st) ∧ PStep w w' (CF B vn vs lab) (CF B vn vs lab) := by
 have l0 := hl.cell' (i := 0) rfl
 have p0 := hp.cell' (i := 0) rfl
 have c8 := h.par.cell' (i := 8) rfl
 by_cases h0 : 0 ≤ la
 ·obtain ⟨k, rfl⟩ : ∃ k : Nat, la = (k : Int) := ⟨la.toNat, by omega⟩
  obtain ⟨gs, c, hv, _, _⟩ := own_some h.shr.1 (by omega)
  subst hv
  have hset := h.drew.sharedSet (gh := gs) (cap := c) rfl k (n : Int)
  have e : knownC (k : Int) n st = { st with shared := st.shared.set k (n : Int) } := by unfold knownC; rw [if_pos h0]; rfl
  rw [← e] at hset
  obtain ⟨z, hk⟩ : ∃ z, (st.shared)[k]? = some z := ⟨_, List.getElem?_eq_getElem (by omega)⟩
  have s0 := own_cell1 h.shr.1 (i := k) (I64_get hk)
  obtain ⟨s0, sf⟩ := s0
  have H2 := Lib.hid hset
  have h1 : (k : Int) < st.shared.length := hla
  have hkk : (k : Int) ≤ 70000 := by omega
  clear hset e hk h hl hp hla hsl
  go_enter Tryz.func42, Tryz.ntmps42
  go_upto_region 1 with (fail)
  go_region
  all_goals
   go_wp2
   go_end0
   exact ⟨rfl, H2.out.1, (PStep.of_below (Below.drew (Below.refl _ _))).trans H2.out.2⟩
 ·have e : knownC la n st = st := by unfold knownC; rw [if_neg h0]
  rw [e]
  have HH := Lib.hid h
  have h0' : ¬ la ≥ 0 := h0
  clear e h hl hp hla hsl h0
  go_enter Tryz.func42, Tryz.ntmps42
  go_wp2
  go_end0
  exact ⟨rfl, HH.out, PStep.of_below (Below.refl _ _)⟩
end Go.Proofs.YtbhigefbihpnlaaGreatDoor
namespace Go.Proofs.YtbhigefbihpnlaaGreatDoor
open Go.RowKit
theorem hd_no (s : List Nat) (i : Nat) : hdC s i ≠ .no := by
 unfold hdC
 intro h
 repeat' split at h
 all_goals cases h
def itemC (s : List Nat) (g : Nat) (h : CH) (n span d k : Nat) (p : Int × CSt) : CR CSt :=
 contentC s g h n span d (k + 1) { p.2 with nodes := p.2.nodes.set n { ndAt p.2.nodes n with items := (ndAt p.2.nodes n).items ++ [p.1] } }
section
variable {s : List Nat} {g : Nat} {h x y : CH} {n span d k i1 i2 : Nat} {st st1 : CSt}
theorem con_done (hc : ¬ (h.info = 31 ∨ k < h.arg)) : contentC s (g + 1) h n span d k st = .ok st := by
 unfold contentC; rw [if_neg hc]
theorem con_err {a c : Nat} (hc : h.info = 31 ∨ k < h.arg) (hx : hdC s st.i = .err a c) : contentC s (g + 1) h n span d k st = .err a c := by
 unfold contentC; rw [if_pos hc, hx]; rfl
theorem con_ends (hc : h.info = 31) (hx : hdC s st.i = .ok (x, i1)) (he : x.ends = true) : contentC s (g + 1) h n span d k st = .ok { st with i := i1 } := by
 unfold contentC; rw [if_pos (.inl hc), hx]
 show (if h.info = 31 ∧ x.ends = true then _ else _) = _
 rw [if_pos ⟨hc, he⟩]
theorem con_list (hc : h.info = 31 ∨ k < h.arg) (hx : hdC s st.i = .ok (x, i1)) (he : ¬ (h.info = 31 ∧ x.ends = true)) (h5 : h.major ≠ 5) :
  contentC s (g + 1) h n span d k st = (valueC s g x ⟨0, (span : Int), (k : Int), 0, 0, 0, 0, false, false⟩ d { st with i := i1 }).bind (itemC s g h n span d k) := by
 unfold contentC; rw [if_pos hc, hx]
 show (if h.info = 31 ∧ x.ends = true then _ else _) = _
 rw [if_neg he]
 show CR.bind (if h.major = 5 then _ else _) _ = _
 rw [if_neg h5]
 rfl
theorem con_key (hc : h.info = 31 ∨ k < h.arg) (hx : hdC s st.i = .ok (x, i1)) (he : ¬ (h.info = 31 ∧ x.ends = true)) (h5 : h.major = 5) :
  contentC s (g + 1) h n span d k st = (keyC s x n d { st with i := i1 }).bind fun st1 => (hdC s st1.i).bind fun q => (valueC s g q.1 ⟨0, (span : Int), (k : Int), 0, 0, (x.at_ : Int), (st1.i : Int), false, false⟩ d { st1 with i := q.2 }).bind (itemC s g h n span d k) := by
 unfold contentC; rw [if_pos hc, hx]
 show (if h.info = 31 ∧ x.ends = true then _ else _) = _
 rw [if_neg he]
 show CR.bind (if h.major = 5 then _ else _) _ = _
 rw [if_pos h5]
 cases keyC s x n d { st with i := i1 } with
 | no => rfl
 | err a c => rfl
 | ok st1 =>
  show ((hdC s st1.i).bind _).bind _ = (hdC s st1.i).bind _
  cases hdC s st1.i with
  | no => rfl
  | err a c => rfl
  | ok q => rfl
end
theorem CI.item {s : List Nat} {st : CSt} (h : CI s st) {n : Nat} (hn : n < st.nodes.length) (hl : (ndAt st.nodes n).items.length < st.i) (v : Int) : CI s { st with nodes := st.nodes.set n { ndAt st.nodes n with items := (ndAt st.nodes n).items ++ [v] } } :=
 h.put (h.by_ (ndAt st.nodes n) (ndAt_mem hn)) ⟨(h.kl (ndAt st.nodes n) (ndAt_mem hn)).1, by simp; omega⟩ (h.ks (ndAt st.nodes n) (ndAt_mem hn))
section
variable {s : List Nat} {w w1 w' : World} {B : Nat} {vn vs vh vm : Value} {ncs : List Value} {lab : Nat → Option Nat} {st : CSt} {F F' : Nat → Prop}
theorem CM.aside (h : CM w B s vn vs vh vm ncs lab st) {g : Nat} (hg : ¬ CF B vn vs lab g) (i : Nat) (u : Value) : CM (w.setCell ⟨g, i, none⟩ u) B s vn vs vh vm ncs lab st := by
 have hB : g ≠ B := fun e => hg (.inl e)
 have hrow : ∀ {t v xs}, BRow w B lab t v xs → BRow (w.setCell ⟨g, i, none⟩ u) B lab t v xs := fun hr => hr.far (p := ⟨g, i, none⟩) (fun e => hg (.inr (.inr (.inr (by rw [hr.2 g e]; rfl))))) u
 exact ⟨h.par.far (p := ⟨g, i, none⟩) (Ne.symm hB) u, own_far h.nod (p := ⟨g, i, none⟩) (fun e => hg (.inr (.inl e))) u, fun i nd hi => (h.nds i nd hi).map (fun _ _ _ _ hr => hrow hr), own_far h.spn (p := ⟨g, i, none⟩) (fun e => hg (.inr (.inr (.inl e)))) u, hrow h.shr, hrow h.mrk, fun x hx => by have := h.labB x hx; simpa [World.setCell] using this⟩
theorem PStep.aside (h : PStep w w1 F F') {g : Nat} (hg : w.heap.size ≤ g) (i : Nat) (u : Value) : PStep w (w1.setCell ⟨g, i, none⟩ u) F F' :=
 ⟨h.os, h.tape, h.output, by have := h.size; simpa [World.setCell] using this, fun k hk hF => (setCell_heap_ne _ _ _ (fun e => by have : k = g := e; omega)).trans (h.keep k hk hF), h.new⟩
theorem PW.aside (h : PW s w B vn vs vh vm ncs lab st) {g : Nat} (hg : ¬ CF B vn vs lab g) (hB : B ≤ g) (i : Nat) (u : Value) : PW s (w.setCell ⟨g, i, none⟩ u) B vn vs vh vm ncs lab st :=
 ⟨h.by_, h.len, h.ci, h.cm.aside hg i u, h.lib.step (Below.setCell (p := ⟨g, i, none⟩) (Below.refl _ _) hB u)⟩
theorem PW.drew (h : PW s w B vn vs vh vm ncs lab st) : PW s w.drew B vn vs vh vm ncs lab st := h.below (Below.drew (Below.refl _ _))
end
end Go.Proofs.YtbhigefbihpnlaaGreatDoor
