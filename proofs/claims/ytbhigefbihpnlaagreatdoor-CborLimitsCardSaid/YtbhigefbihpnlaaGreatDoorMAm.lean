/- graph's components and depth in plain words: the steps as the program takes them. No program is mentioned here. -/
import Derived.Test.YtbhigefbihpnlaaGreatDoorMAh
set_option linter.unusedVariables false
set_option linter.unusedSimpArgs false
set_option linter.defProp false
set_option linter.constructorNameAsVariable false
namespace Go.Proofs.YtbhigefbihpnlaaGreatDoor
structure TS where
 nx : Nat
 index : List Int
 low : List Int
 inn : List Int
 sizes : List Int
 stack : List Int
 on : List Bool
def gI (l : List Int) (x : Int) : Int := l.getD x.toNat 0
def sI (l : List Int) (x v : Int) : List Int := l.set x.toNat v
def pushT (at_ : Int) (s : TS) : TS := ⟨s.nx + 1, sI s.index at_ (s.nx + 1 : Nat), sI s.low at_ (s.nx + 1 : Nat), s.inn, s.sizes, s.stack ++ [at_], s.on.set at_.toNat true⟩
def stepT (g : Int → TS → Option TS) (at_ x : Int) (s : TS) : Option TS :=
 if gI s.index x = 0 then match g x s with
  | none => none
  | some s' => some { s' with low := sI s'.low at_ (min (gI s'.low at_) (gI s'.low x)) }
 else if s.on.getD x.toNat false then some { s with low := sI s.low at_ (min (gI s.low at_) (gI s.index x)) }
 else some s
def popT (at_ : Int) : Nat → Nat → TS → Option TS
 | 0, _, _ => none
 | f + 1, k, s => match s.stack.getLast? with
  | none => none
  | some x =>
   let s' : TS := { s with stack := s.stack.dropLast, on := s.on.set x.toNat false, inn := sI s.inn x (s.sizes.length : Nat) }
   if x = at_ then some { s' with sizes := s'.sizes ++ [((k + 1 : Nat) : Int)] } else popT at_ f (k + 1) s'
def doneT (at_ : Int) (s : TS) : Option TS :=
 if gI s.low at_ = gI s.index at_ then popT at_ (s.stack.length + 1) 0 s else some s
def visitT (nodes : List GNode) : Nat → Int → TS → Option TS
 | 0, _, _ => none
 | f + 1, at_, s => match runG (stepT (visitT nodes f) at_) (ndAt nodes at_.toNat).keys (pushT at_ s) with
  | none => none
  | some s1 => match runG (stepT (visitT nodes f) at_) (ndAt nodes at_.toNat).items s1 with
   | none => none
   | some s2 => doneT at_ s2
def startT (n : Nat) : TS := ⟨0, List.replicate n 0, List.replicate n 0, List.replicate n (-1), [], [], List.replicate n false⟩
def compV (nodes : List GNode) (root : Int) : Option TS := visitT nodes (nodes.length + 1) root (startT nodes.length)
/-! ### Depth -/
def edgeD (inn : List Int) (c : Nat) (st : List Int × Bool) (x : Int) : List Int × Bool :=
 if gI inn x = (c : Int) then (st.1, false) else (st.1.set c (max (st.1.getD c 0) (gI st.1 (gI inn x))), st.2)
def nodeD (nodes : List GNode) (inn : List Int) (c : Nat) (st : List Int × Bool) (i : Nat) : List Int × Bool := (refs (ndAt nodes i)).foldl (edgeD inn c) st
def membersV (inn : List Int) (c : Nat) : List Nat := (List.range inn.length).filter fun i => decide (inn.getD i 0 = (c : Int))
def compD (nodes : List GNode) (inn sizes : List Int) (st : List Int × Bool) (c : Nat) : List Int × Bool :=
 let st' := (membersV inn c).foldl (nodeD nodes inn c) st
 (st'.1.set c (st'.1.getD c 0 + sizes.getD c 0), st'.2)
def belowV (nodes : List GNode) (inn sizes : List Int) : List Int × Bool := (List.range sizes.length).foldl (compD nodes inn sizes) (List.replicate sizes.length 0, true)
def depthV (nodes : List GNode) (root : Int) : Option (Int × Bool) := (compV nodes root).map fun s =>
 let b := belowV nodes s.inn s.sizes
 (gI b.1 (gI s.inn root) - 1, b.2)
end Go.Proofs.YtbhigefbihpnlaaGreatDoor
namespace Go.Proofs.YtbhigefbihpnlaaGreatDoor
theorem gI_sI {l : List Int} {x y v : Int} (hx : 0 ≤ x) (hy : 0 ≤ y) (hl : x < (l.length : Int)) : gI (sI l x v) y = if x = y then v else gI l y := by
  unfold gI sI
  rw [getD_set (by omega)]
  by_cases e : x = y
  · subst e; simp
  · rw [if_neg (by omega), if_neg e]
theorem gI_sI_same {l : List Int} {x v : Int} (h : gI l x = v) (hl : x.toNat < l.length) : sI l x v = l := by
  unfold gI at h
  unfold sI
  apply List.ext_getElem?
  intro i
  rw [List.getElem?_set]
  by_cases e : x.toNat = i
  · subst e
    rw [if_pos rfl, if_pos hl, ← h, List.getD_eq_getElem?_getD, List.getElem?_eq_getElem hl]; rfl
  · rw [if_neg e]
theorem len_sI (l : List Int) (x v : Int) : (sI l x v).length = l.length := by simp [sI]
theorem getD_set' {α : Type} {m : List α} {x y : Int} {b d : α} (hx : 0 ≤ x) (hy : 0 ≤ y) (hi : x < (m.length : Int)) : (m.set x.toNat b).getD y.toNat d = if x = y then b else m.getD y.toNat d := by
  rw [getD_set (by omega)]
  by_cases e : x = y
  · subst e; simp
  · rw [if_neg (by omega), if_neg e]
def InN (n : Nat) (x : Int) : Prop := 0 ≤ x ∧ x < (n : Int)
structure DI (nodes : List GNode) (anc : List Int) (s : TS) : Prop where
  li : s.index.length = nodes.length
  ll : s.low.length = nodes.length
  ln : s.inn.length = nodes.length
  lo : s.on.length = nodes.length
  st : s.stack = anc
  ancIn : ∀ x ∈ anc, InN nodes.length x
  on : ∀ x, InN nodes.length x → (s.on.getD x.toNat false = true ↔ x ∈ anc)
  vis : ∀ x, InN nodes.length x → (gI s.index x ≠ 0 ↔ 0 ≤ gI s.inn x ∨ x ∈ anc)
  ix : ∀ x, InN nodes.length x → 0 ≤ gI s.index x ∧ gI s.index x ≤ (s.nx : Int)
  dn : ∀ x, InN nodes.length x → 0 ≤ gI s.inn x → gI s.inn x < (s.sizes.length : Int) ∧ x ∉ anc ∧ ∀ y ∈ refs (ndAt nodes x.toNat), InN nodes.length y ∧ 0 ≤ gI s.inn y ∧ gI s.inn y < gI s.inn x
  inj : ∀ x y, InN nodes.length x → InN nodes.length y → 0 ≤ gI s.inn x → gI s.inn x = gI s.inn y → x = y
  one : ∀ c, c < s.sizes.length → s.sizes.getD c 0 = 1
structure DF (nodes : List GNode) (s s' : TS) : Prop where
  nx : s.nx ≤ s'.nx
  inn : ∀ x, InN nodes.length x → 0 ≤ gI s.inn x → gI s'.inn x = gI s.inn x
  old : ∀ x, InN nodes.length x → gI s.index x ≠ 0 → gI s'.index x = gI s.index x ∧ gI s'.low x = gI s.low x
theorem DF.refl (nodes : List GNode) (s : TS) : DF nodes s s := ⟨Nat.le_refl _, fun _ _ _ => rfl, fun _ _ _ => ⟨rfl, rfl⟩⟩
theorem DF.trans {nodes : List GNode} {a b c : TS} (h : DF nodes a b) (k : DF nodes b c) : DF nodes a c :=
  ⟨Nat.le_trans h.nx k.nx, fun x hx h0 => by have := h.inn x hx h0; rw [k.inn x hx (by omega), this], fun x hx h0 => by
    obtain ⟨h1, h2⟩ := h.old x hx h0
    obtain ⟨k1, k2⟩ := k.old x hx (by rw [h1]; exact h0)
    exact ⟨k1.trans h1, k2.trans h2⟩⟩
section
variable {nodes : List GNode} {rk : Int → Nat}
def Ranks (nodes : List GNode) (rk : Int → Nat) : Prop := ∀ x, InN nodes.length x → ∀ y ∈ refs (ndAt nodes x.toNat), rk y < rk x
theorem di_push {anc : List Int} {s : TS} {at_ : Int} (h : DI nodes anc s) (hat : InN nodes.length at_) (h0 : gI s.index at_ = 0) : DI nodes (anc ++ [at_]) (pushT at_ s) ∧ DF nodes s (pushT at_ s) ∧ gI (pushT at_ s).index at_ = (s.nx + 1 : Nat) ∧ gI (pushT at_ s).low at_ = (s.nx + 1 : Nat) := by
  obtain ⟨ha1, ha2⟩ := hat
  have hnv : ¬ (0 ≤ gI s.inn at_ ∨ at_ ∈ anc) := fun hv => ((h.vis at_ ⟨ha1, ha2⟩).2 hv) h0
  have hli := h.li
  have hll := h.ll
  have hlo := h.lo
  have ei : ∀ y, 0 ≤ y → gI (pushT at_ s).index y = if at_ = y then ((s.nx + 1 : Nat) : Int) else gI s.index y := fun y hy => gI_sI ha1 hy (by rw [hli]; exact ha2)
  have el : ∀ y, 0 ≤ y → gI (pushT at_ s).low y = if at_ = y then ((s.nx + 1 : Nat) : Int) else gI s.low y := fun y hy => gI_sI ha1 hy (by rw [hll]; exact ha2)
  refine ⟨⟨by show (sI _ _ _).length = _; rw [len_sI, hli], by show (sI _ _ _).length = _; rw [len_sI, hll], h.ln, by show (List.set _ _ _).length = _; rw [List.length_set, hlo], by show s.stack ++ [at_] = _; rw [h.st], ?_, ?_, ?_, ?_, ?_, h.inj, h.one⟩, ⟨by show s.nx ≤ s.nx + 1; omega, fun _ _ _ => rfl, fun x hx hx0 => ?_⟩, by rw [ei at_ ha1, if_pos rfl], by rw [el at_ ha1, if_pos rfl]⟩
  · intro x hx
    rcases List.mem_append.1 hx with hx | hx
    · exact h.ancIn x hx
    · rw [List.mem_singleton.1 hx]; exact ⟨ha1, ha2⟩
  · intro x hx
    show (s.on.set at_.toNat true).getD x.toNat false = true ↔ _
    rw [getD_set' ha1 hx.1 (by rw [hlo]; exact ha2), List.mem_append, List.mem_singleton]
    by_cases e : at_ = x
    · simp [e]
    · rw [if_neg e, h.on x hx]; exact ⟨.inl, fun h1 => h1.elim id (fun h2 => absurd h2.symm e)⟩
  · intro x hx
    rw [ei x hx.1, List.mem_append, List.mem_singleton]
    by_cases e : at_ = x
    · subst e; simp; omega
    · rw [if_neg e, h.vis x hx]
      exact ⟨fun h1 => h1.elim .inl (fun h2 => .inr (.inl h2)), fun h1 => h1.elim .inl (fun h2 => h2.elim .inr (fun h3 => absurd h3.symm e))⟩
  · intro x hx
    rw [ei x hx.1]
    have := h.ix x hx
    show _ ∧ _ ≤ ((s.nx + 1 : Nat) : Int)
    split <;> omega
  · intro x hx hx0
    obtain ⟨h1, h2, h3⟩ := h.dn x hx hx0
    refine ⟨h1, fun hm => ?_, h3⟩
    rcases List.mem_append.1 hm with hm | hm
    · exact h2 hm
    · rw [List.mem_singleton.1 hm] at hx0; exact hnv (.inl hx0)
  · have e : at_ ≠ x := fun e => by subst e; exact hx0 h0
    rw [ei x hx.1, el x hx.1, if_neg e, if_neg e]
    exact ⟨rfl, rfl⟩
theorem di_done {anc : List Int} {s : TS} {at_ : Int} (h : DI nodes (anc ++ [at_]) s) (hna : at_ ∉ anc) (hlow : gI s.low at_ = gI s.index at_) (hdn : ∀ y ∈ refs (ndAt nodes at_.toNat), InN nodes.length y ∧ 0 ≤ gI s.inn y) :
    ∃ s', doneT at_ s = some s' ∧ DI nodes anc s' ∧ DF nodes s s' ∧ 0 ≤ gI s'.inn at_ ∧ s'.low = s.low ∧ s'.index = s.index := by
  have hst : s.stack = anc ++ [at_] := h.st
  have hat : InN nodes.length at_ := h.ancIn at_ (by simp)
  obtain ⟨ha1, ha2⟩ := hat
  have hni : ¬ 0 ≤ gI s.inn at_ := fun h0 => (h.dn at_ ⟨ha1, ha2⟩ h0).2.1 (by simp)
  have hln := h.ln
  refine ⟨{ s with stack := anc, on := s.on.set at_.toNat false, inn := sI s.inn at_ (s.sizes.length : Nat), sizes := s.sizes ++ [1] }, ?_, ?_, ?_, ?_, rfl, rfl⟩
  · unfold doneT
    rw [if_pos hlow, popT, hst, List.getLast?_concat]
    simp
  · have en : ∀ y, 0 ≤ y → gI (sI s.inn at_ (s.sizes.length : Nat)) y = if at_ = y then ((s.sizes.length : Nat) : Int) else gI s.inn y := fun y hy => gI_sI ha1 hy (by rw [hln]; exact ha2)
    refine ⟨h.li, h.ll, by show (sI _ _ _).length = _; rw [len_sI, hln], by show (List.set _ _ _).length = _; rw [List.length_set, h.lo], rfl, fun x hx => h.ancIn x (by simp [hx]), ?_, ?_, h.ix, ?_, ?_, ?_⟩
    · intro x hx
      show (s.on.set at_.toNat false).getD x.toNat false = true ↔ _
      rw [getD_set' ha1 hx.1 (by rw [h.lo]; exact ha2)]
      by_cases e : at_ = x
      · subst e; simp [hna]
      · rw [if_neg e, h.on x hx, List.mem_append, List.mem_singleton]
        exact ⟨fun h1 => h1.elim id (fun h2 => absurd h2.symm e), .inl⟩
    · intro x hx
      show gI s.index x ≠ 0 ↔ 0 ≤ gI (sI s.inn at_ (s.sizes.length : Nat)) x ∨ _
      rw [h.vis x hx, en x hx.1, List.mem_append, List.mem_singleton]
      by_cases e : at_ = x
      · subst e; simp
      · rw [if_neg e]
        exact ⟨fun h1 => h1.elim .inl (fun h2 => h2.elim .inr (fun h3 => absurd h3.symm e)), fun h1 => h1.elim .inl (fun h2 => .inr (.inl h2))⟩
    · intro x hx hx0
      show gI (sI s.inn at_ (s.sizes.length : Nat)) x < ((s.sizes ++ [(1 : Int)]).length : Int) ∧ _ ∧ ∀ y ∈ _, InN nodes.length y ∧ 0 ≤ gI (sI s.inn at_ (s.sizes.length : Nat)) y ∧ gI (sI s.inn at_ (s.sizes.length : Nat)) y < gI (sI s.inn at_ (s.sizes.length : Nat)) x
      have hx0' : 0 ≤ gI (sI s.inn at_ (s.sizes.length : Nat)) x := hx0
      rw [en x hx.1] at hx0' ⊢
      rw [List.length_append, List.length_singleton]
      by_cases e : at_ = x
      · subst e
        rw [if_pos rfl]
        refine ⟨by omega, hna, fun y hy => ?_⟩
        obtain ⟨hy1, hy2⟩ := hdn y hy
        rw [en y hy1.1, if_neg (fun e => hni (by rw [e]; exact hy2))]
        exact ⟨hy1, hy2, (h.dn y hy1 hy2).1⟩
      · rw [if_neg e] at hx0' ⊢
        obtain ⟨h1, h2, h3⟩ := h.dn x hx hx0'
        refine ⟨by omega, fun hm => h2 (by simp [hm]), fun y hy => ?_⟩
        obtain ⟨hyi, h4, h5⟩ := h3 y hy
        rw [en y hyi.1, if_neg (fun e => hni (by rw [e]; exact h4))]
        exact ⟨hyi, h4, h5⟩
    · intro x y hx hy hx0 hxy
      have hx0' : 0 ≤ gI (sI s.inn at_ (s.sizes.length : Nat)) x := hx0
      have hxy' : gI (sI s.inn at_ (s.sizes.length : Nat)) x = gI (sI s.inn at_ (s.sizes.length : Nat)) y := hxy
      rw [en x hx.1, en y hy.1] at hxy'
      rw [en x hx.1] at hx0'
      by_cases e : at_ = x
      · by_cases e' : at_ = y
        · rw [← e, ← e']
        · rw [if_pos e, if_neg e'] at hxy'
          exfalso
          have := (h.dn y hy (by omega)).1
          omega
      · rw [if_neg e] at hxy' hx0'
        by_cases e' : at_ = y
        · rw [if_pos e'] at hxy'
          exfalso
          have := (h.dn x hx hx0').1
          omega
        · rw [if_neg e'] at hxy'
          exact h.inj x y hx hy hx0' hxy'
    · intro c hc
      show (s.sizes ++ [(1 : Int)]).getD c 0 = 1
      have hc' : c < (s.sizes ++ [(1 : Int)]).length := hc
      rw [List.length_append, List.length_singleton] at hc'
      rw [List.getD_eq_getElem?_getD]
      by_cases e : c < s.sizes.length
      · rw [List.getElem?_append_left e, ← List.getD_eq_getElem?_getD]; exact h.one c e
      · rw [List.getElem?_append_right (by omega), show c - s.sizes.length = 0 by omega]; rfl
  · refine ⟨Nat.le_refl _, fun x hx hx0 => ?_, fun _ _ _ => ⟨rfl, rfl⟩⟩
    show gI (sI s.inn at_ (s.sizes.length : Nat)) x = _
    rw [gI_sI ha1 hx.1 (by rw [hln]; exact ha2), if_neg (fun e => hni (by rw [e]; exact hx0))]
  · show 0 ≤ gI (sI s.inn at_ (s.sizes.length : Nat)) at_
    rw [gI_sI ha1 ha1 (by rw [hln]; exact ha2), if_pos rfl]; omega
theorem edges_dag {anc : List Int} {at_ : Int} {f : Nat} (ih : ∀ x s, DI nodes (anc ++ [at_]) s → InN nodes.length x → gI s.index x = 0 → rk x < rk at_ →
      ∃ s', visitT nodes f x s = some s' ∧ DI nodes (anc ++ [at_]) s' ∧ DF nodes s s' ∧ 0 ≤ gI s'.inn x ∧ gI s'.low x = gI s'.index x ∧ (s.nx : Int) < gI s'.index x)
    (hanc : ∀ a ∈ anc, rk at_ < rk a) (hat : InN nodes.length at_) (xs : List Int) (hx : ∀ y ∈ xs, InN nodes.length y ∧ rk y < rk at_) (s : TS) (h : DI nodes (anc ++ [at_]) s) (hlow : gI s.low at_ = gI s.index at_) :
    ∃ s', runG (stepT (visitT nodes f) at_) xs s = some s' ∧ DI nodes (anc ++ [at_]) s' ∧ DF nodes s s' ∧ gI s'.low at_ = gI s'.index at_ ∧ ∀ y ∈ xs, 0 ≤ gI s'.inn y := by
  induction xs generalizing s with
  | nil => exact ⟨s, rfl, h, DF.refl _ _, hlow, by simp⟩
  | cons y xs ihx =>
    obtain ⟨hy, hrk⟩ := hx y (by simp)
    have hna : gI s.index at_ ≠ 0 := (h.vis at_ hat).2 (.inr (by simp))
    have key : ∃ s1, stepT (visitT nodes f) at_ y s = some s1 ∧ DI nodes (anc ++ [at_]) s1 ∧ DF nodes s s1 ∧ gI s1.low at_ = gI s1.index at_ ∧ 0 ≤ gI s1.inn y := by
      by_cases h0 : gI s.index y = 0
      · obtain ⟨s1, e1, d1, f1, n1, l1, g1⟩ := ih y s h hy h0 hrk
        obtain ⟨o1, o2⟩ := f1.old at_ hat hna
        refine ⟨s1, ?_, d1, f1, by rw [o1, o2, hlow], n1⟩
        unfold stepT
        rw [if_pos h0, e1]
        have hm : gI s1.low at_ = min (gI s1.low at_) (gI s1.low y) := by
          have := (h.ix at_ hat).2
          rw [o2, hlow, l1]; omega
        have hl := d1.ll
        obtain ⟨ha1, ha2⟩ := hat
        show some { s1 with low := sI s1.low at_ (min (gI s1.low at_) (gI s1.low y)) } = some s1
        rw [gI_sI_same hm (by omega)]
      · have hv := (h.vis y hy).1 h0
        have hni : y ∉ anc ++ [at_] := by
          intro hm
          rcases List.mem_append.1 hm with hm | hm
          · have := hanc y hm; omega
          · rw [List.mem_singleton.1 hm] at hrk; omega
        have hin := hv.resolve_right hni
        refine ⟨s, ?_, h, DF.refl _ _, hlow, hin⟩
        unfold stepT
        rw [if_neg h0, if_neg (fun ho => hni ((h.on y hy).1 ho))]
    obtain ⟨s1, e1, d1, f1, l1, n1⟩ := key
    obtain ⟨s2, e2, d2, f2, l2, n2⟩ := ihx (fun z hz => hx z (by simp [hz])) s1 d1 l1
    refine ⟨s2, by rw [runG, e1]; exact e2, d2, f1.trans f2, l2, fun z hz => ?_⟩
    rcases List.mem_cons.1 hz with rfl | hz
    · rw [f2.inn _ hy n1]; exact n1
    · exact n2 z hz
theorem visitT_dag (hI : Idx nodes) (hR : Ranks nodes rk) (f : Nat) : ∀ (x : Int) (s : TS) (anc : List Int), DI nodes anc s → InN nodes.length x → gI s.index x = 0 → (∀ a ∈ anc, rk x < rk a) → rk x < f →
    ∃ s', visitT nodes f x s = some s' ∧ DI nodes anc s' ∧ DF nodes s s' ∧ 0 ≤ gI s'.inn x ∧ gI s'.low x = gI s'.index x ∧ (s.nx : Int) < gI s'.index x := by
  induction f with
  | zero => intro x s anc _ _ _ _ h; omega
  | succ f ih =>
    intro x s anc h hx h0 hanc hf
    obtain ⟨d1, f1, i1, l1⟩ := di_push h hx h0
    have hrefs : ∀ y ∈ refs (ndAt nodes x.toNat), InN nodes.length y ∧ rk y < rk x := fun y hy => ⟨hI x.toNat (by have := hx.1; have := hx.2; omega) y hy, hR x hx y hy⟩
    have hih : ∀ y s, DI nodes (anc ++ [x]) s → InN nodes.length y → gI s.index y = 0 → rk y < rk x →
        ∃ s', visitT nodes f y s = some s' ∧ DI nodes (anc ++ [x]) s' ∧ DF nodes s s' ∧ 0 ≤ gI s'.inn y ∧ gI s'.low y = gI s'.index y ∧ (s.nx : Int) < gI s'.index y := fun y s hd hy hy0 hrk =>
      ih y s (anc ++ [x]) hd hy hy0 (fun a ha => by
        rcases List.mem_append.1 ha with ha | ha
        · have := hanc a ha; omega
        · rw [List.mem_singleton.1 ha]; exact hrk) (by omega)
    obtain ⟨s2, e2, d2, f2, l2, n2⟩ := edges_dag hih hanc hx _ hrefs (pushT x s) d1 (by rw [i1, l1])
    have hna : x ∉ anc := fun hm => by have := hanc x hm; omega
    have hn1 : gI (pushT x s).index x ≠ 0 := by rw [i1]; omega
    obtain ⟨s3, e3, d3, f3, n3, g1, g2⟩ := di_done d2 hna l2 (fun y hy => ⟨(hrefs y hy).1, n2 y hy⟩)
    refine ⟨s3, ?_, d3, (f1.trans f2).trans f3, n3, by rw [g1, g2, l2], ?_⟩
    · rw [visitT]
      unfold refs at e2
      rw [runG_append] at e2
      revert e2
      cases runG (stepT (visitT nodes f) x) (ndAt nodes x.toNat).keys (pushT x s) with
      | none => intro e2; cases e2
      | some s1 =>
        intro e2
        have e2' : runG (stepT (visitT nodes f) x) (ndAt nodes x.toNat).items s1 = some s2 := e2
        simp only [e2']
        exact e3
    · rw [g2, (f2.old x hx hn1).1, i1]; omega
theorem di_start (nodes : List GNode) : DI nodes [] (startT nodes.length) := by
  have hrep : ∀ (n : Nat) (v x : Int), (List.replicate n v).getD x.toNat 0 = if x.toNat < n then v else 0 := fun n v x => by
    rw [List.getD_eq_getElem?_getD, List.getElem?_replicate]; split <;> rfl
  refine ⟨by simp [startT], by simp [startT], by simp [startT], by simp [startT], rfl, by simp, fun x hx => ?_, fun x hx => ?_, fun x hx => ?_, fun x hx h0 => ?_, fun x y hx _ h0 => ?_, fun c hc => by simp [startT] at hc⟩
  · show (List.replicate nodes.length false).getD _ _ = true ↔ _
    rw [List.getD_eq_getElem?_getD, List.getElem?_replicate]; split <;> simp
  all_goals obtain ⟨hx1, hx2⟩ := hx
  · show gI (List.replicate nodes.length 0) x ≠ 0 ↔ 0 ≤ gI (List.replicate nodes.length (-1)) x ∨ _
    unfold gI; rw [hrep, hrep, if_pos (by omega), if_pos (by omega)]; simp
  · show 0 ≤ gI (List.replicate nodes.length 0) x ∧ gI (List.replicate nodes.length 0) x ≤ _
    unfold gI; rw [hrep, if_pos (by omega)]; simp [startT]
  all_goals
    have h0' : 0 ≤ gI (List.replicate nodes.length (-1)) x := h0
    unfold gI at h0'; rw [hrep, if_pos (by omega)] at h0'; omega
theorem compV_dag (hI : Idx nodes) (hR : Ranks nodes rk) {root : Int} (hr : InN nodes.length root) (hrk : rk root ≤ nodes.length) (hall : ∀ i, i < nodes.length → Reach nodes root.toNat i) :
    ∃ s, compV nodes root = some s ∧ DI nodes [] s ∧ ∀ x, InN nodes.length x → 0 ≤ gI s.inn x := by
  have hd := di_start nodes
  have h0 : gI (startT nodes.length).index root = 0 := by
    show (List.replicate nodes.length (0 : Int)).getD _ _ = 0
    rw [List.getD_eq_getElem?_getD, List.getElem?_replicate]; split <;> rfl
  obtain ⟨s, e, d, _, n, _⟩ := visitT_dag hI hR (nodes.length + 1) root (startT nodes.length) [] hd hr h0 (by simp) (by omega)
  refine ⟨s, e, d, fun x hx => ?_⟩
  have hre : ∀ i, Reach nodes root.toNat i → i < nodes.length ∧ 0 ≤ gI s.inn (i : Int) := by
    intro i h
    induction h with
    | refl => exact ⟨by have := hr.1; have := hr.2; omega, by rw [show ((root.toNat : Nat) : Int) = root by have := hr.1; omega]; exact n⟩
    | step _ hl hx ih =>
      obtain ⟨hb, hn⟩ := ih
      have := (d.dn _ ⟨by omega, by omega⟩ hn).2.2 _ (by rw [Int.toNat_natCast]; exact hx)
      obtain ⟨⟨h1, h2⟩, h3, _⟩ := this
      rename_i y _ _
      exact ⟨by omega, by rw [show ((y.toNat : Nat) : Int) = y by omega]; exact h3⟩
  have h1 := hx.1
  have h2 := hx.2
  have := (hre x.toNat (hall x.toNat (by omega))).2
  rw [show ((x.toNat : Nat) : Int) = x by omega] at this
  exact this
end
end Go.Proofs.YtbhigefbihpnlaaGreatDoor
namespace Go.Proofs.YtbhigefbihpnlaaGreatDoor
section
variable {nodes : List GNode}
def maxL (H : Int → Int) (xs : List Int) (m : Int) : Int := xs.foldl (fun m y => max m (H y)) m
theorem one_of_nodup {α : Type} {l : List α} (hn : l.Nodup) (h : ∀ a ∈ l, ∀ b ∈ l, a = b) : l = [] ∨ ∃ a, l = [a] := by
 match l, hn, h with
 | [], _, _ => exact .inl rfl
 | [a], _, _ => exact .inr ⟨a, rfl⟩
 | a :: b :: r, hn, h =>
  exfalso
  have e := h a (by simp) b (by simp)
  subst e
  simp at hn
theorem edges_below {inn : List Int} {c : Nat} {H : Int → Int} (xs : List Int) (st : List Int × Bool) (hc : c < st.1.length) (hx : ∀ y ∈ xs, 0 ≤ gI inn y ∧ gI inn y < (c : Int) ∧ gI st.1 (gI inn y) = H y) :
  xs.foldl (edgeD inn c) st = (st.1.set c (maxL H xs (st.1.getD c 0)), st.2) := by
 induction xs generalizing st with
 | nil =>
  show st = (st.1.set c (st.1.getD c 0), st.2)
  have : st.1.set c (st.1.getD c 0) = st.1 := by
   apply List.ext_getElem?
   intro i
   rw [List.getElem?_set]
   by_cases e : c = i
   ·subst e; rw [if_pos rfl, if_pos hc, List.getD_eq_getElem?_getD, List.getElem?_eq_getElem hc]; rfl
   ·rw [if_neg e]
  rw [this]
 | cons y xs ih =>
  obtain ⟨h1, h2, h3⟩ := hx y (by simp)
  have e : edgeD inn c st y = (st.1.set c (max (st.1.getD c 0) (H y)), st.2) := by
   unfold edgeD
   rw [if_neg (by omega), h3]
  rw [List.foldl_cons, e, ih _ (by rw [List.length_set]; exact hc) (fun z hz => ?_)]
  ·simp only [List.set_set]
   rw [getD_set hc, if_pos rfl]
   rfl
  ·obtain ⟨z1, z2, z3⟩ := hx z (by simp [hz])
   refine ⟨z1, z2, ?_⟩
   rw [← z3]
   have hne : ¬ c = (gI inn z).toNat := by omega
   show (st.1.set c (max (st.1.getD c 0) (H y))).getD (gI inn z).toNat 0 = st.1.getD (gI inn z).toNat 0
   rw [getD_set hc, if_neg hne]
theorem depth_dag {s : TS} (hd : DI nodes [] s) (hall : ∀ x, InN nodes.length x → 0 ≤ gI s.inn x) {H : Int → Int} (hH : ∀ x, InN nodes.length x → H x = 1 + maxL H (refs (ndAt nodes x.toNat)) 0) (k : Nat) (hk : k ≤ s.sizes.length) :
  ((List.range k).foldl (compD nodes s.inn s.sizes) (List.replicate s.sizes.length 0, true)).2 = true ∧ ((List.range k).foldl (compD nodes s.inn s.sizes) (List.replicate s.sizes.length 0, true)).1.length = s.sizes.length ∧
  (∀ x, InN nodes.length x → gI s.inn x < (k : Int) → gI ((List.range k).foldl (compD nodes s.inn s.sizes) (List.replicate s.sizes.length 0, true)).1 (gI s.inn x) = H x) ∧
  (∀ c, k ≤ c → ((List.range k).foldl (compD nodes s.inn s.sizes) (List.replicate s.sizes.length 0, true)).1.getD c 0 = 0) := by
 induction k with
 | zero =>
  refine ⟨rfl, by simp, fun x hx h => by have := hall x hx; omega, fun c _ => ?_⟩
  show (List.replicate _ (0 : Int)).getD c 0 = 0
  rw [List.getD_eq_getElem?_getD, List.getElem?_replicate]; split <;> rfl
 | succ k ih =>
  obtain ⟨h1, h2, h3, h4⟩ := ih (by omega)
  rw [List.range_succ, List.foldl_append, List.foldl_cons, List.foldl_nil]
  generalize (List.range k).foldl (compD nodes s.inn s.sizes) (List.replicate s.sizes.length 0, true) = st at *
  have hkl : k < st.1.length := by omega
  have hmem : ∀ i ∈ membersV s.inn k, i < nodes.length ∧ gI s.inn (i : Int) = (k : Int) := by
   intro i hi
   unfold membersV at hi
   rw [List.mem_filter, List.mem_range] at hi
   refine ⟨by rw [← hd.ln]; exact hi.1, ?_⟩
   have := hi.2
   unfold gI
   rw [Int.toNat_natCast]
   simpa using this
  have hone := hd.one k (by omega)
  have cases_ := one_of_nodup (List.Pairwise.filter _ (List.nodup_range (n := s.inn.length))) (l := membersV s.inn k) (fun a ha b hb => by
   obtain ⟨ha1, ha2⟩ := hmem a ha
   obtain ⟨hb1, hb2⟩ := hmem b hb
   have := hd.inj (a : Int) (b : Int) ⟨by omega, by omega⟩ ⟨by omega, by omega⟩ (by omega) (by omega)
   omega)
  have other : ∀ (v : Int) (x : Int), InN nodes.length x → gI s.inn x < (k : Int) → gI (st.1.set k v) (gI s.inn x) = H x := fun v x hx hlt => by
   have := hall x hx
   rw [← h3 x hx hlt]
   unfold gI
   rw [getD_set hkl, if_neg (by unfold gI at *; omega)]
  have past : ∀ (v : Int) (c : Nat), k + 1 ≤ c → (st.1.set k v).getD c 0 = 0 := fun v c hc => by rw [getD_set hkl, if_neg (by omega)]; exact h4 c (by omega)
  rcases cases_ with hm | ⟨i, hm⟩
  ·unfold compD
   rw [hm]
   simp only [List.foldl_nil]
   refine ⟨h1, by rw [List.length_set]; exact h2, fun x hx hlt => ?_, fun c hc => past _ c hc⟩
   have hne : gI s.inn x ≠ (k : Int) := fun e => by
    have : x.toNat ∈ membersV s.inn k := by
     unfold membersV
     rw [List.mem_filter, List.mem_range, hd.ln]
     exact ⟨by have := hx.1; have := hx.2; omega, by unfold gI at e; simpa using e⟩
    rw [hm] at this; cases this
   exact other _ x hx (by omega)
  ·obtain ⟨hi, hin⟩ := hmem i (by rw [hm]; simp)
   have hix : InN nodes.length (i : Int) := ⟨by omega, by omega⟩
   have hrefs := (hd.dn (i : Int) hix (by omega)).2.2
   rw [Int.toNat_natCast] at hrefs
   have ef : (membersV s.inn k).foldl (nodeD nodes s.inn k) st = (st.1.set k (maxL H (refs (ndAt nodes i)) 0), st.2) := by
    rw [hm, List.foldl_cons, List.foldl_nil]
    unfold nodeD
    rw [edges_below (H := H) _ st hkl (fun y hy => by
     obtain ⟨y1, y2, y3⟩ := hrefs y hy
     exact ⟨y2, by omega, h3 y y1 (by omega)⟩), h4 k (Nat.le_refl _)]
   unfold compD
   rw [ef]
   simp only [List.set_set]
   rw [getD_set hkl, if_pos rfl, hone]
   have hHi : maxL H (refs (ndAt nodes i)) 0 + 1 = H (i : Int) := by have := hH (i : Int) hix; rw [Int.toNat_natCast] at this; omega
   rw [hHi]
   refine ⟨h1, by rw [List.length_set]; exact h2, fun x hx hlt => ?_, fun c hc => past _ c hc⟩
   by_cases e : gI s.inn x = (k : Int)
   ·have : x = (i : Int) := hd.inj x (i : Int) hx hix (by omega) (by omega)
    subst this
    rw [e]
    unfold gI
    rw [Int.toNat_natCast, getD_set hkl, if_pos rfl]
   ·exact other _ x hx (by omega)
theorem depthV_dag {rk : Int → Nat} (hI : Idx nodes) (hR : Ranks nodes rk) {root : Int} (hr : InN nodes.length root) (hrk : rk root ≤ nodes.length) (hall : ∀ i, i < nodes.length → Reach nodes root.toNat i)
  {H : Int → Int} (hH : ∀ x, InN nodes.length x → H x = 1 + maxL H (refs (ndAt nodes x.toNat)) 0) : depthV nodes root = some (H root - 1, true) := by
 obtain ⟨s, e, d, n⟩ := compV_dag hI hR hr hrk hall
 obtain ⟨h1, _, h3, _⟩ := depth_dag d n hH s.sizes.length (Nat.le_refl _)
 have hlt := (d.dn root hr (n root hr)).1
 unfold depthV
 rw [e]
 show some (gI (belowV nodes s.inn s.sizes).1 (gI s.inn root) - 1, (belowV nodes s.inn s.sizes).2) = _
 unfold belowV
 rw [h3 root hr hlt, h1]
end
end Go.Proofs.YtbhigefbihpnlaaGreatDoor
