/- graph's depth: the members of the components in memory; plain bounds. -/
import Derived.Test.YtbhigefbihpnlaaGreatDoorMBg
set_option linter.unusedVariables false
set_option linter.unusedSimpArgs false
set_option linter.defProp false
set_option linter.constructorNameAsVariable false
namespace Go.Proofs.YtbhigefbihpnlaaGreatDoor
open Go.RowKit
theorem range_drop {m k : Nat} (h : k < m) : (List.range m).drop k = k :: (List.range m).drop (k + 1) := by
 rw [List.drop_eq_getElem_cons (by simpa using h)]
 simp
def membT (inn : List Int) (j c : Nat) : List Int := ((List.range j).filter fun i => decide (inn.getD i 0 = (c : Int))).map fun (i : Nat) => (i : Int)
theorem membT_succ (inn : List Int) (j c : Nat) : membT inn (j + 1) c = if inn.getD j 0 = (c : Int) then membT inn j c ++ [(j : Int)] else membT inn j c := by
 unfold membT
 rw [List.range_succ, List.filter_append, List.map_append, List.filter_cons]
 by_cases h : inn.getD j 0 = (c : Int)
 ·rw [if_pos (decide_eq_true h), if_pos h]; rfl
 ·rw [if_neg (by rw [decide_eq_false h]; simp), if_neg h]; exact List.append_nil _
theorem membT_all (inn : List Int) (c : Nat) : membT inn inn.length c = (membersV inn c).map fun (i : Nat) => (i : Int) := rfl
theorem membT_len (inn : List Int) (j c : Nat) : (membT inn j c).length ≤ j := by
 unfold membT
 rw [List.length_map]
 exact Nat.le_trans (List.length_filter_le _ _) (by simp)
structure MemI (w : World) (B mb m : Nat) (L : Nat → List Int) (vals : List Value) : Prop where
 len : vals.length = m
 arr : Arr w mb 44 vals
 row : ∀ (c : Nat) (v : Value), vals[c]? = some v → w.ownsRow B 3 1 v (L c).length (I64 (L c))
 dis : ∀ (c c' : Nat) (v v' : Value) (b : Nat), vals[c]? = some v → vals[c']? = some v' → c ≠ c' → v.ownBlock = some b → v'.ownBlock ≠ some b
theorem nil_of_rep {m c : Nat} {v : Value} (h : (List.replicate m (Value.slice none 0 0))[c]? = some v) : v = .slice none 0 0 := by
 rw [List.getElem?_replicate] at h
 split at h
 ·exact (Option.some.inj h).symm
 ·cases h
theorem MemI.start {w : World} {B mb m : Nat} {inn : List Int} (h : Arr w mb 44 (List.replicate m (.slice none 0 0))) : MemI w B mb m (membT inn 0) (List.replicate m (.slice none 0 0)) where
 len := List.length_replicate
 arr := h
 row := fun c v hv => by rw [nil_of_rep hv]; exact World.ownsRow_nil _ _ _ _
 dis := fun c c' v v' b h1 _ _ hb => by rw [nil_of_rep h1] at hb; cases hb
theorem grown_row {w4 wr w1 w3 : World} {mb : Nat} {q : Option Nat} (h : w4.grownBy wr (some mb)) (hb : Below wr.heap.size wr w1) (hg : w1.grownBy w3 q) (hq : ∀ b, q = some b → w4.heap.size ≤ b) (i : Nat) (u : Value) : w4.grownBy (w3.setCell ⟨mb, i, none⟩ u) (some mb) := by
 refine grown_trans ⟨hg.os.trans (hb.os.trans h.os), hg.tape.trans (hb.tape.trans h.tape), hg.output.trans (hb.output.trans h.output), Nat.le_trans h.size (Nat.le_trans hb.size hg.size), fun j hj hn => ?_⟩ (grown_set w3 ⟨mb, i, none⟩ u)
 have h1 := Nat.lt_of_lt_of_le hj h.size
 exact (hg.block j (Nat.lt_of_lt_of_le h1 hb.size) (fun e => by have := hq j e.symm; omega)).trans ((hb.block j h1).trans (h.block j hj hn))
theorem grown_drew {a b : World} {row : Option Nat} (h : a.grownBy b row) : a.grownBy b.drew row := ⟨h.os, h.tape, h.output, h.size, h.block⟩
theorem MemI.push {w w1 w3 : World} {B mb m c : Nat} {L : Nat → List Int} {vals : List Value} {v v' : Value} (h : MemI w B mb m L vals) (hv : vals[c]? = some v) (x : Int) (hb : Below w.heap.size w w1) (hg : w1.grownBy w3 v.ownBlock)
  (hown : w3.ownsRow B 3 1 v' ((L c).length + 1) (I64 (L c) ++ [.int .i64 x])) (hat : v'.ownBlock = v.ownBlock ∨ v'.ownBlock = some w1.heap.size) (L' : Nat → List Int) (hL : L' c = L c ++ [x]) (hL2 : ∀ c', c' ≠ c → L' c' = L c') :
  MemI (w3.setCell ⟨mb, c, none⟩ v') B mb m L' (vals.set c v') := by
 have hrow := h.row c v hv
 have hk : v.ownBlock ≠ some mb := own_arr hrow h.arr (by decide)
 have h3 := arr_row h.arr hb hg hk
 have hc := (List.getElem?_eq_some_iff.1 hv).1
 have hkeep : ∀ c' u, c' ≠ c → vals[c']? = some u → (w3.setCell ⟨mb, c, none⟩ v').ownsRow B 3 1 u (L c').length (I64 (L c')) := fun c' u hne hu => by
  have hr := h.row c' u hu
  refine own_same hr (fun b hb' => ?_)
  have hl := (hr.lt b hb').2
  refine (setCell_heap_ne _ _ _ ?_).trans ((hg.block b (Nat.lt_of_lt_of_le hl hb.size) (fun e' => h.dis c' c u v b hu hv hne hb' e'.symm)).trans (hb.block b hl))
  rintro rfl
  exact own_arr hr h.arr (by decide) hb'
 refine ⟨by rw [List.length_set]; exact h.len, h3.store c v', fun c' u hu => ?_, fun c1 c2 u1 u2 b h1 h2 hne hb1 => ?_⟩
 ·rw [List.getElem?_set] at hu
  by_cases e : c = c'
  ·subst e
   rw [if_pos rfl, if_pos hc] at hu
   obtain rfl := Option.some.inj hu
   rw [hL, I64_append, List.length_append, List.length_singleton]
   exact own_far (p := ⟨mb, c, none⟩) hown (own_arr hown h3 (by decide)) _
  ·rw [if_neg e] at hu
   rw [hL2 c' (Ne.symm e)]
   exact hkeep c' u (Ne.symm e) hu
 ·rw [List.getElem?_set] at h1 h2
  have hvn : ∀ c' u, c' ≠ c → vals[c']? = some u → ∀ b, u.ownBlock = some b → v'.ownBlock ≠ some b := fun c' u hne' hu b hb' hvb => by
   have hr := h.row c' u hu
   have hl := (hr.lt b hb').2
   rcases hat with h4 | h4
   ·rw [h4] at hvb
    exact h.dis c' c u v b hu hv hne' hb' hvb
   ·rw [h4] at hvb
    have := Option.some.inj hvb
    have := hb.size
    omega
  by_cases e1 : c = c1
  ·subst e1
   rw [if_pos rfl, if_pos hc] at h1
   obtain rfl := Option.some.inj h1
   rw [if_neg hne] at h2
   exact fun hb2 => hvn c2 u2 (Ne.symm hne) h2 b hb2 hb1
  ·rw [if_neg e1] at h1
   by_cases e2 : c = c2
   ·subst e2
    rw [if_pos rfl, if_pos hc] at h2
    obtain rfl := Option.some.inj h2
    exact hvn c1 u1 (Ne.symm e1) h1 b hb1
   ·rw [if_neg e2] at h2
    exact h.dis c1 c2 u1 u2 b h1 h2 hne hb1
def BD (l : List Int) (K : Nat) : Prop := ∀ i, 0 ≤ l.getD i 0 ∧ l.getD i 0 ≤ (K : Int)
theorem BD.set {l : List Int} {K : Nat} (h : BD l K) (c : Nat) {v : Int} (h0 : 0 ≤ v) (h1 : v ≤ (K : Int)) : BD (l.set c v) K := fun i => by
 rw [List.getD_eq_getElem?_getD, List.getElem?_set]
 have := h i
 split
 ·split
  ·exact ⟨h0, h1⟩
  ·exact ⟨by simp, by simp⟩
 ·rw [← List.getD_eq_getElem?_getD]; exact this
theorem BD.mono {l : List Int} {K K' : Nat} (h : BD l K) (hk : K ≤ K') : BD l K' := fun i => by have := h i; omega
theorem BD.zero (n : Nat) : BD (List.replicate n 0) 0 := fun i => by
 rw [List.getD_eq_getElem?_getD, List.getElem?_replicate]; split <;> simp
theorem edgeD_len (inn : List Int) (c : Nat) (st : List Int × Bool) (x : Int) : (edgeD inn c st x).1.length = st.1.length := by
 unfold edgeD
 split
 ·rfl
 ·exact List.length_set
theorem edgeD_BD {inn : List Int} {c : Nat} {st : List Int × Bool} {x : Int} {K : Nat} (h : BD st.1 K) : BD (edgeD inn c st x).1 K := by
 unfold edgeD
 split
 ·exact h
 ·have h1 := h c
  have h2 := h (gI inn x).toNat
  exact h.set c (by unfold gI at *; omega) (by unfold gI at *; omega)
theorem bd_next {l : List Int} {q c : Nat} {v : Int} (h : BD l (q * 65536)) (h0 : 0 ≤ v) (h1 : v ≤ 65536) : BD (l.set c (l.getD c 0 + v)) ((q + 1) * 65536) := by
 obtain ⟨K', hK'⟩ : ∃ K', (q + 1) * 65536 = K' := ⟨_, rfl⟩
 obtain ⟨K, hK⟩ : ∃ K, q * 65536 = K := ⟨_, rfl⟩
 have hKK : (K : Int) + 65536 = (K' : Int) := by omega
 have hle : K ≤ K' := by omega
 rw [hK] at h
 rw [hK']
 clear hK hK'
 have h2 := h c
 have h3 : BD l K' := h.mono hle
 exact h3.set c (by omega) (by omega)
def restL (nd : GNode) (j : Nat) : List Int := if j = 0 then refs nd else if j = 1 then nd.items else []
theorem restL_step {nd : GNode} {j : Nat} (h : j < 2) : restL nd j = twoL nd j ++ restL nd (j + 1) := by
 rcases (show j = 0 ∨ j = 1 by omega) with rfl | rfl
 ·rfl
 ·simp [restL, twoL]
structure EndT (nodes : List GNode) (s : TS) : Prop where
 li : s.inn.length = nodes.length
 inr : ∀ i, i < nodes.length → 0 ≤ s.inn.getD i 0 ∧ s.inn.getD i 0 < (s.sizes.length : Int)
 szs : ∀ c, 0 ≤ s.sizes.getD c 0 ∧ s.sizes.getD c 0 ≤ 65536
 szl : s.sizes.length ≤ 65536
end Go.Proofs.YtbhigefbihpnlaaGreatDoor
