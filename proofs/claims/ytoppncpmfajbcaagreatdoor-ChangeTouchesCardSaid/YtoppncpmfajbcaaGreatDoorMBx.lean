/- An argument of type api.Change: its cells, its path and its nodes. -/
import Derived.Test.YtoppncpmfajbcaaGreatDoorMAa
import Derived.Test.YtoppncpmfajbcaaGreatDoorMAe
import Derived.Deep.Slices
import Derived.Deep.Fields
import Derived.Deep.Strs
import Derived.ChangeSame
set_option linter.unusedVariables false
set_option linter.unusedSimpArgs false
set_option linter.defProp false
set_option linter.constructorNameAsVariable false
namespace Go.Proofs.YtoppncpmfajbcaaGreatDoor
open Go.ChangeShapes Go.WideShapes Go.RowKit Go.Deep
section
variable {H : Type} {enc : TypeId × Value → H} {w : World} {base : Nat} {spare : Nat → Bool} {held : Bool}
theorem open_sf {P : Program} {t e : TypeId} {fs : Array Field} {fuel : Nat} {cs : List Value} {x : DataW H × List MemPlace} (ht : P.underlying t = some (.slice e)) (he : P.underlying e = some (.struct fs))
  (hone : oneCellFields P fs = true) (hC : P.cellsOf e = fs.size) (h : DataW.trod enc P w base spare held fuel t cs = some x) :
  cs = [.slice none 0 0] ∨ ∃ (a : Addr) (len cap : Nat), cs = [.slice (some a) len cap] ∧ len ≤ maxLen ∧ ∀ i, i < len → ∃ n : Nat, ∀ (j : Nat) (f : Field), fs[j]? = some f → ∃ (v : Value) (y : DataW H × List MemPlace), w.cell? (a.add (i * fs.size + j)) = some v ∧ DataW.trod enc P w base spare held n f.type [v] = some y := by
 rcases open_slice ht h with h0 | ⟨a, len, cap, m, n, D, Pl, hcs, hb, hl, hm, hmm, hx, hi⟩
 ·exact .inl h0.1
 ·refine .inr ⟨a, len, cap, hcs, Nat.le_trans hl hm, fun i him => ?_⟩
  obtain ⟨cs', hc, ht'⟩ := hi i (by rw [hmm]; split <;> omega)
  rw [hC] at hc
  obtain ⟨ys, n', hn', hy, hlen, hyl, hf⟩ := DataW.trod_struct he ht'
  obtain ⟨_, hcl, hat⟩ := World.cells?_some hc
  refine ⟨n', fun j f hj => ?_⟩
  obtain ⟨ho, hk⟩ := hone_of hone j f hj
  have hjl : j < fs.size := (Array.getElem?_eq_some_iff.1 hj).1
  have hcell := hat j hjl
  have hv : cs'[j]? = some (cs'[j]'(by omega)) := List.getElem?_eq_getElem (by omega)
  have h1 := hf j f hj
  rw [ho, hk] at h1
  have hone' : (cs'.drop j).take 1 = [cs'[j]'(by omega)] := by
   rw [List.drop_eq_getElem_cons (by omega)]
   rfl
  rw [hone'] at h1
  have hys : ys[j]? = some (ys[j]'(by omega)) := List.getElem?_eq_getElem (by omega)
  refine ⟨_, _, ?_, h1.trans hys⟩
  rw [← Go.Deep.add_add, hcell, hv]
end
theorem add_two (a : Addr) (i k j : Nat) : a.add (i * k + (j + 1)) = ⟨(a.add (i * k)).block, (a.add (i * k)).off + (j + 1), none⟩ := by
 rw [← Go.Deep.add_add, Addr.add_succ']
theorem cells_int1 : Tryz.prog.cellsOf 3 = 1 := by kernel_rfl
theorem cells_path : Tryz.prog.cellsOf 23 = 1 := by kernel_rfl
theorem cells_nds : Tryz.prog.cellsOf 24 = 1 := by kernel_rfl
theorem cells_gr : Tryz.prog.cellsOf 26 = 2 := by kernel_rfl
theorem cells_ch : Tryz.prog.cellsOf 28 = 4 := by kernel_rfl
theorem one_step : (Tryz.prog.underlying 36).elim false (fun | .struct fs => oneCellFields Tryz.prog fs && decide (Tryz.prog.cellsOf 36 = fs.size) | _ => false) = true := by kernel_rfl
theorem one_node : (Tryz.prog.underlying 34).elim false (fun | .struct fs => oneCellFields Tryz.prog fs && decide (Tryz.prog.cellsOf 34 = fs.size) | _ => false) = true := by kernel_rfl
set_option maxRecDepth 100000 in
theorem open_path {H : Type} {enc : TypeId × Value → H} {w : World} {base n : Nat} {sp : Nat → Bool} {held : Bool} {c : Value} {x : DataW H × List MemPlace} (h : DataW.trod enc Tryz.prog w base sp held n 23 [c] = some x) :
  ∃ A m cp ps, c = .slice A m cp ∧ ps.length = m ∧ m ≤ maxLen ∧ PRd w A ps := by
 have h1 := one_step
 rw [Tryz.underlying36] at h1
 simp only [Option.elim, Bool.and_eq_true] at h1
 rcases open_sf Tryz.underlying23 Tryz.underlying36 h1.1 (of_decide_eq_true h1.2) h with e | ⟨a, len, cap, e, hl, hf⟩
 ·injection e with e _
  exact ⟨none, 0, 0, [], e, rfl, Nat.zero_le _, fun i p hp => by simp at hp⟩
 ·injection e with e _
  have hg : ∀ i : Nat, ∃ p : Stp, i < len → By p.2 ∧ w.cell? (a.add (i * 2)) = some (.int .i64 p.1) ∧ w.cell? ⟨(a.add (i * 2)).block, (a.add (i * 2)).off + 1, none⟩ = some (.string (mks p.2)) := fun i => by
   by_cases hi : i < len
   ·obtain ⟨k, hk⟩ := hf i hi
    obtain ⟨v0, y0, c0, t0⟩ := hk 0 _ rfl
    obtain ⟨v1, y1, c1, t1⟩ := hk 1 _ rfl
    obtain ⟨z, e0, _, _⟩ := DataW.trod_int Tryz.underlying3 t0
    obtain ⟨s, e1, _, _⟩ := DataW.trod_string Tryz.underlying9 t1
    obtain ⟨l, rfl, hb⟩ := mks_of s
    injection e0 with e0 _
    injection e1 with e1 _
    subst e0 e1
    exact ⟨(z, l), fun _ => ⟨hb, c0, by rw [← add_two a i 2 0]; exact c1⟩⟩
   ·exact ⟨(0, []), fun h => absurd h hi⟩
  obtain ⟨f, hf2⟩ : ∃ f : Nat → Stp, ∀ i, i < len → By (f i).2 ∧ w.cell? (a.add (i * 2)) = some (.int .i64 (f i).1) ∧ w.cell? ⟨(a.add (i * 2)).block, (a.add (i * 2)).off + 1, none⟩ = some (.string (mks (f i).2)) := ⟨fun i => Classical.choose (hg i), fun i => Classical.choose_spec (hg i)⟩
  refine ⟨some a, len, cap, (List.range len).map f, e, by simp, hl, fun i p hp => ?_⟩
  have hi : i < len := by
   have := (List.getElem?_eq_some_iff.1 hp).1
   simpa using this
  rw [List.getElem?_map, List.getElem?_range hi] at hp
  obtain rfl : f i = p := Option.some.inj hp
  obtain ⟨h1, h2, h3⟩ := hf2 i hi
  exact ⟨h1, a, rfl, h2, h3⟩
set_option maxRecDepth 100000 in
theorem open_nodes {H : Type} {enc : TypeId × Value → H} {w : World} {base n : Nat} {sp : Nat → Bool} {held : Bool} {c : Value} {x : DataW H × List MemPlace} (h : DataW.trod enc Tryz.prog w base sp held n 24 [c] = some x) :
  ∃ A m cp, c = .slice A m cp ∧ NdRd w A m := by
 have h1 := one_node
 rw [Tryz.underlying34] at h1
 simp only [Option.elim, Bool.and_eq_true] at h1
 rcases open_sf Tryz.underlying24 Tryz.underlying34 h1.1 (of_decide_eq_true h1.2) h with e | ⟨a, len, cap, e, hl, hf⟩
 ·injection e with e _
  exact ⟨none, 0, 0, e, fun i hi => by omega⟩
 ·injection e with e _
  refine ⟨some a, len, cap, e, fun i hi => ⟨a, rfl, ?_⟩⟩
  obtain ⟨k, hk⟩ := hf i hi
  obtain ⟨v0, y0, c0, t0⟩ := hk 0 _ rfl
  obtain ⟨v1, y1, c1, t1⟩ := hk 1 _ rfl
  obtain ⟨v2, y2, c2, t2⟩ := hk 2 _ rfl
  obtain ⟨v3, y3, c3, t3⟩ := hk 3 _ rfl
  obtain ⟨v4, y4, c4, t4⟩ := hk 4 _ rfl
  obtain ⟨z, e0, _, _⟩ := DataW.trod_int Tryz.underlying3 t0
  obtain ⟨s, e1, _, _⟩ := DataW.trod_string Tryz.underlying9 t1
  obtain ⟨b, e2, _⟩ := DataW.trod_bool Tryz.underlying4 t2
  injection e0 with e0 _
  injection e1 with e1 _
  injection e2 with e2 _
  subst e0 e1 e2
  have s3 : ∃ A m cp, v3 = .slice A m cp := by
   rcases open_slice Tryz.underlying32 t3 with ⟨e, _⟩ | ⟨a, l, c, _, _, _, _, e, _⟩ <;> (injection e with e _; exact ⟨_, _, _, e⟩)
  have s4 : ∃ A m cp, v4 = .slice A m cp := by
   rcases open_slice Tryz.underlying32 t4 with ⟨e, _⟩ | ⟨a, l, c, _, _, _, _, e, _⟩ <;> (injection e with e _; exact ⟨_, _, _, e⟩)
  obtain ⟨K, kn, kc, rfl⟩ := s3
  obtain ⟨I, jn, jc, rfl⟩ := s4
  exact ⟨z, s, b, K, I, kn, kc, jn, jc, c0, by rw [← add_two a i 5 0]; exact c1, by rw [← add_two a i 5 1]; exact c2, by rw [← add_two a i 5 2]; exact c3, by rw [← add_two a i 5 3]; exact c4⟩
set_option maxRecDepth 100000 in
theorem open_change {H : Type} {enc : TypeId × Value → H} {w : World} {r : Go.Reach} {b0 base : Nat} {sp : Nat → Bool} {held : Bool} {v : Value} {d : DataW H} {p : List MemPlace} (hv : Value.okWide Tryz.prog w r b0 28 v) (h : DataW.Trod enc Tryz.prog w base sp held 28 v d p) :
  ∃ (oa : Int) (A : Option Addr) (m ca : Nat) (G : Option Addr) (n cg : Nat) (ra : Int) (ps : List Stp), v = .agg #[.int .i64 oa, .slice A m ca, .slice G n cg, .int .i64 ra] ∧ ps.length = m ∧ m ≤ maxLen ∧ PRd w A ps ∧ NdRd w G n := by
 obtain ⟨cs, rfl, hsz⟩ := okWide_struct Tryz.underlying28 hv
 obtain ⟨l⟩ := cs
 match l, hsz.trans cells_ch with
 | [c0, c1, c2, c3], _ =>
  obtain ⟨fuel, hf⟩ := h
  obtain ⟨y0, y1, y2, k, _, _, h0, h1, h2⟩ := trod_struct3 Tryz.underlying28 hf
  rw [cells_int1] at h0
  rw [cells_path] at h1
  rw [cells_gr] at h2
  have h0' : DataW.trod enc Tryz.prog w base sp held k 3 [c0] = some y0 := h0
  have h1' : DataW.trod enc Tryz.prog w base sp held k 23 [c1] = some y1 := h1
  have h2' : DataW.trod enc Tryz.prog w base sp held k 26 [c2, c3] = some y2 := h2
  obtain ⟨z0, z1, k2, _, _, g0, g1⟩ := trod_struct2 Tryz.underlying26 h2'
  rw [cells_nds] at g0
  rw [cells_int1] at g1
  have g0' : DataW.trod enc Tryz.prog w base sp held k2 24 [c2] = some z0 := g0
  have g1' : DataW.trod enc Tryz.prog w base sp held k2 3 [c3] = some z1 := g1
  obtain ⟨oa, e0, _, _⟩ := DataW.trod_int Tryz.underlying3 h0'
  obtain ⟨ra, e3, _, _⟩ := DataW.trod_int Tryz.underlying3 g1'
  injection e0 with e0 _
  injection e3 with e3 _
  subst e0 e3
  obtain ⟨A, m, ca, ps, rfl, hp1, hp2, hp3⟩ := open_path h1'
  obtain ⟨G, n, cg, rfl, hn⟩ := open_nodes g0'
  exact ⟨oa, A, m, ca, G, n, cg, ra, ps, rfl, hp1, hp2, hp3, hn⟩
end Go.Proofs.YtoppncpmfajbcaaGreatDoor
