/- CborWidths holds for every input: the row, and the card that ties its variables to the program's text. No condition: every argument. -/
import Derived.Test.YtbhigefbihpnlaaGreatDoorCards
import Derived.Test.YtbhigefbihpnlaaGreatDoorTie
import Derived.Test.YtbhigefbihpnlaaGreatDoorMBm
import Derived.Test.YtbhigefbihpnlaaGreatDoorMBw
import Derived.SliceStrings
import Derived.Deep.Grids
set_option linter.unusedVariables false
set_option linter.unusedSimpArgs false
set_option linter.defProp false
set_option linter.constructorNameAsVariable false
namespace Go.Proofs.YtbhigefbihpnlaaGreatDoor
open Go.ChangeShapes Go.WideShapes Go.ChangeAt Go.RowKit Go.Lib
theorem cells_str : Tryz.prog.cellsOf 9 = 1 := by kernel_rfl
set_option maxRecDepth 100000 in
theorem trod_s {H : Type} {enc : TypeId × Value → H} {w : World} {base : Nat} {sp : Nat → Bool} {held : Bool} {s : ByteArray} (hs : s.size ≤ maxLen) : ∃ n, DataW.trod enc Tryz.prog w base sp held n 9 [.string s] = some (.lit (.string s.data.toList), []) := by
 obtain ⟨n, hn⟩ := Go.ChangeMaps.shut_string (enc := enc) (w := w) (base := base) (sp := sp) (held := held) Tryz.underlying9 hs
 exact ⟨n, by simpa [Value.cells] using hn⟩
noncomputable def bytesOf (s : ByteArray) : List Nat := Classical.choose (mks_of s)
theorem bytesOf_eq (s : ByteArray) : s = mks (bytesOf s) := (Classical.choose_spec (mks_of s)).1
theorem bytesOf_by (s : ByteArray) : By (bytesOf s) := (Classical.choose_spec (mks_of s)).2
theorem range_part {α β : Type} {d : α} (l : List α) (f : α → β) (o n : Nat) (h : o + n ≤ l.length) : (List.range n).map (fun i => f (l.getD (o + i) d)) = ((l.drop o).take n).map f := by
 apply List.ext_getElem?
 intro i
 rw [List.getElem?_map, List.getElem?_map]
 rcases Nat.lt_or_ge i n with hi | hi
 ·rw [List.getElem?_range hi, List.getElem?_take_of_lt hi, List.getElem?_drop, List.getElem?_eq_getElem (by omega)]
  simp [List.getD_eq_getElem?_getD, List.getElem?_eq_getElem (show o + i < l.length by omega)]
 ·rw [List.getElem?_eq_none (by simpa using hi), List.getElem?_eq_none (by simp; omega)]
  rfl
set_option maxRecDepth 100000 in
theorem open_strs8 {H : Type} {enc : TypeId × Value → H} {w : World} {r : Go.Reach} {b0 base : Nat} {held : Bool} {v : Value} {d : DataW H} {ps : List MemPlace} (hval : Value.okWide Tryz.prog w r b0 37 v) (hd : DataW.Trod enc Tryz.prog w base (fun _ => true) held 37 v d ps) :
  ∃ (xs : List (List Nat)) (A : Option Addr) (cap : Nat), v = .slice A xs.length cap ∧ Rd w A (strV xs) ∧ (∀ p ∈ xs, By p) ∧ xs.length ≤ maxLen ∧ ∀ (W' : World) (sp : Nat → Bool), Below w.heap.size w W' → (∀ p ∈ ps, sp p.block = true) → DataW.Trod enc Tryz.prog W' base sp held 37 v d ps := by
 obtain ⟨a0, l0, c0, rfl⟩ := okWide_slice Tryz.underlying37 hval
 obtain ⟨n, hn⟩ := hd
 have hn' : DataW.trod enc Tryz.prog w base (fun _ => true) held n 37 [.slice a0 l0 c0] = some (d, ps) := by simpa [Value.cells] using hn
 rcases open_strings Tryz.underlying37 Tryz.underlying9 cells_str hn' with ⟨h1, h2⟩ | ⟨a, len, cap, ss, h1, hb, hl, hm, hsl, h2, hc, hsz⟩
 ·injection h1 with h1 _
  injection h1 with e1 e2 e3
  subst e1; subst e2; subst e3
  injection h2 with e4 e5
  subst e4; subst e5
  exact ⟨[], none, 0, rfl, fun j u hj => (by simp [strV] at hj), fun p hp => (by cases hp), Nat.zero_le _, fun W' sp _ _ => shut_slice_nil Tryz.underlying37⟩
 ·injection h1 with h1 _
  injection h1 with e1 e2 e3
  subst e1; subst e2; subst e3
  injection h2 with e4 e5
  subst e4; subst e5
  have hsl' : ss.length = c0 := hsl
  have hlen : ((ss.take l0).map bytesOf).length = l0 := by simp; omega
  refine ⟨(ss.take l0).map bytesOf, some a, c0, by rw [hlen], fun j u hj => ⟨a, rfl, ?_⟩, fun p hp => ?_, by rw [hlen]; omega, fun W' sp hB hsp => ?_⟩
  ·unfold strV at hj
   rw [List.getElem?_map, List.getElem?_map] at hj
   have hj2 : j < l0 := by
    rcases Nat.lt_or_ge j l0 with h | h
    ·exact h
    ·rw [List.getElem?_eq_none (by simp; omega)] at hj; cases hj
   have hj3 : j < ss.length := by omega
   have e6 : (ss.take l0)[j]? = some (ss.getD j ByteArray.empty) := by rw [List.getElem?_take_of_lt hj2, List.getD_eq_getElem?_getD, List.getElem?_eq_getElem hj3]; rfl
   rw [e6] at hj
   simp only [Option.map_some] at hj
   rw [← Option.some.inj hj, ← bytesOf_eq]
   exact hc j hj3
  ·obtain ⟨s, _, rfl⟩ := List.mem_map.1 hp
   exact bytesOf_by s
  ·have hcell : ∀ i, i < c0 → W'.cell? (a.add i) = some (.string (ss.getD i ByteArray.empty)) := fun i hi => (hB.cell (block_lt_of_cell (hc i (by omega)))).trans (hc i (by omega))
   have hx : ∀ i, i < c0 → ∃ cs n, W'.cells? base (a.add (i * Tryz.prog.cellsOf 9)) (Tryz.prog.cellsOf 9) = some cs ∧ DataW.trod enc Tryz.prog W' base sp held n 9 cs = some ((fun i => .lit (.string (ss.getD i ByteArray.empty).data.toList)) i, (fun _ => []) i) := fun i hi => by
    obtain ⟨m, hm⟩ := trod_s (enc := enc) (w := W') (base := base) (sp := sp) (held := held) (hsz (ss.getD i ByteArray.empty) (by rw [List.getD_eq_getElem?_getD, List.getElem?_eq_getElem (by omega)]; exact List.getElem_mem _))
    exact ⟨[.string (ss.getD i ByteArray.empty)], m, by rw [cells_str, Nat.mul_one]; exact cells?_one (by rw [blk_add]; exact hb) (hcell i hi), hm⟩
   have hfl : ∀ k : Nat, (List.range k).flatMap (fun _ => ([] : List MemPlace)) = [] := fun k => by simp
   cases hs : sp a.block with
   | true =>
    have := Go.Deep.shut_slice_whole (enc := enc) (w := W') (held := held) (len := l0) Tryz.underlying37 hb hl hm hs (fun i => .lit (.string (ss.getD i ByteArray.empty).data.toList)) (fun _ => []) hx
    rw [cells_str, Nat.mul_one, hfl, List.append_nil] at this
    have e1 := range_part (d := ByteArray.empty) ss (fun s => (DataW.lit (.string s.data.toList) : DataW H)) 0 l0 (by omega)
    have e2 := range_part (d := ByteArray.empty) ss (fun s => (DataW.lit (.string s.data.toList) : DataW H)) l0 (c0 - l0) (by omega)
    simp only [Nat.zero_add, List.drop_zero] at e1
    rw [List.take_of_length_le (by simp; omega)] at e2
    rw [e1, e2] at this
    unfold strs
    rw [hsl']
    exact this
   | false =>
    have hc0 : c0 = 0 := by
     rcases Nat.eq_zero_or_pos c0 with h | h
     ·exact h
     ·have := hsp (.cell a.block a.off) (MemPlace.mem_row.2 ⟨0, by omega, by simp⟩)
      rw [show (MemPlace.cell a.block a.off).block = a.block from rfl, hs] at this
      cases this
    subst hc0
    have hl0 : l0 = 0 := by omega
    subst hl0
    obtain rfl : ss = [] := List.eq_nil_of_length_eq_zero hsl'
    have := Go.Deep.shut_slice (enc := enc) (w := W') (held := held) (len := 0) (cap := 0) Tryz.underlying37 hb hl hm hs (fun i => .lit (.string (([] : List ByteArray).getD i ByteArray.empty).data.toList)) (fun _ => []) (fun i hi => by omega)
    rw [cells_str, Nat.mul_one, hfl, List.append_nil] at this
    exact this
set_option maxRecDepth 100000 in
theorem jb_contract (H : Type) (enc : TypeId × Value → H) (W : World) (base : Nat) (args : Array Value) (ds gs : List (DataW H)) (before : List MemPlace)
  (hval : ∀ (j : Nat) t v, Tryz.f4.params[j]? = some t → args[j]? = some v → Value.okWide Tryz.prog W .any base t v)
  (hW : DataW.Whole enc Tryz.prog Tryz.f4.params.toList Rows.cborWidthsSpec.vars false W args.toList ds gs before) (hL : laidMetH Tryz.prog laidAll W) (hsh : W.ShapedOpen Tryz.prog) :
  Calls Tryz.prog 4 args W fun e W' => ∃ v, e = .returned v ∧ Rows.cborWidthsSpec.post enc Tryz.prog Tryz.f4 false true false false W args v W' := by
 have hW' := hW
 obtain ⟨p, q, hA0, hV, rfl, hfz, hnd⟩ := hW
 have hA : DataW.TrodAll enc Tryz.prog W 0 (fun _ => true) true Tryz.f4.params.toList args.toList ds p := hA0
 rw [Tryz.params4] at hA hval
 obtain ⟨v0, v1, v2, d0, d1, d2, p0, p1, p2, rfl, rfl, rfl, h0, h1, h2⟩ := trodAll_three hA
 obtain ⟨rfl, rfl⟩ := trodVars_none hV
 obtain ⟨n0, rfl, rfl, rfl, hs0⟩ := open_int Tryz.underlying36 (hval 0 _ v0 rfl rfl) h0
 obtain ⟨xs, A, cap, rfl, hrd, hby, hsl, t1⟩ := open_strs8 (hval 1 _ v1 rfl rfl) h1
 obtain ⟨n2, rfl, rfl, rfl, hs2⟩ := open_int Tryz.underlying5 (hval 2 _ v2 rfl rfl) h2
 have hn0 := hs0
 have hn2 := hs2
 simp [Lit.wf, IntKind.min, IntKind.max, IntKind.signed, IntKind.bits] at hn0 hn2
 obtain ⟨a, rfl⟩ : ∃ n : Nat, n0 = (n : Int) := ⟨n0.toNat, by omega⟩
 obtain ⟨b, rfl⟩ : ∃ n : Nat, n2 = (n : Int) := ⟨n2.toNat, by omega⟩
 clear hA0
 simp only [List.append_nil, List.nil_append] at hW'
 refine (widths_law (n := a) (d := b) (by omega) (by omega) hby W (lib_f hL hsh) hrd hsl).mono fun e W' ⟨he, hg⟩ => ?_
 subst he
 exact ⟨_, rfl, post_below (pa := p1) (pv := []) hW' (fun _ _ _ => trodAll_mk1 (shut_bool Tryz.underlying4 _)) (fun sp hsp => by
  have h := trodAll_mk3 (shut_int Tryz.underlying36 hs0) (t1 W' sp hg hsp) (shut_int Tryz.underlying5 hs2)
  simp only [List.nil_append, List.append_nil] at h
  exact h) (fun _ _ => rfl) (by simp) hg (ok_one (by kernel_rfl) rfl (okWide_bool_mk Tryz.underlying4 _))⟩
theorem laid_met (os : Os) : laidMetH Tryz.prog Rows.cborWidthsRow.laid ((laidWorld os).forCall (fun _ _ => 0) ⟨#[], #[.int .u64 0, .slice none 0 0, .int .u8 0], []⟩).memory :=
 laidMetH_of_parts (laidMet_of_run' 8 (by kernel_rfl) (by kernel_rfl)) (by kernel_rfl)
theorem jb_reads (os : Os) {H : Type} (enc : TypeId × Value → H) : ∃ places, DataW.whole enc Tryz.prog ((laidWorld os).forCall (fun _ _ => 0) ⟨#[], #[.int .u64 0, .slice none 0 0, .int .u8 0], []⟩).memory Tryz.f4.params.toList Rows.cborWidthsSpec.vars false #[Value.int .u64 0, Value.slice none 0 0, Value.int .u8 0].toList 8 = some ([.lit (.int .u64 0), .nil, .lit (.int .u8 0)], [], places) :=
 ⟨[], by kernel_rfl⟩
set_option maxRecDepth 100000 in
theorem jb_lifted (os : Os) (started : os.Started) (H : Type) (enc : TypeId × Value → H) (F : Stop.Interp) :
  ReturnsInHanded {} Tryz.checked os 4 .any ((OpenSpec.ofChange Rows.cborWidthsSpec).preRow enc Tryz.prog Tryz.f4 Rows.cborWidthsRow.domain false Rows.cborWidthsRow.laid) (((OpenSpec.ofChange Rows.cborWidthsSpec).at F).post enc Tryz.prog Tryz.f4 false true false false) := by
 obtain ⟨places, hx⟩ := jb_reads os enc
 refine returnsInHanded_of_row (C := Tryz.checked) (s := OpenSpec.ofChange Rows.cborWidthsSpec) own_none started (by kernel_rfl) Tryz.func4
  (witness_row_at (enc := enc) (C := Tryz.checked) false (laidWorld os) #[.int .u64 0, .slice none 0 0, .int .u8 0] rfl (by kernel_rfl) (by kernel_rfl) (by kernel_rfl)
   (OpenSpec.preRow_of_cond 8 hx (by kernel_rfl) (fun k hk => by cases hk) (by kernel_rfl) (laid_met os))) ?_
 intro W base args ds gs before hval hW _ _ _ hL hsh _
 exact jb_contract H enc W base args ds gs before hval hW hL hsh
theorem cborWidths_said : Rows.CborWidthsSaid :=
 OpenClaim.holds_of_cond 4 Tryz.f4 rfl rfl rfl rfl rfl rfl rfl ⟨rfl, rfl, rfl, rfl, rfl⟩ rfl rfl rfl rfl rfl (by kernel_rfl) Tryz.func4 (by kernel_rfl)
  (of_decide_eq_true (by kernel_rfl)) (by unfold Func.isWrapper; first | (rw [if_pos (by decide +kernel)]; kernel_rfl) | (rw [if_neg (by decide +kernel)]; exact ⟨rfl, rfl⟩))
  (fun os started H enc _ F => by rw [OpenClaim.pre_eq_preRow]; exact jb_lifted os started H enc F)
theorem jb_plain (f : FuncId) (fn : Func) (hf : Tryz.pinned.checked.prog.funcNamed "rosetta/rosettalaw36.CborWidths" = some f) (hfn : Tryz.pinned.checked.prog.funcs[f]? = some fn) :
  true = Tryz.pinned.checked.prog.looks [] ∧ ∀ (j : Nat) t, fn.params[j]? = some t → Tryz.pinned.checked.prog.wantsStandIn t = false := by
 obtain rfl : f = 4 := Option.some.inj ((show Tryz.prog.funcNamed "rosetta/rosettalaw36.CborWidths" = some 4 by kernel_rfl).symm.trans hf) |>.symm
 obtain rfl : fn = Tryz.f4 := (Option.some.inj (Tryz.func4.symm.trans hfn)).symm
 refine ⟨by kernel_rfl, fun j t ht => ?_⟩
 rw [Tryz.params4] at ht
 have hm : t = 36 ∨ t = 37 ∨ t = 5 := by simpa using Array.mem_of_getElem? ht
 rcases hm with rfl | rfl | rfl
 ·exact (show Tryz.prog.wantsStandIn 36 = false by kernel_rfl)
 ·exact (show Tryz.prog.wantsStandIn 37 = false by kernel_rfl)
 ·exact (show Tryz.prog.wantsStandIn 5 = false by kernel_rfl)
theorem cborWidths_card : Rows.CborWidthsCardSaid :=
 Claim7.holds_tied_plain_at .later [] _ _ _ _ cborWidths_said (fun _ h => by cases h) (by kernel_rfl) (fun _ h => by cases h) cborWidths_row_tie rfl ⟨rfl, rfl⟩ (by kernel_rfl) rfl jb_plain (by kernel_rfl)
#print axioms cborWidths_card
end Go.Proofs.YtbhigefbihpnlaaGreatDoor
