/- CborLimits holds for every input: the row, and the card that ties its variables to the program's text. No condition: every argument. -/
import Derived.Test.YtbhigefbihpnlaaGreatDoorCards
import Derived.Test.YtbhigefbihpnlaaGreatDoorTie
import Derived.Test.YtbhigefbihpnlaaGreatDoorMBs
import Derived.Test.YtbhigefbihpnlaaGreatDoorMBw
set_option linter.unusedVariables false
set_option linter.unusedSimpArgs false
set_option linter.defProp false
set_option linter.constructorNameAsVariable false
namespace Go.Proofs.YtbhigefbihpnlaaGreatDoor
open Go.ChangeShapes Go.WideShapes Go.ChangeAt Go.RowKit Go.Lib
set_option maxRecDepth 100000 in
theorem jb_contract (H : Type) (enc : TypeId × Value → H) (W : World) (base : Nat) (args : Array Value) (ds gs : List (DataW H)) (before : List MemPlace)
  (hval : ∀ (j : Nat) t v, Tryz.f3.params[j]? = some t → args[j]? = some v → Value.okWide Tryz.prog W .any base t v)
  (hW : DataW.Whole enc Tryz.prog Tryz.f3.params.toList Rows.cborLimitsSpec.vars false W args.toList ds gs before) (hL : laidMetH Tryz.prog laidAll W) (hsh : W.ShapedOpen Tryz.prog) :
  Calls Tryz.prog 3 args W fun e W' => ∃ v, e = .returned v ∧ Rows.cborLimitsSpec.post enc Tryz.prog Tryz.f3 false true false false W args v W' := by
 have hW' := hW
 obtain ⟨p, q, hA0, hV, rfl, hfz, hnd⟩ := hW
 have hA : DataW.TrodAll enc Tryz.prog W 0 (fun _ => true) true Tryz.f3.params.toList args.toList ds p := hA0
 rw [Tryz.params3] at hA hval
 obtain ⟨v0, v1, d0, d1, p0, p1, rfl, rfl, rfl, h0, h1⟩ := trodAll_two hA
 obtain ⟨rfl, rfl⟩ := trodVars_none hV
 obtain ⟨n0, rfl, rfl, rfl, hs0⟩ := open_int Tryz.underlying5 (hval 0 _ v0 rfl rfl) h0
 obtain ⟨n1, rfl, rfl, rfl, hs1⟩ := open_int Tryz.underlying22 (hval 1 _ v1 rfl rfl) h1
 have hn0 := hs0
 have hn1 := hs1
 simp [Lit.wf, IntKind.min, IntKind.max, IntKind.signed, IntKind.bits] at hn0 hn1
 obtain ⟨a, rfl⟩ : ∃ n : Nat, n0 = (n : Int) := ⟨n0.toNat, by omega⟩
 obtain ⟨b, rfl⟩ : ∃ n : Nat, n1 = (n : Int) := ⟨n1.toNat, by omega⟩
 clear hA0
 simp only [List.append_nil] at hW'
 refine (limits_law a b W (lib_f hL hsh)).mono fun e W' ⟨he, hg⟩ => ?_
 subst he
 exact ⟨_, rfl, post_below (pa := []) (pv := []) hW' (fun _ _ _ => trodAll_mk1 (shut_bool Tryz.underlying4 _)) (fun sp _ => trodAll_mk2 (shut_int Tryz.underlying5 hs0) (shut_int Tryz.underlying22 hs1)) (fun _ _ => rfl) rfl hg (ok_one (by kernel_rfl) rfl (okWide_bool_mk Tryz.underlying4 _))⟩
theorem laid_met (os : Os) : laidMetH Tryz.prog Rows.cborLimitsRow.laid ((laidWorld os).forCall (fun _ _ => 0) ⟨#[], #[.int .u8 0, .int .u16 0], []⟩).memory :=
 laidMetH_of_parts (laidMet_of_run' 8 (by kernel_rfl) (by kernel_rfl)) (by kernel_rfl)
theorem jb_reads (os : Os) {H : Type} (enc : TypeId × Value → H) : ∃ places, DataW.whole enc Tryz.prog ((laidWorld os).forCall (fun _ _ => 0) ⟨#[], #[.int .u8 0, .int .u16 0], []⟩).memory Tryz.f3.params.toList Rows.cborLimitsSpec.vars false #[Value.int .u8 0, Value.int .u16 0].toList 8 = some ([.lit (.int .u8 0), .lit (.int .u16 0)], [], places) :=
 ⟨[], by kernel_rfl⟩
set_option maxRecDepth 100000 in
theorem jb_lifted (os : Os) (started : os.Started) (H : Type) (enc : TypeId × Value → H) (F : Stop.Interp) :
  ReturnsInHanded {} Tryz.checked os 3 .any ((OpenSpec.ofChange Rows.cborLimitsSpec).preRow enc Tryz.prog Tryz.f3 Rows.cborLimitsRow.domain false Rows.cborLimitsRow.laid) (((OpenSpec.ofChange Rows.cborLimitsSpec).at F).post enc Tryz.prog Tryz.f3 false true false false) := by
 obtain ⟨places, hx⟩ := jb_reads os enc
 refine returnsInHanded_of_row (C := Tryz.checked) (s := OpenSpec.ofChange Rows.cborLimitsSpec) own_none started (by kernel_rfl) Tryz.func3
  (witness_row_at (enc := enc) (C := Tryz.checked) false (laidWorld os) #[.int .u8 0, .int .u16 0] rfl (by kernel_rfl) (by kernel_rfl) (by kernel_rfl)
   (OpenSpec.preRow_of_cond 8 hx (by kernel_rfl) (fun k hk => by cases hk) (by kernel_rfl) (laid_met os))) ?_
 intro W base args ds gs before hval hW _ _ _ hL hsh _
 exact jb_contract H enc W base args ds gs before hval hW hL hsh
theorem cborLimits_said : Rows.CborLimitsSaid :=
 OpenClaim.holds_of_cond 3 Tryz.f3 rfl rfl rfl rfl rfl rfl rfl ⟨rfl, rfl, rfl, rfl, rfl⟩ rfl rfl rfl rfl rfl (by kernel_rfl) Tryz.func3 (by kernel_rfl)
  (of_decide_eq_true (by kernel_rfl)) (by unfold Func.isWrapper; first | (rw [if_pos (by decide +kernel)]; kernel_rfl) | (rw [if_neg (by decide +kernel)]; exact ⟨rfl, rfl⟩))
  (fun os started H enc _ F => by rw [OpenClaim.pre_eq_preRow]; exact jb_lifted os started H enc F)
theorem jb_plain (f : FuncId) (fn : Func) (hf : Tryz.pinned.checked.prog.funcNamed "rosetta/rosettalaw36.CborLimits" = some f) (hfn : Tryz.pinned.checked.prog.funcs[f]? = some fn) :
  true = Tryz.pinned.checked.prog.looks [] ∧ ∀ (j : Nat) t, fn.params[j]? = some t → Tryz.pinned.checked.prog.wantsStandIn t = false := by
 obtain rfl : f = 3 := Option.some.inj ((show Tryz.prog.funcNamed "rosetta/rosettalaw36.CborLimits" = some 3 by kernel_rfl).symm.trans hf) |>.symm
 obtain rfl : fn = Tryz.f3 := (Option.some.inj (Tryz.func3.symm.trans hfn)).symm
 refine ⟨by kernel_rfl, fun j t ht => ?_⟩
 rw [Tryz.params3] at ht
 have hm : t = 5 ∨ t = 22 := by simpa using Array.mem_of_getElem? ht
 rcases hm with rfl | rfl
 ·exact (show Tryz.prog.wantsStandIn 5 = false by kernel_rfl)
 ·exact (show Tryz.prog.wantsStandIn 22 = false by kernel_rfl)
theorem cborLimits_card : Rows.CborLimitsCardSaid :=
 Claim7.holds_tied_plain_at .later [] _ _ _ _ cborLimits_said (fun _ h => by cases h) (by kernel_rfl) (fun _ h => by cases h) cborLimits_row_tie rfl ⟨rfl, rfl⟩ (by kernel_rfl) rfl jb_plain (by kernel_rfl)
#print axioms cborLimits_card
end Go.Proofs.YtbhigefbihpnlaaGreatDoor
