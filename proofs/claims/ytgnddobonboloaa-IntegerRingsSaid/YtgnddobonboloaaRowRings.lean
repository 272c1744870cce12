/- IntegerRings holds for every input. -/
import Derived.Test.YtgnddobonboloaaRowNum
import Derived.Test.YtgnddobonboloaaRings
namespace Go.Proofs.Ytgnddobonboloaa
open Go.ChangeShapes Go.WideShapes Go.ChangeAt Go.RowKit

set_option maxRecDepth 100000 in
theorem integerRings_lifted (os : Os) (started : os.Started) (H : Type) (enc : TypeId × Value → H) :
    ReturnsInHanded {} Try.checked os 7 .any (Rows.integerRingsSpec.pre6 enc Try.prog Try.f7 Rows.integerRingsRow.domain false) (Rows.integerRingsSpec.post enc Try.prog Try.f7 false true false false) := by
  refine returnsInHanded_of_change (C := Try.checked) own_none started (by kernel_rfl) Try.func7
    (ChangeSpec.witness6 (enc := enc) (C := Try.checked) false ⟨#[], #[.agg #[.bool false, .string ⟨#[]⟩, .int .u16 0], .agg #[.bool false, .string ⟨#[]⟩, .int .u16 0], .agg #[.bool false, .string ⟨#[]⟩, .int .u16 0]], []⟩ 8 (by kernel_rfl) (by kernel_rfl) (by kernel_rfl) (by kernel_rfl)) ?_
  intro W base args ds gs before hval0 hW hcnd _
  have hval : ∀ (j : Nat) t v, Try.f7.params[j]? = some t → args[j]? = some v → Value.okWide Try.prog W .any base t v := hval0
  have hW' := hW
  obtain ⟨p, q, hA0, hV, rfl, hfz, hnd⟩ := hW
  have hA : DataW.TrodAll enc Try.prog W 0 (fun _ => true) true Try.f7.params.toList args.toList ds p := hA0
  rw [Try.params7] at hA hval
  obtain ⟨v0, v1, v2, d0, d1, d2, p0, p1, p2, rfl, rfl, rfl, h0, h1, h2⟩ := trodAll_three hA
  obtain ⟨rfl, rfl⟩ := trodVars_none hV
  obtain ⟨b1, l1, n1, hl1, hn1, rfl, rfl, t0⟩ := open_num (hval 0 _ v0 rfl rfl) h0
  obtain ⟨b2, l2, n2, hl2, hn2, rfl, rfl, t1⟩ := open_num (hval 1 _ v1 rfl rfl) h1
  obtain ⟨b3, l3, n3, hl3, hn3, rfl, rfl, t2⟩ := open_num (hval 2 _ v2 rfl rfl) h2
  clear hA0 hval0
  simp only [List.append_nil] at hW'
  refine (rings_any b1 b2 b3 l1 l2 l3 n1 n2 n3 W hl1 hl2 hl3 hn1 hn2 hn3).mono fun e W' ⟨he, hg⟩ => ?_
  subst he
  exact ⟨_, rfl, post_below (pa := []) (pv := []) hW' (fun _ _ _ => trodAll_mk1 (shut_bool Try.underlying4 _)) (fun sp _ => trodAll_mk3 (t0 W' sp) (t1 W' sp) (t2 W' sp)) (fun _ _ => rfl) rfl hg (ok_one (by kernel_rfl) rfl (okWide_bool_mk Try.underlying4 _))⟩

theorem integerRings_holds : Rows.IntegerRingsSaid :=
  OpenClaim.holds_of_wide 7 Try.f7 rfl rfl rfl rfl rfl rfl rfl ⟨rfl, rfl, rfl, rfl, rfl⟩ rfl rfl rfl rfl rfl (by kernel_rfl) Try.func7 (by kernel_rfl)
    (of_decide_eq_true (by kernel_rfl)) (by unfold Func.isWrapper; first | (rw [if_pos (by decide +kernel)]; kernel_rfl) | (rw [if_neg (by decide +kernel)]; exact ⟨rfl, rfl⟩))
    (fun os started H enc _ => integerRings_lifted os started H enc)
#print axioms integerRings_holds
end Go.Proofs.Ytgnddobonboloaa
