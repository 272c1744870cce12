/- An argument of the type Num, opened and shut again. -/
import Derived.Test.YtgnddobonboloaaRow
namespace Go.Proofs.Ytgnddobonboloaa
open Go.ChangeShapes Go.WideShapes Go.ChangeAt Go.RowKit Go.Joins
theorem open_num {H : Type} {enc : TypeId × Value → H} {w : World} {r : Reach} {b0 base : Nat} {sp : Nat → Bool} {held : Bool} {v : Value} {d : DataW H} {ps : List MemPlace} (hval : Value.okWide Try.prog w r b0 36 v) (hd : DataW.Trod enc Try.prog w base sp held 36 v d ps) :
    ∃ (b : Bool) (l : List Nat) (n : Nat), By l ∧ n < 65536 ∧ v = .agg #[.bool b, .string (mks l), .int .u16 (n : Int)] ∧ ps = [] ∧ ∀ (W' : World) (sp' : Nat → Bool), DataW.Trod enc Try.prog W' 0 sp' true 36 v d [] := by
  obtain ⟨c0, c1, c2, y0, y1, y2, m, rfl, rfl, rfl, hy0, hy1, hy2⟩ := open_agg3 Try.underlying36 (by kernel_rfl) (by kernel_rfl) hval hd
  obtain ⟨b, e0, rfl⟩ := DataW.trod_bool Try.underlying4 hy0
  obtain ⟨s, e1, rfl, ws⟩ := DataW.trod_string Try.underlying9 hy1
  obtain ⟨n, e2, rfl, wn⟩ := DataW.trod_int Try.underlying34 hy2
  simp only [List.cons.injEq, and_true] at e0 e1 e2
  subst e0 e1 e2
  obtain ⟨l, rfl, hl⟩ := mks_of s
  have wn' := wn
  simp [Lit.wf, IntKind.min, IntKind.max, IntKind.signed, IntKind.bits] at wn'
  obtain ⟨k, rfl⟩ := Int.eq_ofNat_of_zero_le (show 0 ≤ n by omega)
  refine ⟨b, l, k, hl, by omega, rfl, rfl, fun W' sp' => ?_⟩
  exact shut_agg3 (y0 := (.lit (.bool b), [])) (y1 := (.lit (.string (mks l).data.toList), [])) (y2 := (.lit (.int .u16 (k : Int)), [])) Try.underlying36 (by kernel_rfl) (by kernel_rfl)
    ⟨1, by simp [DataW.trod, Try.underlying4]⟩ ⟨1, by simp [DataW.trod, Try.underlying9, ws]⟩ ⟨1, by simp [DataW.trod, Try.underlying34, wn]⟩
end Go.Proofs.Ytgnddobonboloaa
