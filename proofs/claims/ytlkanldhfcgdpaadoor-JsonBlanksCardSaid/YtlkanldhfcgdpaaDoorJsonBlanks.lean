/- JsonBlanks holds for every input: the row, and the card that ties its tables to the program's text. No condition: every source and every number. -/
import Derived.Test.YtlkanldhfcgdpaaDoorRows
import Derived.Test.YtlkanldhfcgdpaaDoorMNum
import Derived.ProofKit
import Derived.Below
import Derived.ChangeSame
import Derived.Lib.SmallJoins
import Derived.Test.YtlkanldhfcgdpaaDoorCards
import Derived.Test.YtlkanldhfcgdpaaDoorTie
import Derived.Test.YtlkanldhfcgdpaaDoorMS
import Derived.Test.YtlkanldhfcgdpaaDoorShelf
import Derived.OpenShut
import Derived.Deep.DeepHandedRow
import Derived.Lib.LaidTab
import Derived.Lib.LaidU8
set_option linter.unusedVariables false
set_option linter.unusedSimpArgs false
set_option linter.defProp false
set_option linter.constructorNameAsVariable false
namespace Go.Proofs.YtlkanldhfcgdpaaDoor
open Go.ChangeShapes Go.WideShapes Go.ChangeAt Go.RowKit Go.Joins

theorem own_none : ownKnob Tryd.prog.godebug = none := by kernel_rfl
section
variable {H : Type} {enc : TypeId × Value → H} {P : Program}
/-- The row's end where the world behind the call is known by 'Below' alone. -/
theorem post_below {f : Func} {s : ChangeSpec} {apart fresh handsOn again : Bool} {W W' : World} {args : Array Value} {v : Value} {ds gs : List (DataW H)} {before pa pv : List MemPlace}
    (hW : DataW.Whole enc P f.params.toList s.vars apart W args.toList ds gs before)
    (hres : ∀ (b : Nat) (sp : Nat → Bool) (hd : Bool), DataW.TrodAll enc P W' b sp hd f.resultTypes.toList (v.resultList f.resultTypes.size) (s.fn H (ds ++ gs)).results [])
    (hargs : ∀ sp : Nat → Bool, (∀ p ∈ before, sp p.block = true) → DataW.TrodAll enc P W' 0 sp true f.params.toList args.toList (s.fn H (ds ++ gs)).args pa)
    (hvars : ∀ sp : Nat → Bool, (∀ p ∈ before, sp p.block = true) → DataW.TrodVars enc P W' sp s.vars (s.fn H (ds ++ gs)).vars pv)
    (hps : before = pa ++ pv) (hb : Below W.heap.size W W')
    (hok : ∀ (j : Nat) (t : TypeId) (r : Value), f.resultTypes[j]? = some t → (v.resultList f.resultTypes.size)[j]? = some r → Value.okWide P W' .any 0 t r) :
    s.post enc P f apart fresh handsOn again W args v W' := by
  have hlt : ∀ p ∈ before, p.block < W.heap.size := fun p hp => hW.lt p hp
  have hold : ∀ p ∈ before, (fun b => decide (b < W.heap.size)) p.block = true := fun p hp => by simpa using hlt p hp
  refine ⟨ds, gs, before, [], pa, pv, hW, hres _ _ _, hargs _ hold, hvars _ hold, World.keptBut_mono (fun p hp => ⟨hp, ?_⟩) (hb.frame (· ∈ before)), fun _ => ?_⟩
  · rw [hps, List.mem_append] at hp
    exact Or.inr hp
  · obtain ⟨_, _, _, _, _, hz, hn⟩ := hW
    refine ⟨hok, _, _, ([] ++ pa) ++ pv, ⟨[] ++ pa, pv, trodAll_append (hargs _ (fun _ _ => rfl)) (hres _ _ _), hvars _ (fun _ _ => rfl), rfl, ?_, ?_⟩, ?_⟩
    · intro b off hp
      have hin : MemPlace.cell b off ∈ before := by rw [hps]; simpa using hp
      rw [hb.frozen (hlt _ hin)]
      exact hz b off hin
    · intro ha
      have := hn ha
      rw [hps] at this
      simpa using this
    · intro p hp _
      rw [hps]
      simpa using hp
set_option maxRecDepth 100000 in
/-- A string that came in, as bytes. -/
theorem open_str8 {w : World} {r : Reach} {b0 base : Nat} {sp : Nat → Bool} {held : Bool} {v : Value} {d : DataW H} {ps : List MemPlace} (hval : Value.okWide Tryd.prog w r b0 9 v) (hd : DataW.Trod enc Tryd.prog w base sp held 9 v d ps) :
    ∃ l, By l ∧ v = .string (mks l) ∧ ps = [] ∧ l.length ≤ maxLen ∧ ∀ (W' : World) (sp' : Nat → Bool), DataW.Trod enc Tryd.prog W' 0 sp' true 9 v d [] := by
  obtain ⟨s, rfl, rfl, rfl, hs⟩ := Go.ChangeMaps.open_string Tryd.underlying9 hval hd
  obtain ⟨l, rfl, hl⟩ := mks_of s
  exact ⟨l, hl, rfl, rfl, by rw [size_mks] at hs; exact hs, fun W' sp' => Go.ChangeMaps.shut_string Tryd.underlying9 hs⟩
set_option maxRecDepth 100000 in
theorem open_int8 {w : World} {r : Reach} {b0 base : Nat} {sp : Nat → Bool} {held : Bool} {v : Value} {d : DataW H} {ps : List MemPlace} (hval : Value.okWide Tryd.prog w r b0 3 v) (hd : DataW.Trod enc Tryd.prog w base sp held 3 v d ps) :
    ∃ n : Int, v = .int .i64 n ∧ ps = [] ∧ -9223372036854775808 ≤ n ∧ n ≤ 9223372036854775807 ∧ ∀ (W' : World) (sp' : Nat → Bool), DataW.Trod enc Tryd.prog W' 0 sp' true 3 v d [] := by
  obtain ⟨n, rfl, rfl, rfl, hs⟩ := open_int Tryd.underlying3 hval hd
  have hs' := hs
  simp [Lit.wf, IntKind.min, IntKind.max, IntKind.signed, IntKind.bits] at hs'
  exact ⟨n, rfl, rfl, by omega, by omega, fun W' sp' => shut_int Tryd.underlying3 hs⟩
end
end Go.Proofs.YtlkanldhfcgdpaaDoor
namespace Go.Proofs.YtlkanldhfcgdpaaDoor
open Go.ChangeShapes Go.WideShapes Go.ChangeAt Go.RowKit Go.Lib

theorem Tryd.g_pow : Tryd.prog.globalNamed "internal/strconv.uint64pow10" = some 3 := by kernel_rfl
theorem pow_type : (Tryd.prog.globals[3]?).map (·.type) = some 137 := by kernel_rfl
theorem cells_u64 : Tryd.prog.cellsOf 131 = 1 := by kernel_rfl
theorem cells_pow : Tryd.prog.cellsOf 137 = 20 := by kernel_rfl
theorem tabIs_of_reads {P : Program} {W : World} {name : String} {k : IntKind} {zs : List Int} {g : Nat} {t e : TypeId} {n : Nat}
    (hg : P.globalNamed name = some g) (hty : (P.globals[g]?).map (·.type) = some t) (ht : P.underlying t = some (.array n e)) (he : P.underlying e = some (.int k)) (hce : P.cellsOf e = 1) (hct : P.cellsOf t = n)
    (h : VarReads P W name (tabData k zs)) : TabIs P W name k zs := by
  obtain ⟨g', t', cs, fuel, p, hg', ht', hvar, hd⟩ := h
  obtain rfl := Option.some.inj (hg.symm.trans hg')
  obtain rfl := Option.some.inj (hty.symm.trans ht')
  unfold TabIs
  rw [hvar, ← cells_of_tab ht he hce hct hd]
theorem pow_data : Rows.laid_internal_strconv_uint64pow10 = (tabData .u64 pow10Tab : DataW Unit) := by kernel_rfl
theorem first_data : Rows.laid_unicode_utf8_first = firstData := by kernel_rfl
theorem accept_data : Rows.laid_unicode_utf8_acceptRanges = acceptData := by kernel_rfl
theorem u8_extra : U8Extra Tryd.prog Tryd.lays260_ren := ⟨by kernel_rfl, by kernel_rfl, by kernel_rfl, by kernel_rfl, by kernel_rfl, by kernel_rfl, by kernel_rfl⟩
/-- WHAT THE ROW's LIST AND THE WORLD's SHAPE GIVE: the library's tables and its variable. -/
theorem lib_ok {W : World} (h : laidMet Tryd.prog Rows.jsonBlanksRow.laid W) (hsh : W.ShapedOpen Tryd.prog) : LibOK W where
  pow := by
    have h1 : VarReads Tryd.prog W "internal/strconv.uint64pow10" Rows.laid_internal_strconv_uint64pow10 := laidMet.reads h (by simp [Rows.jsonBlanksRow])
    rw [pow_data] at h1
    exact tabIs_of_reads Tryd.g_pow pow_type Tryd.underlying137 Tryd.underlying131 cells_u64 cells_pow h1
  max := cell_of_shapedOpen_int (zero := #[.int .i64 0]) (t := 3) (g := 2) hsh (of_decide_eq_true (by kernel_rfl)) (by kernel_rfl) rfl (by kernel_rfl) (by kernel_rfl) Tryd.underlying3
  tabs := by
    have h3 : VarReads Tryd.prog W "unicode/utf8.first" Rows.laid_unicode_utf8_first := laidMet.reads h (by simp [Rows.jsonBlanksRow])
    have h4 : VarReads Tryd.prog W "unicode/utf8.acceptRanges" Rows.laid_unicode_utf8_acceptRanges := laidMet.reads h (by simp [Rows.jsonBlanksRow])
    rw [first_data] at h3
    rw [accept_data] at h4
    exact utf8Tabs_of_reads Tryd.lays260 u8_extra h3 h4
set_option maxRecDepth 100000 in
/-- What the walk gives, for every argument and every world that holds the tables. -/
theorem jb_contract (H : Type) (enc : TypeId × Value → H) (W : World) (base : Nat) (args : Array Value) (ds gs : List (DataW H)) (before : List MemPlace)
    (hval : ∀ (j : Nat) t v, Tryd.f3.params[j]? = some t → args[j]? = some v → Value.okWide Tryd.prog W .any base t v)
    (hW : DataW.Whole enc Tryd.prog Tryd.f3.params.toList Rows.jsonBlanksSpec.vars false W args.toList ds gs before) (hL : laidMet Tryd.prog Rows.jsonBlanksRow.laid W) (hsh : W.ShapedOpen Tryd.prog) :
    Calls Tryd.prog 3 args W fun e W' => ∃ v, e = .returned v ∧ Rows.jsonBlanksSpec.post enc Tryd.prog Tryd.f3 false true false false W args v W' := by
  have hW' := hW
  obtain ⟨p, q, hA0, hV, rfl, hfz, hnd⟩ := hW
  have hA : DataW.TrodAll enc Tryd.prog W 0 (fun _ => true) true Tryd.f3.params.toList args.toList ds p := hA0
  rw [Tryd.params3] at hA hval
  obtain ⟨v0, v1, d0, d1, p0, p1, rfl, rfl, rfl, h0, h1⟩ := trodAll_two hA
  obtain ⟨rfl, rfl⟩ := trodVars_none hV
  obtain ⟨l0, hl0, rfl, rfl, hm0, t0⟩ := open_str8 (hval 0 _ v0 rfl rfl) h0
  obtain ⟨n1, rfl, rfl, ha1, hb1, t1⟩ := open_int8 (hval 1 _ v1 rfl rfl) h1
  clear hA0
  simp only [List.append_nil] at hW'
  refine (blanks_any l0 n1 hl0 W (lib_ok hL hsh)).mono fun e W' ⟨he, hg⟩ => ?_
  subst he
  exact ⟨_, rfl, post_below (pa := []) (pv := []) hW' (fun _ _ _ => trodAll_mk1 (shut_bool Tryd.underlying4 _)) (fun sp _ => trodAll_mk2 (t0 W' sp) (t1 W' sp)) (fun _ _ => rfl) rfl hg (ok_one (by kernel_rfl) rfl (okWide_bool_mk Tryd.underlying4 _))⟩

/-- The integers of a datum, in order. -/
def flatD : Nat → DataW Unit → List Value
  | 0, _ => []
  | _ + 1, .lit (.int k z) => [.int k z]
  | n + 1, .agg ds => ds.flatMap (flatD n)
  | _ + 1, _ => []
def layAt (h : Array Obj) (g : Nat) (d : DataW Unit) : Array Obj := h.modify g fun
  | .cells _ t fz => .cells (flatD 4 d).toArray t fz
  | o => o
/-- A WORLD FOR THE WITNESS: the settled one, each listed table holding what the row says. -/
noncomputable def laidWorld (os : Os) : World :=
  { World.holding Tryd.prog os ⟨#[], #[], []⟩ with heap := layAt (layAt (layAt (layAt (layAt (World.holding Tryd.prog os ⟨#[], #[], []⟩).heap 4 Rows.laid_math_bits_deBruijn32tab) 5 Rows.laid_math_bits_deBruijn64tab) 3 Rows.laid_internal_strconv_uint64pow10) 1 Rows.laid_unicode_utf8_acceptRanges) 0 Rows.laid_unicode_utf8_first }
theorem laid_met (os : Os) : laidMet Tryd.prog Rows.jsonBlanksRow.laid ((laidWorld os).forCall (fun _ _ => 0) ⟨#[], #[.string ⟨#[]⟩, .int .i64 0], []⟩).memory :=
  laidMet_of_run' 8 (by kernel_rfl) (by kernel_rfl)
theorem jb_reads (os : Os) {H : Type} (enc : TypeId × Value → H) : ∃ places, DataW.whole enc Tryd.prog ((laidWorld os).forCall (fun _ _ => 0) ⟨#[], #[.string ⟨#[]⟩, .int .i64 0], []⟩).memory Tryd.f3.params.toList Rows.jsonBlanksSpec.vars false #[Value.string ⟨#[]⟩, Value.int .i64 0].toList 8 = some ([.lit (.string []), .lit (.int .i64 0)], [], places) :=
  ⟨[], by kernel_rfl⟩

set_option maxRecDepth 100000 in
theorem jb_lifted (os : Os) (started : os.Started) (H : Type) (enc : TypeId × Value → H) (F : Stop.Interp) :
    ReturnsInHanded {} Tryd.checked os 3 .any ((OpenSpec.ofChange Rows.jsonBlanksSpec).preRow enc Tryd.prog Tryd.f3 Rows.jsonBlanksRow.domain false Rows.jsonBlanksRow.laid) (((OpenSpec.ofChange Rows.jsonBlanksSpec).at F).post enc Tryd.prog Tryd.f3 false true false false) := by
  obtain ⟨places, hx⟩ := jb_reads os enc
  refine returnsInHanded_of_row (C := Tryd.checked) (s := OpenSpec.ofChange Rows.jsonBlanksSpec) own_none started (by kernel_rfl) Tryd.func3
    (witness_row_at (enc := enc) (C := Tryd.checked) false (laidWorld os) #[.string ⟨#[]⟩, .int .i64 0] rfl (by kernel_rfl) (by kernel_rfl) (by kernel_rfl)
      (OpenSpec.preRow_of_cond 8 hx (by kernel_rfl) (fun k hk => by cases hk) (by kernel_rfl) (laid_met os))) ?_
  intro W base args ds gs before hval hW _ _ _ hL hsh _
  exact jb_contract H enc W base args ds gs before hval hW hL hsh

theorem jsonBlanks_said : Rows.JsonBlanksSaid :=
  OpenClaim.holds_of_cond 3 Tryd.f3 rfl rfl rfl rfl rfl rfl rfl ⟨rfl, rfl, rfl, rfl, rfl⟩ rfl rfl rfl rfl rfl (by kernel_rfl) Tryd.func3 (by kernel_rfl)
    (of_decide_eq_true (by kernel_rfl)) (by unfold Func.isWrapper; first | (rw [if_pos (by decide +kernel)]; kernel_rfl) | (rw [if_neg (by decide +kernel)]; exact ⟨rfl, rfl⟩))
    (fun os started H enc _ F => by rw [OpenClaim.pre_eq_preRow]; exact jb_lifted os started H enc F)
/-- No parameter wants a stand-in; the program's own looks: what the card asks. -/
theorem jb_plain (f : FuncId) (fn : Func) (hf : Tryd.pinned.checked.prog.funcNamed "rosetta/rosettalaw22.JsonBlanks" = some f) (hfn : Tryd.pinned.checked.prog.funcs[f]? = some fn) :
    true = Tryd.pinned.checked.prog.looks [] ∧ ∀ (j : Nat) t, fn.params[j]? = some t → Tryd.pinned.checked.prog.wantsStandIn t = false := by
  obtain rfl : f = 3 := Option.some.inj ((show Tryd.prog.funcNamed "rosetta/rosettalaw22.JsonBlanks" = some 3 by kernel_rfl).symm.trans hf) |>.symm
  obtain rfl : fn = Tryd.f3 := (Option.some.inj (Tryd.func3.symm.trans hfn)).symm
  refine ⟨by kernel_rfl, fun j t ht => ?_⟩
  rw [Tryd.params3] at ht
  have hm : t = 9 ∨ t = 3 := by simpa using Array.mem_of_getElem? ht
  rcases hm with rfl | rfl
  · exact (show Tryd.prog.wantsStandIn 9 = false by kernel_rfl)
  · exact (show Tryd.prog.wantsStandIn 3 = false by kernel_rfl)
/-- THE CARD: the row, its five tables tied to the program's text. -/
theorem jsonBlanks_card : Rows.JsonBlanksCardSaid :=
  Claim7.holds_tied_plain_at .later [] _ _ _ _ jsonBlanks_said (fun _ h => by cases h) (by kernel_rfl) (fun _ h => by cases h) jsonBlanks_row_tie rfl ⟨rfl, rfl⟩ (by kernel_rfl) rfl jb_plain (by kernel_rfl)
#print axioms jsonBlanks_card
end Go.Proofs.YtlkanldhfcgdpaaDoor
