/- ChangeTouches holds for every input: the row, and the card that ties its variables to the program's text. No condition: every argument. -/
import Derived.Test.YtoppncpmfajbcaaGreatDoorCards
import Derived.Test.YtoppncpmfajbcaaGreatDoorTie
import Derived.Test.YtoppncpmfajbcaaGreatDoorMAa
import Derived.Test.YtoppncpmfajbcaaGreatDoorMAl
import Derived.Test.YtoppncpmfajbcaaGreatDoorMBw
import Derived.Test.YtoppncpmfajbcaaGreatDoorMBx
import Derived.WideKeyArgs
import Derived.Test.YtoppncpmfajbcaaGreatDoorShelf
import Derived.OpenShut
import Derived.Deep.DeepHandedRow
import Derived.Lib.LaidTab
import Derived.Lib.LaidU8
import Derived.Stop.LaidErr
set_option linter.unusedVariables false
set_option linter.unusedSimpArgs false
set_option linter.defProp false
set_option linter.constructorNameAsVariable false
namespace Go.Proofs.YtoppncpmfajbcaaGreatDoor
open Go.ChangeShapes Go.WideShapes Go.ChangeAt Go.RowKit Go.Lib
theorem Tryz.g_pow : Tryz.prog.globalNamed "internal/strconv.uint64pow10" = some 7 := by kernel_rfl
theorem pow_type : (Tryz.prog.globals[7]?).map (·.type) = some 263 := by kernel_rfl
theorem cells_u64 : Tryz.prog.cellsOf 142 = 1 := by kernel_rfl
theorem cells_pow : Tryz.prog.cellsOf 263 = 20 := by kernel_rfl
theorem tabIs_of_reads {P : Program} {W : World} {name : String} {k : IntKind} {zs : List Int} {g : Nat} {t e : TypeId} {n : Nat}
  (hg : P.globalNamed name = some g) (hty : (P.globals[g]?).map (·.type) = some t) (ht : P.underlying t = some (.array n e)) (he : P.underlying e = some (.int k)) (hce : P.cellsOf e = 1) (hct : P.cellsOf t = n)
  (h : VarReads P W name (tabData k zs)) : TabIs P W name k zs := by
 obtain ⟨g', t', cs, fuel, p, hg', ht', hvar, hd⟩ := h
 obtain rfl := Option.some.inj (hg.symm.trans hg')
 obtain rfl := Option.some.inj (hty.symm.trans ht')
 unfold TabIs
 rw [hvar, ← cells_of_tab ht he hce hct hd]
theorem pow_data : Rows.laid_internal_strconv_uint64pow10 = (tabData .u64 pow10Tab : DataW Unit) := by kernel_rfl
theorem first_data : Rows.laid_unicode_utf8_first = firstData := by kernel_rfl
theorem accept_data : Rows.laid_unicode_utf8_acceptRanges = acceptData := by kernel_rfl
theorem u8_extra : U8Extra Tryz.prog Tryz.lays260_ren := ⟨by kernel_rfl, by kernel_rfl, by kernel_rfl, by kernel_rfl, by kernel_rfl, by kernel_rfl, by kernel_rfl⟩
theorem lib_ok {W : World} (h : laidMet Tryz.prog Rows.changeTouchesRow.laid W) (hsh : W.ShapedOpen Tryz.prog) : LibOK W where
 pow := by
  have h1 : VarReads Tryz.prog W "internal/strconv.uint64pow10" Rows.laid_internal_strconv_uint64pow10 := laidMet.reads h (by simp [Rows.changeTouchesRow])
  rw [pow_data] at h1
  exact tabIs_of_reads Tryz.g_pow pow_type Tryz.underlying263 Tryz.underlying142 cells_u64 cells_pow h1
 max := cell_of_shapedOpen_int (zero := #[.int .i64 0]) (t := 3) (g := 3) hsh (of_decide_eq_true (by kernel_rfl)) (by kernel_rfl) rfl (by kernel_rfl) (by kernel_rfl) Tryz.underlying3
 tabs := by
  have h3 : VarReads Tryz.prog W "unicode/utf8.first" Rows.laid_unicode_utf8_first := laidMet.reads h (by simp [Rows.changeTouchesRow])
  have h4 : VarReads Tryz.prog W "unicode/utf8.acceptRanges" Rows.laid_unicode_utf8_acceptRanges := laidMet.reads h (by simp [Rows.changeTouchesRow])
  rw [first_data] at h3
  rw [accept_data] at h4
  exact utf8Tabs_of_reads Tryz.lays260 u8_extra h3 h4
theorem Tryz.g_syn : Tryz.prog.globalNamed "strconv.ErrSyntax" = some 4 := by kernel_rfl
theorem syn_type : (Tryz.prog.globals[4]?).map (·.type) = some 79 := by kernel_rfl
theorem star_err : "*" ++ "errors.errorString" = "*errors.errorString" := by decide
theorem row_err (u : TypeId) (h : Tryz.prog.typeName? 3 u = some "*errors.errorString") : u = 257 :=
 typeName_ptr_named (nm := "errors.errorString") (by rw [star_err]; kernel_rfl) (by kernel_rfl) (by decide) u (by rw [star_err]; exact h)
theorem lib_e {W : World} (h : laidMet Tryz.prog Rows.changeTouchesRow.laid W) (hsh : W.ShapedOpen Tryz.prog) : LibE W where
 lib := lib_ok h hsh
 err := by
  have h5 := h.tail.tail.tail.tail.tail
  obtain ⟨a, s, hv, _⟩ := laid_sentinel (n := "strconv.ErrSyntax") h5 Tryz.g_syn syn_type Tryz.underlying79 row_err Tryz.underlying257 Tryz.underlying259 rfl rfl Tryz.underlying9 (by kernel_rfl) (by kernel_rfl)
  exact ⟨_, _, by simpa using World.var?_cell Tryz.g_syn hv 0⟩
theorem laid_out : laidOutB Tryz.prog = true := by kernel_rfl
set_option maxRecDepth 100000 in
theorem jb_contract (H : Type) (enc : TypeId × Value → H) (W : World) (base : Nat) (args : Array Value) (ds gs : List (DataW H)) (before : List MemPlace)
  (hval : ∀ (j : Nat) t v, Tryz.f3.params[j]? = some t → args[j]? = some v → Value.okWide Tryz.prog W .any base t v)
  (hW : DataW.Whole enc Tryz.prog Tryz.f3.params.toList Rows.changeTouchesSpec.vars false W args.toList ds gs before) (hL : laidMet Tryz.prog Rows.changeTouchesRow.laid W) (hsh : W.ShapedOpen Tryz.prog) :
  Calls Tryz.prog 3 args W fun e W' => ∃ v, e = .returned v ∧ Rows.changeTouchesSpec.post enc Tryz.prog Tryz.f3 false true false false W args v W' := by
 have hW' := hW
 obtain ⟨p, q, hA0, hV, rfl, hfz, hnd⟩ := hW
 have hA : DataW.TrodAll enc Tryz.prog W 0 (fun _ => true) true Tryz.f3.params.toList args.toList ds p := hA0
 rw [Tryz.params3] at hA hval
 obtain ⟨v0, v1, d0, d1, p0, p1, rfl, rfl, rfl, h0, h1⟩ := trodAll_two hA
 obtain ⟨rfl, rfl⟩ := trodVars_none hV
 obtain ⟨oa, A, ma, ca, G, n, cg, ra, ps, e0, hp, hma, hPA, hG⟩ := open_change (hval 0 _ v0 rfl rfl) h0
 obtain ⟨ob, B, mb, cb, K, k, ch, rb, qs, e1, hq, hmb, hPB, hK⟩ := open_change (hval 1 _ v1 rfl rfl) h1
 have hlt : ∀ x ∈ p0 ++ p1 ++ [], x.block < W.heap.size := fun x hx => hW'.lt x hx
 have hlt0 : ∀ x ∈ p0, x.block < W.heap.size := fun x hx => hlt x (by simp [hx])
 have hlt1 : ∀ x ∈ p1, x.block < W.heap.size := fun x hx => hlt x (by simp [hx])
 clear hA0
 simp only [List.append_nil] at hW'
 subst e0 e1
 refine (touches_law (fun w hw => cawake_true w hw) oa ob ps qs A B G K ma ca mb cb n cg k ch ra rb hp hq hma hmb W (lib_e hL hsh) hPA hPB hG hK).mono fun e W' ⟨he, hg⟩ => ?_
 subst he
 exact ⟨_, rfl, post_below (pa := p0 ++ p1) (pv := []) hW' (fun _ _ _ => trodAll_mk1 (shut_bool Tryz.underlying4 _))
  (fun sp hsp => trodAll_mk2 (WideElems.Trod_stays laid_out (by kernel_rfl) (of_decide_eq_true (by kernel_rfl)) h0 (fun x hx => hg.same (hlt0 x hx)) (fun x hx => hsp x (by simp [hx]))) (WideElems.Trod_stays laid_out (by kernel_rfl) (of_decide_eq_true (by kernel_rfl)) h1 (fun x hx => hg.same (hlt1 x hx)) (fun x hx => hsp x (by simp [hx]))))
  (fun _ _ => rfl) (by simp) hg (ok_one (by kernel_rfl) rfl (okWide_bool_mk Tryz.underlying4 _))⟩
def zeroC : Value := .agg #[.int .i64 0, .slice none 0 0, .slice none 0 0, .int .i64 0]
def flatD : Nat → DataW Unit → List Value
 | 0, _ => []
 | _ + 1, .lit (.int k z) => [.int k z]
 | n + 1, .agg ds => ds.flatMap (flatD n)
 | _ + 1, _ => []
def layAt (h : Array Obj) (g : Nat) (d : DataW Unit) : Array Obj := h.modify g fun
 | .cells _ t fz => .cells (flatD 4 d).toArray t fz
 | o => o
def rangeS : ByteArray := ⟨#[118, 97, 108, 117, 101, 32, 111, 117, 116, 32, 111, 102, 32, 114, 97, 110, 103, 101]⟩
def synS : ByteArray := ⟨#[105, 110, 118, 97, 108, 105, 100, 32, 115, 121, 110, 116, 97, 120]⟩
noncomputable def low : Nat := (World.holding Tryz.prog default ⟨#[], #[], []⟩).heap.size
def layErr (h : Array Obj) (g n : Nat) : Array Obj := h.modify g fun
 | .cells _ t fz => .cells #[.iface 257 (.pointer (some ⟨n, 0, none⟩))] t fz
 | o => o
noncomputable def errWorld (os : Os) : World := World.holding Tryz.prog os ⟨#[.cells #[.string rangeS] 259, .cells #[.string synS] 259], #[], []⟩
noncomputable def laidWorld (os : Os) : World :=
 { errWorld os with heap := layErr (layErr (layAt (layAt (layAt (layAt (layAt (errWorld os).heap 8 Rows.laid_math_bits_deBruijn32tab) 6 Rows.laid_math_bits_deBruijn64tab) 7 Rows.laid_internal_strconv_uint64pow10) 2 Rows.laid_unicode_utf8_acceptRanges) 1 Rows.laid_unicode_utf8_first) 5 low) 4 (low + 1) }
theorem laid_met (os : Os) : laidMet Tryz.prog Rows.changeTouchesRow.laid ((laidWorld os).forCall (fun _ _ => 0) ⟨#[], #[zeroC, zeroC], []⟩).memory :=
 laidMet_of_run' 8 (by kernel_rfl) (by kernel_rfl)
theorem jb_reads (os : Os) {H : Type} (enc : TypeId × Value → H) : ∃ places, DataW.whole enc Tryz.prog ((laidWorld os).forCall (fun _ _ => 0) ⟨#[], #[zeroC, zeroC], []⟩).memory Tryz.f3.params.toList Rows.changeTouchesSpec.vars false #[zeroC, zeroC].toList 8 = some ([.agg [.lit (.int .i64 0), .nil, .agg [.nil, .lit (.int .i64 0)]], .agg [.lit (.int .i64 0), .nil, .agg [.nil, .lit (.int .i64 0)]]], [], places) :=
 ⟨[], by kernel_rfl⟩
set_option maxRecDepth 100000 in
theorem jb_lifted (os : Os) (started : os.Started) (H : Type) (enc : TypeId × Value → H) (F : Stop.Interp) :
  ReturnsInHanded {} Tryz.checked os 3 .any ((OpenSpec.ofChange Rows.changeTouchesSpec).preRow enc Tryz.prog Tryz.f3 Rows.changeTouchesRow.domain false Rows.changeTouchesRow.laid) (((OpenSpec.ofChange Rows.changeTouchesSpec).at F).post enc Tryz.prog Tryz.f3 false true false false) := by
 obtain ⟨places, hx⟩ := jb_reads os enc
 refine returnsInHanded_of_row (C := Tryz.checked) (s := OpenSpec.ofChange Rows.changeTouchesSpec) own_none started (by kernel_rfl) Tryz.func3
  (witness_row_at (enc := enc) (C := Tryz.checked) false (laidWorld os) #[zeroC, zeroC] rfl (by kernel_rfl) (by kernel_rfl) (by kernel_rfl)
   (OpenSpec.preRow_of_cond 8 hx (by kernel_rfl) (fun k hk => by cases hk) (by kernel_rfl) (laid_met os))) ?_
 intro W base args ds gs before hval hW _ _ _ hL hsh _
 exact jb_contract H enc W base args ds gs before hval hW hL hsh
theorem changeTouches_said : Rows.ChangeTouchesSaid :=
 OpenClaim.holds_of_cond 3 Tryz.f3 rfl rfl rfl rfl rfl rfl rfl ⟨rfl, rfl, rfl, rfl, rfl⟩ rfl rfl rfl rfl rfl (by kernel_rfl) Tryz.func3 (by kernel_rfl)
  (of_decide_eq_true (by kernel_rfl)) (by unfold Func.isWrapper; first | (rw [if_pos (by decide +kernel)]; kernel_rfl) | (rw [if_neg (by decide +kernel)]; exact ⟨rfl, rfl⟩))
  (fun os started H enc _ F => by rw [OpenClaim.pre_eq_preRow]; exact jb_lifted os started H enc F)
theorem jb_plain (f : FuncId) (fn : Func) (hf : Tryz.pinned.checked.prog.funcNamed "rosetta/rosettalaw15.ChangeTouches" = some f) (hfn : Tryz.pinned.checked.prog.funcs[f]? = some fn) :
  true = Tryz.pinned.checked.prog.looks [] ∧ ∀ (j : Nat) t, fn.params[j]? = some t → Tryz.pinned.checked.prog.wantsStandIn t = false := by
 obtain rfl : f = 3 := Option.some.inj ((show Tryz.prog.funcNamed "rosetta/rosettalaw15.ChangeTouches" = some 3 by kernel_rfl).symm.trans hf) |>.symm
 obtain rfl : fn = Tryz.f3 := (Option.some.inj (Tryz.func3.symm.trans hfn)).symm
 refine ⟨by kernel_rfl, fun j t ht => ?_⟩
 rw [Tryz.params3] at ht
 have hm : t = 28 := by simpa using Array.mem_of_getElem? ht
 subst hm
 exact (show Tryz.prog.wantsStandIn 28 = false by kernel_rfl)
theorem changeTouches_card : Rows.ChangeTouchesCardSaid :=
 Claim7.holds_tied_plain_at .later [] _ _ _ _ changeTouches_said (fun _ h => by cases h) (by kernel_rfl) (fun _ h => by cases h) changeTouches_row_tie rfl ⟨rfl, rfl⟩ (by kernel_rfl) rfl jb_plain (by kernel_rfl)
#print axioms changeTouches_card
end Go.Proofs.YtoppncpmfajbcaaGreatDoor
