/- JsonParses holds for every input: the row, and the card that ties its tables to the program's text. No condition: every source. -/
import Derived.Test.YtbdnamcjhndpjaaGreatDoorMR
import Derived.Test.YtbdnamcjhndpjaaGreatDoorMSk
import Derived.Test.YtbdnamcjhndpjaaGreatDoorMQ
import Derived.Test.YtbdnamcjhndpjaaGreatDoorRows
import Derived.Test.YtbdnamcjhndpjaaGreatDoorMNum
import Derived.ProofKit
import Derived.Below
import Derived.ChangeSame
import Derived.Lib.SmallJoins
import Derived.Test.YtbdnamcjhndpjaaGreatDoorCards
import Derived.Test.YtbdnamcjhndpjaaGreatDoorTie
import Derived.Test.YtbdnamcjhndpjaaGreatDoorShelf
import Derived.OpenShut
import Derived.Deep.DeepHandedRow
import Derived.Lib.LaidTab
import Derived.Lib.LaidU8
set_option linter.unusedVariables false
set_option linter.unusedSimpArgs false
set_option linter.defProp false
set_option linter.constructorNameAsVariable false
namespace Go.Proofs.YtbdnamcjhndpjaaGreatDoor
open Go.RowKit
set_option maxRecDepth 100000 in
set_option maxHeartbeats 4000000 in
theorem jparses_any (s : List Nat) (hs : By s) (w : World) (hw : LibOK w) :
  Calls Tryz.prog 3 #[.string (mks s)] w fun e w' => e = .returned (.bool true) ∧ Below w.heap.size w w' := by
 have DA := Lib.hid (awake_true w hw)
 by_cases hlen : 2000 < s.length
 ·have hlen' : (2000 : Int) < s.length := by omega
  go_enter Tryz.func3, Tryz.ntmps3
  go_wp2_with (go_at_call 4; ((with_reducible refine DA.out.mono ?_)); rintro e w3 ⟨rfl, hb3⟩)
  go_ret
  exact ⟨rfl, hb3⟩
 ·have hlen' : ¬ (2000 : Int) < s.length := by omega
  have DP : Hid (∀ w', LibOK w' → Calls Tryz.prog 5 #[.string (mks s)] w' (ParseR w' s (parseJ s))) := fun w' h' => jparse_any s hs (by omega) w' h'
  have DR : Hid (∀ w', Calls Tryz.prog 6 #[.string (mks s)] w' (ParseR w' s (parseJ s))) := fun w' => rparse22_any s hs (by omega) w'
  cases hp : parseJ s with
  | error x =>
   rw [hp] at DP DR
   clear hp hlen
   have hx1 : ((x.1 : Int) == (x.1 : Int)) = true := by simp
   go_enter Tryz.func3, Tryz.ntmps3
   go_upto_region 6 with (first | (go_at_call 4; ((with_reducible refine DA.out.mono ?_)); rintro e w3 ⟨rfl, hb3⟩; have hw3 := hw.keep hb3) | (go_at_call 5; ((with_reducible refine (DP.out _ hw3).mono ?_)); rintro e w5 ⟨hb5, rfl⟩; have hX5 := Lib.hid (Arr.new w5 29 zDoc)) | ((with_reducible show wpList _ _ _ (Oper.mk none (Op.store 29 (Operand.tmp 3) (Operand.tmp 17)) _ _ _ _ :: _) _ _); go_loud (refine wpList_sr rfl rfl 29 (.tmp 3) (.tmp 17) rfl (w5.heap.size) zDoc rfl rfl 29 _ hX5.out _ Tryz.sz29 (by first | rfl | simp) (by first | rfl | simp) (by first | rfl | simp [Value.oneCell']) ?_; intro w6 hr6 hg6 hz6)))
   have hb6 : Below w5.heap.size w5 w6 := ((Below.refl _ _).alloc (Nat.le_refl _) _).grown hg6 (by simp) (fun k e => by have := Option.some.inj e; omega)
   have hB6 : Below w.heap.size w w6 := (hb3.trans (hb5.mono hb3.size)).trans (hb6.mono (Nat.le_trans hb3.size hb5.size))
   clear hb5 hb3 hg6 hz6 hX5 hb6
   go_upto_region 7 with (first | (go_at_call 6; ((with_reducible refine (DR.out _).mono ?_)); rintro e w7 ⟨hb7, rfl⟩; have hX7 := Lib.hid (Arr.new w7 29 zDoc)) | ((with_reducible show wpList _ _ _ (Oper.mk none (Op.store 29 (Operand.tmp 6) (Operand.tmp 23)) _ _ _ _ :: _) _ _); go_loud (refine wpList_sr rfl rfl 29 (.tmp 6) (.tmp 23) rfl (w7.heap.size) zDoc rfl rfl 29 _ hX7.out _ Tryz.sz29 (by first | rfl | simp) (by first | rfl | simp) (by first | rfl | simp [Value.oneCell']) ?_; intro w8 hr8 hg8 hz8)))
   have hb8 : Below w7.heap.size w7 w8 := ((Below.refl _ _).alloc (Nat.le_refl _) _).grown hg8 (by simp) (fun k e => by have := Option.some.inj e; omega)
   have hb68 : Below w6.heap.size w6 w8 := hb7.trans (hb8.mono hb7.size)
   have hB8 : Below w.heap.size w w8 := hB6.trans (hb68.mono hB6.size)
   have hX8 := hr6.out.keep hb68
   have x0 := hX8.cell' (i := 0) rfl
   have y0 := hr8.out.cell' (i := 0) rfl
   have x1 := hX8.cell' (i := 1) rfl
   have y1 := hr8.out.cell' (i := 1) rfl
   have x2 := hX8.cell' (i := 2) rfl
   have y2 := hr8.out.cell' (i := 2) rfl
   have x3 := hX8.cell' (i := 3) rfl
   have y3 := hr8.out.cell' (i := 3) rfl
   have x4 := hX8.cell' (i := 4) rfl
   have y4 := hr8.out.cell' (i := 4) rfl
   have x5 := hX8.cell' (i := 5) rfl
   have y5 := hr8.out.cell' (i := 5) rfl
   have hz : ∀ (e : TypeId) (k : Nat), RowAt w8 e k (.slice none 0 0) 0 [] := fun e k => ⟨0, World.ownsRow_nil _ _ _ _⟩
   have hzg : GrAt w8 (.slice none 0 0) [] := ⟨0, [], World.ownsRow_nil _ _ _ _, rfl, fun i nd h => by simp at h⟩
   have DD := Lib.hid (samedoc_true [] [] [] [] (by intro x hx; cases hx) (by simp) (.slice none 0 0) (.slice none 0 0) (.slice none 0 0) (.slice none 0 0) (.slice none 0 0) (.slice none 0 0) w8 hzg hzg (hz _ _) (hz _ _) (hz _ _) (hz _ _))
   change Hid (Calls Tryz.prog 7 #[.agg #[.int .i64 0, .string ⟨#[]⟩, .slice none 0 0, .int .i64 0, .slice none 0 0, .slice none 0 0], .agg #[.int .i64 0, .string ⟨#[]⟩, .slice none 0 0, .int .i64 0, .slice none 0 0, .slice none 0 0]] w8 _) at DD
   clear hz hzg hX8 hr6 hr8 hg8 hz8 hX7 hb8 hb68 hb7
   go_wp2_with (go_at_call 7; ((with_reducible refine DD.out.mono ?_)); rintro e w9 ⟨rfl, hb9⟩)
   go_ret
   exact ⟨rfl, hB8.trans (hb9.mono hB8.size)⟩
  | ok D =>
   obtain ⟨hnb, hnl⟩ := parseJ_nb hs hp
   rw [hp] at DP DR
   clear hp hlen
   go_enter Tryz.func3, Tryz.ntmps3
   go_upto_region 6 with (first | (go_at_call 4; ((with_reducible refine DA.out.mono ?_)); rintro e w3 ⟨rfl, hb3⟩; have hw3 := hw.keep hb3) | (go_at_call 5; ((with_reducible refine (DP.out _ hw3).mono ?_)); rintro e w5 ⟨hb5, vn, vs, vo, ncs, rfl, hN, hNr, hS, hO⟩; obtain ⟨An, cn, hvn, _, _⟩ := own_slice hN; obtain ⟨As, cs, hvs, _, _⟩ := own_slice hS; obtain ⟨Ao, co, hvo, _, _⟩ := own_slice hO; subst hvn hvs hvo; have hX5 := Lib.hid (Arr.new w5 29 zDoc)) | ((with_reducible show wpList _ _ _ (Oper.mk none (Op.store 29 (Operand.tmp 3) (Operand.tmp 17)) _ _ _ _ :: _) _ _); go_loud (refine wpList_sr rfl rfl 29 (.tmp 3) (.tmp 17) rfl (w5.heap.size) [.int .i64 0, .string (mks s), .slice An D.nodes.length cn, .int .i64 0, .slice As D.spans.length cs, .slice Ao D.notes.length co] rfl rfl 29 _ hX5.out _ Tryz.sz29 (by first | rfl | simp) (by first | rfl | simp) (by first | rfl | simp [Value.oneCell']) ?_; intro w6 hr6 hg6 hz6)))
   have hb6 : Below w5.heap.size w5 w6 := ((Below.refl _ _).alloc (Nat.le_refl _) _).grown hg6 (by simp) (fun k e => by have := Option.some.inj e; omega)
   have hB6 : Below w.heap.size w w6 := (hb3.trans (hb5.mono hb3.size)).trans (hb6.mono (Nat.le_trans hb3.size hb5.size))
   have g5 : Hid (GrAt w6 (.slice An D.nodes.length cn) D.nodes) := GrAt.keep ⟨_, _, hN, hNr⟩ hb6
   have s5 : Hid (RowAt w6 38 9 (.slice As D.spans.length cs) D.spans.length (spansC D.spans)) := RowAt.keep ⟨_, hS⟩ hb6
   have o5 : Hid (RowAt w6 67 3 (.slice Ao D.notes.length co) D.notes.length (notesC D.notes)) := RowAt.keep ⟨_, hO⟩ hb6
   clear hb5 hb3 hg6 hz6 hX5 hb6 hN hNr hS hO
   go_upto_region 7 with (first | (go_at_call 6; ((with_reducible refine (DR.out _).mono ?_)); rintro e w7 ⟨hb7, vn', vs', vo', ncs', rfl, hN, hNr, hS, hO⟩; obtain ⟨An', cn', hvn, _, _⟩ := own_slice hN; obtain ⟨As', cs', hvs, _, _⟩ := own_slice hS; obtain ⟨Ao', co', hvo, _, _⟩ := own_slice hO; subst hvn hvs hvo; have hX7 := Lib.hid (Arr.new w7 29 zDoc)) | ((with_reducible show wpList _ _ _ (Oper.mk none (Op.store 29 (Operand.tmp 6) (Operand.tmp 23)) _ _ _ _ :: _) _ _); go_loud (refine wpList_sr rfl rfl 29 (.tmp 6) (.tmp 23) rfl (w7.heap.size) [.int .i64 0, .string (mks s), .slice An' D.nodes.length cn', .int .i64 0, .slice As' D.spans.length cs', .slice Ao' D.notes.length co'] rfl rfl 29 _ hX7.out _ Tryz.sz29 (by first | rfl | simp) (by first | rfl | simp) (by first | rfl | simp [Value.oneCell']) ?_; intro w8 hr8 hg8 hz8)))
   have hb8 : Below w7.heap.size w7 w8 := ((Below.refl _ _).alloc (Nat.le_refl _) _).grown hg8 (by simp) (fun k e => by have := Option.some.inj e; omega)
   have hb68 : Below w6.heap.size w6 w8 := hb7.trans (hb8.mono hb7.size)
   have hB8 : Below w.heap.size w w8 := hB6.trans (hb68.mono hB6.size)
   have hX8 := hr6.out.keep hb68
   have x0 := hX8.cell' (i := 0) rfl
   have y0 := hr8.out.cell' (i := 0) rfl
   have x1 := hX8.cell' (i := 1) rfl
   have y1 := hr8.out.cell' (i := 1) rfl
   have x2 := hX8.cell' (i := 2) rfl
   have y2 := hr8.out.cell' (i := 2) rfl
   have x3 := hX8.cell' (i := 3) rfl
   have y3 := hr8.out.cell' (i := 3) rfl
   have x4 := hX8.cell' (i := 4) rfl
   have y4 := hr8.out.cell' (i := 4) rfl
   have x5 := hX8.cell' (i := 5) rfl
   have y5 := hr8.out.cell' (i := 5) rfl
   have DD := Lib.hid (samedoc_true s D.nodes D.spans D.notes hnb hnl _ _ _ _ _ _ w8 (g5.out.keep hb68) (GrAt.keep ⟨_, _, hN, hNr⟩ hb8) (s5.out.keep hb68) (RowAt.keep ⟨_, hS⟩ hb8) (o5.out.keep hb68) (RowAt.keep ⟨_, hO⟩ hb8))
   clear hX8 hr6 hr8 hg8 hz8 hX7 hb8 hb68 hb7 hN hNr hS hO
   go_wp2_with (go_at_call 7; ((with_reducible refine DD.out.mono ?_)); rintro e w9 ⟨rfl, hb9⟩)
   go_ret
   exact ⟨rfl, hB8.trans (hb9.mono hB8.size)⟩
end Go.Proofs.YtbdnamcjhndpjaaGreatDoor
namespace Go.Proofs.YtbdnamcjhndpjaaGreatDoor
open Go.ChangeShapes Go.WideShapes Go.ChangeAt Go.RowKit Go.Joins
theorem own_none : ownKnob Tryz.prog.godebug = none := by kernel_rfl
section
variable {H : Type} {enc : TypeId × Value → H} {P : Program}
theorem post_below {f : Func} {s : ChangeSpec} {apart fresh handsOn again : Bool} {W W' : World} {args : Array Value} {v : Value} {ds gs : List (DataW H)} {before pa pv : List MemPlace}
  (hW : DataW.Whole enc P f.params.toList s.vars apart W args.toList ds gs before)
  (hres : ∀ (b : Nat) (sp : Nat → Bool) (hd : Bool), DataW.TrodAll enc P W' b sp hd f.resultTypes.toList (v.resultList f.resultTypes.size) (s.fn H (ds ++ gs)).results [])
  (hargs : ∀ sp : Nat → Bool, (∀ p ∈ before, sp p.block = true) → DataW.TrodAll enc P W' 0 sp true f.params.toList args.toList (s.fn H (ds ++ gs)).args pa)
  (hvars : ∀ sp : Nat → Bool, (∀ p ∈ before, sp p.block = true) → DataW.TrodVars enc P W' sp s.vars (s.fn H (ds ++ gs)).vars pv)
  (hps : before = pa ++ pv) (hb : Below W.heap.size W W')
  (hok : ∀ (j : Nat) (t : TypeId) (r : Value), f.resultTypes[j]? = some t → (v.resultList f.resultTypes.size)[j]? = some r → Value.okWide P W' .any 0 t r) :
  s.post enc P f apart fresh handsOn again W args v W' := by
 have hlt : ∀ p ∈ before, p.block < W.heap.size := fun p hp => hW.lt p hp
 have hold : ∀ p ∈ before, (fun b => decide (b < W.heap.size)) p.block = true := fun p hp => by simpa using hlt p hp
 refine ⟨ds, gs, before, [], pa, pv, hW, hres _ _ _, hargs _ hold, hvars _ hold, World.keptBut_mono (fun p hp => ⟨hp, ?_⟩) (hb.frame (· ∈ before)), fun _ => ?_⟩
 ·rw [hps, List.mem_append] at hp
  exact Or.inr hp
 ·obtain ⟨_, _, _, _, _, hz, hn⟩ := hW
  refine ⟨hok, _, _, ([] ++ pa) ++ pv, ⟨[] ++ pa, pv, trodAll_append (hargs _ (fun _ _ => rfl)) (hres _ _ _), hvars _ (fun _ _ => rfl), rfl, ?_, ?_⟩, ?_⟩
  ·intro b off hp
   have hin : MemPlace.cell b off ∈ before := by rw [hps]; simpa using hp
   rw [hb.frozen (hlt _ hin)]
   exact hz b off hin
  ·intro ha
   have := hn ha
   rw [hps] at this
   simpa using this
  ·intro p hp _
   rw [hps]
   simpa using hp
set_option maxRecDepth 100000 in
theorem open_str8 {w : World} {r : Reach} {b0 base : Nat} {sp : Nat → Bool} {held : Bool} {v : Value} {d : DataW H} {ps : List MemPlace} (hval : Value.okWide Tryz.prog w r b0 9 v) (hd : DataW.Trod enc Tryz.prog w base sp held 9 v d ps) :
  ∃ l, By l ∧ v = .string (mks l) ∧ ps = [] ∧ l.length ≤ maxLen ∧ ∀ (W' : World) (sp' : Nat → Bool), DataW.Trod enc Tryz.prog W' 0 sp' true 9 v d [] := by
 obtain ⟨s, rfl, rfl, rfl, hs⟩ := Go.ChangeMaps.open_string Tryz.underlying9 hval hd
 obtain ⟨l, rfl, hl⟩ := mks_of s
 exact ⟨l, hl, rfl, rfl, by rw [size_mks] at hs; exact hs, fun W' sp' => Go.ChangeMaps.shut_string Tryz.underlying9 hs⟩
end
end Go.Proofs.YtbdnamcjhndpjaaGreatDoor
namespace Go.Proofs.YtbdnamcjhndpjaaGreatDoor
open Go.ChangeShapes Go.WideShapes Go.ChangeAt Go.RowKit Go.Lib
theorem Tryz.g_pow : Tryz.prog.globalNamed "internal/strconv.uint64pow10" = some 3 := by kernel_rfl
theorem pow_type : (Tryz.prog.globals[3]?).map (·.type) = some 181 := by kernel_rfl
theorem cells_u64 : Tryz.prog.cellsOf 175 = 1 := by kernel_rfl
theorem cells_pow : Tryz.prog.cellsOf 181 = 20 := by kernel_rfl
theorem tabIs_of_reads {P : Program} {W : World} {name : String} {k : IntKind} {zs : List Int} {g : Nat} {t e : TypeId} {n : Nat}
  (hg : P.globalNamed name = some g) (hty : (P.globals[g]?).map (·.type) = some t) (ht : P.underlying t = some (.array n e)) (he : P.underlying e = some (.int k)) (hce : P.cellsOf e = 1) (hct : P.cellsOf t = n)
  (h : VarReads P W name (tabData k zs)) : TabIs P W name k zs := by
 obtain ⟨g', t', cs, fuel, p, hg', ht', hvar, hd⟩ := h
 obtain rfl := Option.some.inj (hg.symm.trans hg')
 obtain rfl := Option.some.inj (hty.symm.trans ht')
 unfold TabIs
 rw [hvar, ← cells_of_tab ht he hce hct hd]
theorem pow_data : Rows.laid_internal_strconv_uint64pow10 = (tabData .u64 pow10Tab : DataW Unit) := by kernel_rfl
theorem first_data : Rows.laid_unicode_utf8_first = firstData := by kernel_rfl
theorem accept_data : Rows.laid_unicode_utf8_acceptRanges = acceptData := by kernel_rfl
theorem u8_extra : U8Extra Tryz.prog Tryz.lays260_ren := ⟨by kernel_rfl, by kernel_rfl, by kernel_rfl, by kernel_rfl, by kernel_rfl, by kernel_rfl, by kernel_rfl⟩
theorem lib_ok {W : World} (h : laidMet Tryz.prog Rows.jsonParsesRow.laid W) (hsh : W.ShapedOpen Tryz.prog) : LibOK W where
 pow := by
  have h1 : VarReads Tryz.prog W "internal/strconv.uint64pow10" Rows.laid_internal_strconv_uint64pow10 := laidMet.reads h (by simp [Rows.jsonParsesRow])
  rw [pow_data] at h1
  exact tabIs_of_reads Tryz.g_pow pow_type Tryz.underlying181 Tryz.underlying175 cells_u64 cells_pow h1
 max := cell_of_shapedOpen_int (zero := #[.int .i64 0]) (t := 3) (g := 2) hsh (of_decide_eq_true (by kernel_rfl)) (by kernel_rfl) rfl (by kernel_rfl) (by kernel_rfl) Tryz.underlying3
 tabs := by
  have h3 : VarReads Tryz.prog W "unicode/utf8.first" Rows.laid_unicode_utf8_first := laidMet.reads h (by simp [Rows.jsonParsesRow])
  have h4 : VarReads Tryz.prog W "unicode/utf8.acceptRanges" Rows.laid_unicode_utf8_acceptRanges := laidMet.reads h (by simp [Rows.jsonParsesRow])
  rw [first_data] at h3
  rw [accept_data] at h4
  exact utf8Tabs_of_reads Tryz.lays260 u8_extra h3 h4
set_option maxRecDepth 100000 in
theorem jb_contract (H : Type) (enc : TypeId × Value → H) (W : World) (base : Nat) (args : Array Value) (ds gs : List (DataW H)) (before : List MemPlace)
  (hval : ∀ (j : Nat) t v, Tryz.f3.params[j]? = some t → args[j]? = some v → Value.okWide Tryz.prog W .any base t v)
  (hW : DataW.Whole enc Tryz.prog Tryz.f3.params.toList Rows.jsonParsesSpec.vars false W args.toList ds gs before) (hL : laidMet Tryz.prog Rows.jsonParsesRow.laid W) (hsh : W.ShapedOpen Tryz.prog) :
  Calls Tryz.prog 3 args W fun e W' => ∃ v, e = .returned v ∧ Rows.jsonParsesSpec.post enc Tryz.prog Tryz.f3 false true false false W args v W' := by
 have hW' := hW
 obtain ⟨p, q, hA0, hV, rfl, hfz, hnd⟩ := hW
 have hA : DataW.TrodAll enc Tryz.prog W 0 (fun _ => true) true Tryz.f3.params.toList args.toList ds p := hA0
 rw [Tryz.params3] at hA hval
 obtain ⟨v0, d0, rfl, rfl, h0⟩ := trodAll_one hA
 obtain ⟨rfl, rfl⟩ := trodVars_none hV
 obtain ⟨l0, hl0, rfl, rfl, hm0, t0⟩ := open_str8 (hval 0 _ v0 rfl rfl) h0
 clear hA0
 simp only [List.append_nil] at hW'
 refine (jparses_any l0 hl0 W (lib_ok hL hsh)).mono fun e W' ⟨he, hg⟩ => ?_
 subst he
 exact ⟨_, rfl, post_below (pa := []) (pv := []) hW' (fun _ _ _ => trodAll_mk1 (shut_bool Tryz.underlying4 _)) (fun sp _ => trodAll_mk1 (t0 W' sp)) (fun _ _ => rfl) rfl hg (ok_one (by kernel_rfl) rfl (okWide_bool_mk Tryz.underlying4 _))⟩
def flatD : Nat → DataW Unit → List Value
 | 0, _ => []
 | _ + 1, .lit (.int k z) => [.int k z]
 | n + 1, .agg ds => ds.flatMap (flatD n)
 | _ + 1, _ => []
def layAt (h : Array Obj) (g : Nat) (d : DataW Unit) : Array Obj := h.modify g fun
 | .cells _ t fz => .cells (flatD 4 d).toArray t fz
 | o => o
noncomputable def laidWorld (os : Os) : World :=
 { World.holding Tryz.prog os ⟨#[], #[], []⟩ with heap := layAt (layAt (layAt (layAt (layAt (World.holding Tryz.prog os ⟨#[], #[], []⟩).heap 4 Rows.laid_math_bits_deBruijn32tab) 5 Rows.laid_math_bits_deBruijn64tab) 3 Rows.laid_internal_strconv_uint64pow10) 1 Rows.laid_unicode_utf8_acceptRanges) 0 Rows.laid_unicode_utf8_first }
theorem laid_met (os : Os) : laidMet Tryz.prog Rows.jsonParsesRow.laid ((laidWorld os).forCall (fun _ _ => 0) ⟨#[], #[.string ⟨#[]⟩], []⟩).memory :=
 laidMet_of_run' 8 (by kernel_rfl) (by kernel_rfl)
theorem jb_reads (os : Os) {H : Type} (enc : TypeId × Value → H) : ∃ places, DataW.whole enc Tryz.prog ((laidWorld os).forCall (fun _ _ => 0) ⟨#[], #[.string ⟨#[]⟩], []⟩).memory Tryz.f3.params.toList Rows.jsonParsesSpec.vars false #[Value.string ⟨#[]⟩].toList 8 = some ([.lit (.string [])], [], places) :=
 ⟨[], by kernel_rfl⟩
set_option maxRecDepth 100000 in
theorem jb_lifted (os : Os) (started : os.Started) (H : Type) (enc : TypeId × Value → H) (F : Stop.Interp) :
  ReturnsInHanded {} Tryz.checked os 3 .any ((OpenSpec.ofChange Rows.jsonParsesSpec).preRow enc Tryz.prog Tryz.f3 Rows.jsonParsesRow.domain false Rows.jsonParsesRow.laid) (((OpenSpec.ofChange Rows.jsonParsesSpec).at F).post enc Tryz.prog Tryz.f3 false true false false) := by
 obtain ⟨places, hx⟩ := jb_reads os enc
 refine returnsInHanded_of_row (C := Tryz.checked) (s := OpenSpec.ofChange Rows.jsonParsesSpec) own_none started (by kernel_rfl) Tryz.func3
  (witness_row_at (enc := enc) (C := Tryz.checked) false (laidWorld os) #[.string ⟨#[]⟩] rfl (by kernel_rfl) (by kernel_rfl) (by kernel_rfl)
   (OpenSpec.preRow_of_cond 8 hx (by kernel_rfl) (fun k hk => by cases hk) (by kernel_rfl) (laid_met os))) ?_
 intro W base args ds gs before hval hW _ _ _ hL hsh _
 exact jb_contract H enc W base args ds gs before hval hW hL hsh
theorem jsonParses_said : Rows.JsonParsesSaid :=
 OpenClaim.holds_of_cond 3 Tryz.f3 rfl rfl rfl rfl rfl rfl rfl ⟨rfl, rfl, rfl, rfl, rfl⟩ rfl rfl rfl rfl rfl (by kernel_rfl) Tryz.func3 (by kernel_rfl)
  (of_decide_eq_true (by kernel_rfl)) (by unfold Func.isWrapper; first | (rw [if_pos (by decide +kernel)]; kernel_rfl) | (rw [if_neg (by decide +kernel)]; exact ⟨rfl, rfl⟩))
  (fun os started H enc _ F => by rw [OpenClaim.pre_eq_preRow]; exact jb_lifted os started H enc F)
theorem jb_plain (f : FuncId) (fn : Func) (hf : Tryz.pinned.checked.prog.funcNamed "rosetta/rosettalaw22.JsonParses" = some f) (hfn : Tryz.pinned.checked.prog.funcs[f]? = some fn) :
  true = Tryz.pinned.checked.prog.looks [] ∧ ∀ (j : Nat) t, fn.params[j]? = some t → Tryz.pinned.checked.prog.wantsStandIn t = false := by
 obtain rfl : f = 3 := Option.some.inj ((show Tryz.prog.funcNamed "rosetta/rosettalaw22.JsonParses" = some 3 by kernel_rfl).symm.trans hf) |>.symm
 obtain rfl : fn = Tryz.f3 := (Option.some.inj (Tryz.func3.symm.trans hfn)).symm
 refine ⟨by kernel_rfl, fun j t ht => ?_⟩
 rw [Tryz.params3] at ht
 have hm : t = 9 := by simpa using Array.mem_of_getElem? ht
 subst hm
 exact (show Tryz.prog.wantsStandIn 9 = false by kernel_rfl)
theorem jsonParses_card : Rows.JsonParsesCardSaid :=
 Claim7.holds_tied_plain_at .later [] _ _ _ _ jsonParses_said (fun _ h => by cases h) (by kernel_rfl) (fun _ h => by cases h) jsonParses_row_tie rfl ⟨rfl, rfl⟩ (by kernel_rfl) rfl jb_plain (by kernel_rfl)
#print axioms jsonParses_card
end Go.Proofs.YtbdnamcjhndpjaaGreatDoor
