/- The walk of JsonBlanks: whatever the input, it returns true. -/
import Derived.Test.YtlkanldhfcgdpaaDoorMQ
import Derived.Test.YtlkanldhfcgdpaaDoorMR
set_option linter.unusedVariables false
set_option linter.unusedSimpArgs false
set_option linter.defProp false
set_option linter.constructorNameAsVariable false
namespace Go.Proofs.YtlkanldhfcgdpaaDoor
open Go.RowKit

theorem lit_ins : (⟨#[32, 47, 42, 44, 32, 34, 42, 47, 10]⟩ : ByteArray) = mks insL := by unfold insL mks; rfl
theorem toksC_get {l : List JTok} {k : Nat} {t : JTok} (h : l[k]? = some t) (j : Nat) (hj : j < 4) : (toksC l)[k * 4 + j]? = (tokC t)[j]? := by
  induction l generalizing k with
  | nil => cases h
  | cons x r ih =>
    unfold toksC at ih ⊢
    rw [List.flatMap_cons]
    cases k with
    | zero =>
      have : x = t := by simpa using h
      subst this
      rw [Nat.zero_mul, Nat.zero_add, List.getElem?_append_left (by simp [tokC]; omega)]
    | succ k =>
      rw [List.getElem?_append_right (by simp [tokC]; omega), show (k + 1) * 4 + j - (tokC x).length = k * 4 + j by simp [tokC]; omega]
      exact ih (by simpa using h)
theorem Arr.drewA {w : World} {g : Nat} {t : TypeId} {xs : List Value} (h : Arr w g t xs) : Arr w.drew g t xs := h
theorem GrAt.drewA {w : World} {vn : Value} {nodes : List GNode} (h : GrAt w vn nodes) : GrAt w.drew vn nodes := h
theorem GrAt.far {w : World} {vn : Value} {nodes : List GNode} {g : Nat} {us : List Value} (h : GrAt w vn nodes) (ha : Arr w g 35 us) (i : Nat) (u : Value) : GrAt (w.setCell ⟨g, i, none⟩ u) vn nodes := by
  obtain ⟨b, ncs, h1, h2⟩ := h
  refine ⟨b, ncs, own_far h1 (own_arr h1 ha (by decide)) _, h2.keep (fun k C fz _ hk => ?_) (fun _ h => h)⟩
  rw [setCell_heap_ne _ _ _ (by rintro rfl; exact absurd (cells_kind hk ha) (by decide))]
  exact hk
theorem off_or {xa ya : Nat} (h : Off xa ya) : ((ya : Int) == (xa : Int)) = true ∨ (((ya : Int) == (xa : Int)) = false ∧ ((ya : Int) == (xa : Int) + 9) = true) := by
  rcases h with h | h
  · exact .inl (by simp; omega)
  · exact .inr ⟨by simp; omega, by simp; omega⟩
set_option maxRecDepth 100000 in
set_option maxHeartbeats 4000000 in
theorem blanks_any (s : List Nat) (i : Int) (hs : By s) (w : World) (hw : LibOK w) :
    Calls Tryd.prog 3 #[.string (mks s), .int .i64 i] w fun e w' => e = .returned (.bool true) ∧ Below w.heap.size w w' := by
  have DA := Lib.hid (awake_true w hw)
  by_cases hlen : 1000 < s.length
  · have hlen' : (1000 : Int) < s.length := by omega
    go_enter Tryd.func3, Tryd.ntmps3
    go_wp2_with (go_at_call 4; go_loud (refine DA.out.mono ?_; rintro e w3 ⟨rfl, hb3⟩))
    go_ret
    exact ⟨rfl, hb3⟩
  · have hlen' : ¬ (1000 : Int) < s.length := by omega
    have DS : Hid (∀ w3, LibOK w3 → Calls Tryd.prog 5 #[.string (mks s)] w3 (ScanR w3 (scanV s))) := fun w3 h3 => scan_any s hs w3 h3
    go_enter Tryd.func3, Tryd.ntmps3
    go_upto_region 6 with (first | (go_at_call 4; go_loud (refine DA.out.mono ?_; rintro e w3 ⟨rfl, hb3⟩; have hw3 := hw.keep hb3)) | (go_at_call 5; go_loud (refine (DS.out _ hw3).mono ?_; rintro e w4 ⟨vo, vn, rfl, ho, _, hb4⟩; obtain ⟨A, c, hvo, hcA, hcM⟩ := own_slice ho; subst hvo)))
    have hB4 : Below w.heap.size w w4 := hb3.trans (hb4.mono hb3.size)
    have hw4 : LibOK w4 := hw3.keep hb4
    clear DA DS
    by_cases he : (scanV s).err = 0
    · have he' : (((scanV s).err : Int) != 0) = false := by simp [he]
      by_cases hi : i < 0
      · go_wp2
        go_ret
        exact ⟨rfl, hB4⟩
      · by_cases hi2 : ((scanV s).toks.length : Int) ≤ i
        · go_wp2
          go_ret
          exact ⟨rfl, hB4⟩
        · obtain ⟨n, rfl⟩ := Int.eq_ofNat_of_zero_le (show 0 ≤ i by omega)
          have hn : n < (scanV s).toks.length := by omega
          obtain ⟨t, ht⟩ : ∃ t, (scanV s).toks[n]? = some t := ⟨_, List.getElem?_eq_getElem hn⟩
          obtain ⟨g, cg, hvg, _, _⟩ := own_slice0 ho (by omega)
          injection hvg with hA _ hc
          subst hA
          subst hc
          have g1 := toksC_get ht 1 (by omega)
          have c1 := (own_cell ho (show (toksC (scanV s).toks)[n * 4 + 1]? = some (.int .i64 (t.from_ : Int)) from g1)).1
          have hn1 : (n : Int) < (scanV s).toks.length := by omega
          have hn2 : ¬ ((scanV s).toks.length : Int) ≤ n := by omega
          go_upto_region 9 with (fail)
          have hrel := parse_blanks s (by omega) he n t ht
          obtain ⟨hlt, _⟩ := scan_blanks s (by omega) he n t ht
          generalize t.from_ = at_ at *
          clear c1 g1 ho hn1 hn2 hi hi2
          have hsp : By (s.take at_ ++ insL ++ s.drop at_) := fun x hx => by
            rcases List.mem_append.1 hx with h1 | h1
            · rcases List.mem_append.1 h1 with h2 | h2
              · exact hs x (List.mem_of_mem_take h2)
              · simp [insL] at h2; omega
            · exact hs x (List.mem_of_mem_drop h1)
          have hlp : (s.take at_ ++ insL ++ s.drop at_).length < 4294967281 := by simp [insL]; omega
          have DP1 := Lib.hid (jparse_any s hs (by omega) w4 hw4)
          have DP2 : Hid (∀ w', LibOK w' → Calls Tryd.prog 6 #[.string (mks (s.take at_ ++ insL ++ s.drop at_))] w' (ParseR w' (s.take at_ ++ insL ++ s.drop at_) (parseJ (s.take at_ ++ insL ++ s.drop at_)))) := fun w' h' => jparse_any _ hsp hlp w' h'
          have hli := lit_ins
          have hc1 : ¬ 9223372036854775807 < min at_ s.length + insL.length := by simp [insL]; omega
          have hc2 : ¬ 9223372036854775807 < min at_ s.length + insL.length + (s.length - at_) := by simp [insL]; omega
          have hlt' : (at_ : Int) ≤ s.length := by omega
          have hat0 : (0 : Int) ≤ at_ := by omega
          rw [List.append_assoc] at hrel hsp hlp DP2
          cases hp : parseJ s with
          | error x =>
            have hx := parseJ_nz hp
            have hxo := parseJ_off hs he hp
            rw [hp] at DP1 hrel
            cases hp' : parseJ (s.take at_ ++ (insL ++ s.drop at_)) with
            | ok D' => rw [hp'] at hrel; exact hrel.elim
            | error x' =>
              rw [hp'] at DP2 hrel
              obtain ⟨xa, xe⟩ := x
              obtain ⟨ya, ye⟩ := x'
              obtain ⟨ho, hx2⟩ : Off xa ya ∧ ye = xe := hrel
              subst hx2
              have hx : ¬ ye = 0 := hx
              have hx1 : ((ye : Int) != 0) = true := by simp; omega
              have hx3 : ((ye : Int) != (ye : Int)) = false := by simp
              have hoo := off_or ho
              clear hp hp' ho
              go_upto_region 10 with (first | (go_at_call 6; go_loud (refine DP1.out.mono ?_; rintro e w5 ⟨hb5, rfl⟩; have hX5 := Lib.hid (Arr.new w5 35 zDoc))) | ((with_reducible show wpList _ _ _ (Oper.mk none (Op.store 35 (Operand.tmp 10) (Operand.tmp 48)) _ _ _ _ :: _) _ _); go_loud (refine wpList_sr rfl rfl 35 (.tmp 10) (.tmp 48) rfl (w5.heap.size) zDoc rfl rfl 35 _ hX5.out _ Tryd.sz35 (by first | rfl | simp) (by first | rfl | simp) (by first | rfl | simp [Value.oneCell']) ?_; intro w6 hr6 hg6 hz6)))
              have hb6 : Below w5.heap.size w5 w6 := ((Below.refl _ _).alloc (Nat.le_refl _) _).grown hg6 (by simp) (fun k e => by have := Option.some.inj e; omega)
              have hB6 : Below w.heap.size w w6 := (hB4.trans (hb5.mono hB4.size)).trans (hb6.mono (Nat.le_trans hB4.size hb5.size))
              have hw6 : LibOK w6.drew := hw.keep hB6.drew
              have hal : Below w6.heap.size w6 (w6.alloc (.cells #[.int .i64 0, .string ⟨#[]⟩, .slice none 0 0, .int .i64 0, .slice none 0 0, .slice none 0 0] 35)) := (Below.refl _ _).alloc (Nat.le_refl _) _
              have hBa : Below w.heap.size w (w6.alloc (.cells #[.int .i64 0, .string ⟨#[]⟩, .slice none 0 0, .int .i64 0, .slice none 0 0, .slice none 0 0] 35)) := hB6.trans (hal.mono hB6.size)
              have hw6a : LibOK (w6.alloc (.cells #[.int .i64 0, .string ⟨#[]⟩, .slice none 0 0, .int .i64 0, .slice none 0 0, .slice none 0 0] 35)).drew := hw.keep hBa.drew
              have HZ : Arr (w6.alloc (.cells #[.int .i64 0, .string ⟨#[]⟩, .slice none 0 0, .int .i64 0, .slice none 0 0, .slice none 0 0] 35)).drew w6.heap.size 35 zDoc := Arr.new w6 _ _
              clear hr6 hg6 hz6 hX5 DP1
              go_region_law ((try go_simp); go_at_call 6; go_loud ((first | (with_reducible refine (DP2.out _ hw6).mono ?_) | (with_reducible refine (DP2.out _ hw6a).mono ?_)); rintro e w8 ⟨hb8, rfl⟩; (try (have HZ8 := Arr.keep HZ hb8; have p0 := HZ8.cell' (i := 0) rfl; have p1 := HZ8.cell' (i := 1) rfl; have p2 := HZ8.cell' (i := 2) rfl; have p3 := HZ8.cell' (i := 3) rfl; have p4 := HZ8.cell' (i := 4) rfl; have p5 := HZ8.cell' (i := 5) rfl; have pz0 := HZ8.frozen 0; have pz1 := HZ8.frozen 1; have pz2 := HZ8.frozen 2; have pz3 := HZ8.frozen 3; have pz4 := HZ8.frozen 4; have pz5 := HZ8.frozen 5))))
              · have hB8 : Below w.heap.size w w8 := hB6.drew.trans (hb8.mono hB6.size)
                rcases hoo with h1 | ⟨h1, h2⟩
                · go_wp2_with fail
                  go_ret
                  exact ⟨rfl, hB8.alloc hB8.size _⟩
                · go_wp2_with fail
                  go_ret
                  exact ⟨rfl, hB8.alloc hB8.size _⟩
              · have hsz := hB6.size
                have hB8 : Below w.heap.size w w8 := hBa.drew.trans (hb8.mono hBa.size)
                rcases hoo with h1 | ⟨h1, h2⟩
                · go_wp2_with fail
                  go_ret
                  exact ⟨rfl, (((((hB8.setCell hsz _).setCell hsz _).setCell hsz _).setCell hsz _).setCell hsz _).setCell hsz _⟩
                · go_wp2_with fail
                  go_ret
                  exact ⟨rfl, (((((hB8.setCell hsz _).setCell hsz _).setCell hsz _).setCell hsz _).setCell hsz _).setCell hsz _⟩
          | ok D =>
            obtain ⟨hnb, hnl⟩ := parseJ_nb hs hp
            have hnn := parseJ_notes hp
            rw [hp] at DP1 hrel
            cases hp' : parseJ (s.take at_ ++ (insL ++ s.drop at_)) with
            | error x' => rw [hp'] at hrel; exact hrel.elim
            | ok D' =>
              rw [hp'] at DP2 hrel
              obtain ⟨hnd, hnt⟩ : D'.nodes = D.nodes ∧ D'.notes.length = D.notes.length + 1 := hrel
              clear hp hp'
              go_upto_region 10 with (first | (go_at_call 6; go_loud (refine DP1.out.mono ?_; rintro e w5 ⟨hb5, wn, ws, wo, ncs, rfl, hN, hNr, hS, hT⟩; obtain ⟨An, cn, hvn, _, _⟩ := own_slice hN; subst hvn; obtain ⟨As, cs, hvs, _, _⟩ := own_slice hS; subst hvs; obtain ⟨Ao, co, hvo, hno, hco⟩ := own_slice hT; subst hvo; have hX5 := Lib.hid (Arr.new w5 35 zDoc))) | ((with_reducible show wpList _ _ _ (Oper.mk none (Op.store 35 (Operand.tmp 10) (Operand.tmp 48)) _ _ _ _ :: _) _ _); go_loud (refine wpList_sr rfl rfl 35 (.tmp 10) (.tmp 48) rfl (w5.heap.size) [.int .i64 0, .string (mks s), .slice An D.nodes.length cn, .int .i64 0, .slice As D.spans.length cs, .slice Ao D.notes.length co] rfl rfl 35 _ hX5.out _ Tryd.sz35 (by first | rfl | simp) (by first | rfl | simp) (by first | rfl | simp [Value.oneCell']) ?_; intro w6 hr6 hg6 hz6)))
              have hb6 : Below w5.heap.size w5 w6 := ((Below.refl _ _).alloc (Nat.le_refl _) _).grown hg6 (by simp) (fun k e => by have := Option.some.inj e; omega)
              have hB6 : Below w.heap.size w w6 := (hB4.trans (hb5.mono hB4.size)).trans (hb6.mono (Nat.le_trans hB4.size hb5.size))
              have hG6 : GrAt w6 (.slice An D.nodes.length cn) D.nodes := GrAt.keep ⟨_, _, hN, hNr⟩ hb6
              have hr6' := hr6.out
              have hw6 : LibOK w6.drew := hw.keep hB6.drew
              have hal : Below w6.heap.size w6 (w6.alloc (.cells #[.int .i64 0, .string ⟨#[]⟩, .slice none 0 0, .int .i64 0, .slice none 0 0, .slice none 0 0] 35)) := (Below.refl _ _).alloc (Nat.le_refl _) _
              have hBa : Below w.heap.size w (w6.alloc (.cells #[.int .i64 0, .string ⟨#[]⟩, .slice none 0 0, .int .i64 0, .slice none 0 0, .slice none 0 0] 35)) := hB6.trans (hal.mono hB6.size)
              have hw6a : LibOK (w6.alloc (.cells #[.int .i64 0, .string ⟨#[]⟩, .slice none 0 0, .int .i64 0, .slice none 0 0, .slice none 0 0] 35)).drew := hw.keep hBa.drew
              have HZ : Arr (w6.alloc (.cells #[.int .i64 0, .string ⟨#[]⟩, .slice none 0 0, .int .i64 0, .slice none 0 0, .slice none 0 0] 35)).drew w6.heap.size 35 zDoc := Arr.new w6 _ _
              have hz5 : w5.heap.size < w6.heap.size := hr6'.lt
              obtain ⟨z, hzz⟩ : ∃ z, Hid (w5.heap.size = z) := ⟨_, rfl⟩
              rw [hzz.out] at hr6' hz5 ⊢
              clear hr6 hg6 hz6 hX5 DP1 hN hNr hS hT
              have hno2 : (D.notes.length : Int) ≤ 65536 := by omega
              have hnt' : ((D'.notes.length : Int) == (D.notes.length : Int) + 1) = true := by simp; omega
              have hNT := Lib.hid hnt
              have hND := Lib.hid hnd
              clear hnt hnd hno hco
              go_region_law ((try go_simp); go_at_call 6; go_loud ((first | (with_reducible refine (DP2.out _ hw6).mono ?_) | (with_reducible refine (DP2.out _ hw6a).mono ?_)); rintro e w8 ⟨hb8, wn2, ws2, wo2, nc2, rfl, hN2, hNr2, hS2, hT2⟩; obtain ⟨An2, cn2, hvn, _, _⟩ := own_slice hN2; subst hvn; obtain ⟨As2, cs2, hvs, _, _⟩ := own_slice hS2; subst hvs; obtain ⟨Ao2, co2, hvo, _, _⟩ := own_slice hT2; subst hvo; (try (have HZ8 := Arr.keep HZ hb8; have p0 := HZ8.cell' (i := 0) rfl; have p1 := HZ8.cell' (i := 1) rfl; have p2 := HZ8.cell' (i := 2) rfl; have p3 := HZ8.cell' (i := 3) rfl; have p4 := HZ8.cell' (i := 4) rfl; have p5 := HZ8.cell' (i := 5) rfl; have pz0 := HZ8.frozen 0; have pz1 := HZ8.frozen 1; have pz2 := HZ8.frozen 2; have pz3 := HZ8.frozen 3; have pz4 := HZ8.frozen 4; have pz5 := HZ8.frozen 5))))
              · have hB8 : Below w.heap.size w w8 := hB6.drew.trans (hb8.mono hB6.size)
                have hal9 : Below w8.heap.size w8 (w8.alloc (.cells #[.int .i64 0, .string (mks (s.take at_ ++ (insL ++ s.drop at_))), .slice An2 D'.nodes.length cn2, .int .i64 0, .slice As2 D'.spans.length cs2, .slice Ao2 D'.notes.length co2] 35)) := (Below.refl _ _).alloc (Nat.le_refl _) _
                have hB9 : Below w.heap.size w (w8.alloc (.cells #[.int .i64 0, .string (mks (s.take at_ ++ (insL ++ s.drop at_))), .slice An2 D'.nodes.length cn2, .int .i64 0, .slice As2 D'.spans.length cs2, .slice Ao2 D'.notes.length co2] 35)) := hB8.trans (hal9.mono hB8.size)
                have hX9 := (Arr.keep (show Arr w6.drew z 35 _ from hr6') hb8).keep hal9
                have hY9 : Arr (w8.alloc (.cells #[.int .i64 0, .string (mks (s.take at_ ++ (insL ++ s.drop at_))), .slice An2 D'.nodes.length cn2, .int .i64 0, .slice As2 D'.spans.length cs2, .slice Ao2 D'.notes.length co2] 35)) w8.heap.size 35 [.int .i64 0, .string (mks (s.take at_ ++ (insL ++ s.drop at_))), .slice An2 D'.nodes.length cn2, .int .i64 0, .slice As2 D'.spans.length cs2, .slice Ao2 D'.notes.length co2] := Arr.new w8 _ _
                have hG9 := GrAt.keep (GrAt.keep (show GrAt w6.drew _ _ from hG6) hb8) hal9
                have hG9' : GrAt (w8.alloc (.cells #[.int .i64 0, .string (mks (s.take at_ ++ (insL ++ s.drop at_))), .slice An2 D'.nodes.length cn2, .int .i64 0, .slice As2 D'.spans.length cs2, .slice Ao2 D'.notes.length co2] 35)) (.slice An2 D'.nodes.length cn2) D.nodes := by
                  have := GrAt.keep ⟨_, _, hN2, hNr2⟩ hal9
                  rwa [hND.out] at this ⊢
                generalize (w8.alloc (.cells #[.int .i64 0, .string (mks (s.take at_ ++ (insL ++ s.drop at_))), .slice An2 D'.nodes.length cn2, .int .i64 0, .slice As2 D'.spans.length cs2, .slice Ao2 D'.notes.length co2] 35)) = W9 at *
                clear hG6 hr6' hN2 hNr2
                have DG := Lib.hid (samegraph_true D.nodes hnb hnl 0 (.slice An D.nodes.length cn) (.slice An2 D'.nodes.length cn2) W9 hG9 hG9')
                have x2 := hX9.cell' (i := 2) rfl
                have x3 := hX9.cell' (i := 3) rfl
                have x5 := hX9.cell' (i := 5) rfl
                have y2 := hY9.cell' (i := 2) rfl
                have y3 := hY9.cell' (i := 3) rfl
                have y5 := hY9.cell' (i := 5) rfl
                have hXh := Lib.hid hX9
                have hYh := Lib.hid hY9
                clear hX9 hY9
                go_wp2_with (go_at_call 7; go_loud (refine DG.out.mono ?_; rintro e w10 ⟨rfl, hb10⟩; have x5' := (Arr.keep hXh.out hb10).cell' (i := 5) rfl; have y5' := (Arr.keep hYh.out hb10).cell' (i := 5) rfl))
                go_ret
                exact ⟨rfl, hB9.trans (hb10.mono hB9.size)⟩
              · have hsz := hB6.size
                have hB8 : Below w.heap.size w w8 := hBa.drew.trans (hb8.mono hBa.size)
                have hzn : z ≠ w6.heap.size := by omega
                have hX8 := Arr.keep (Arr.keep hr6' hal).drewA hb8
                have hG8 : GrAt w8 (.slice An D.nodes.length cn) D.nodes := GrAt.keep (GrAt.drewA (GrAt.keep hG6 hal)) hb8
                have hG8' : GrAt w8 (.slice An2 D'.nodes.length cn2) D.nodes := by
                  have : GrAt w8 (.slice An2 D'.nodes.length cn2) D'.nodes := ⟨_, _, hN2, hNr2⟩
                  rwa [hND.out] at this ⊢
                have hY9 : Arr ((((((w8.setCell ⟨w6.heap.size, 0, none⟩ (.int .i64 0)).setCell ⟨w6.heap.size, 1, none⟩ (.string (mks (s.take at_ ++ (insL ++ s.drop at_))))).setCell ⟨w6.heap.size, 2, none⟩ (.slice An2 D'.nodes.length cn2)).setCell ⟨w6.heap.size, 3, none⟩ (.int .i64 0)).setCell ⟨w6.heap.size, 4, none⟩ (.slice As2 D'.spans.length cs2)).setCell ⟨w6.heap.size, 5, none⟩ (.slice Ao2 D'.notes.length co2)) w6.heap.size 35 [.int .i64 0, .string (mks (s.take at_ ++ (insL ++ s.drop at_))), .slice An2 D'.nodes.length cn2, .int .i64 0, .slice As2 D'.spans.length cs2, .slice Ao2 D'.notes.length co2] := ((((((HZ8.store 0 (.int .i64 0)).store 1 (.string (mks (s.take at_ ++ (insL ++ s.drop at_))))).store 2 (.slice An2 D'.nodes.length cn2)).store 3 (.int .i64 0)).store 4 (.slice As2 D'.spans.length cs2)).store 5 (.slice Ao2 D'.notes.length co2))
                have hX9 : Arr ((((((w8.setCell ⟨w6.heap.size, 0, none⟩ (.int .i64 0)).setCell ⟨w6.heap.size, 1, none⟩ (.string (mks (s.take at_ ++ (insL ++ s.drop at_))))).setCell ⟨w6.heap.size, 2, none⟩ (.slice An2 D'.nodes.length cn2)).setCell ⟨w6.heap.size, 3, none⟩ (.int .i64 0)).setCell ⟨w6.heap.size, 4, none⟩ (.slice As2 D'.spans.length cs2)).setCell ⟨w6.heap.size, 5, none⟩ (.slice Ao2 D'.notes.length co2)) z 35 _ := ((((((hX8.far (p := ⟨w6.heap.size, 0, none⟩) hzn (.int .i64 0)).far (p := ⟨w6.heap.size, 1, none⟩) hzn (.string (mks (s.take at_ ++ (insL ++ s.drop at_))))).far (p := ⟨w6.heap.size, 2, none⟩) hzn (.slice An2 D'.nodes.length cn2)).far (p := ⟨w6.heap.size, 3, none⟩) hzn (.int .i64 0)).far (p := ⟨w6.heap.size, 4, none⟩) hzn (.slice As2 D'.spans.length cs2)).far (p := ⟨w6.heap.size, 5, none⟩) hzn (.slice Ao2 D'.notes.length co2))
                have hB9 : Below w.heap.size w ((((((w8.setCell ⟨w6.heap.size, 0, none⟩ (.int .i64 0)).setCell ⟨w6.heap.size, 1, none⟩ (.string (mks (s.take at_ ++ (insL ++ s.drop at_))))).setCell ⟨w6.heap.size, 2, none⟩ (.slice An2 D'.nodes.length cn2)).setCell ⟨w6.heap.size, 3, none⟩ (.int .i64 0)).setCell ⟨w6.heap.size, 4, none⟩ (.slice As2 D'.spans.length cs2)).setCell ⟨w6.heap.size, 5, none⟩ (.slice Ao2 D'.notes.length co2)) := (Below.setCell (Below.setCell (Below.setCell (Below.setCell (Below.setCell (Below.setCell hB8 hsz _) hsz _) hsz _) hsz _) hsz _) hsz _)
                have hG9 : GrAt ((((((w8.setCell ⟨w6.heap.size, 0, none⟩ (.int .i64 0)).setCell ⟨w6.heap.size, 1, none⟩ (.string (mks (s.take at_ ++ (insL ++ s.drop at_))))).setCell ⟨w6.heap.size, 2, none⟩ (.slice An2 D'.nodes.length cn2)).setCell ⟨w6.heap.size, 3, none⟩ (.int .i64 0)).setCell ⟨w6.heap.size, 4, none⟩ (.slice As2 D'.spans.length cs2)).setCell ⟨w6.heap.size, 5, none⟩ (.slice Ao2 D'.notes.length co2)) (.slice An D.nodes.length cn) D.nodes := (GrAt.far (GrAt.far (GrAt.far (GrAt.far (GrAt.far (GrAt.far hG8 HZ8 0 (.int .i64 0)) (HZ8.store 0 (.int .i64 0)) 1 (.string (mks (s.take at_ ++ (insL ++ s.drop at_))))) ((HZ8.store 0 (.int .i64 0)).store 1 (.string (mks (s.take at_ ++ (insL ++ s.drop at_))))) 2 (.slice An2 D'.nodes.length cn2)) (((HZ8.store 0 (.int .i64 0)).store 1 (.string (mks (s.take at_ ++ (insL ++ s.drop at_))))).store 2 (.slice An2 D'.nodes.length cn2)) 3 (.int .i64 0)) ((((HZ8.store 0 (.int .i64 0)).store 1 (.string (mks (s.take at_ ++ (insL ++ s.drop at_))))).store 2 (.slice An2 D'.nodes.length cn2)).store 3 (.int .i64 0)) 4 (.slice As2 D'.spans.length cs2)) (((((HZ8.store 0 (.int .i64 0)).store 1 (.string (mks (s.take at_ ++ (insL ++ s.drop at_))))).store 2 (.slice An2 D'.nodes.length cn2)).store 3 (.int .i64 0)).store 4 (.slice As2 D'.spans.length cs2)) 5 (.slice Ao2 D'.notes.length co2))
                have hG9' : GrAt ((((((w8.setCell ⟨w6.heap.size, 0, none⟩ (.int .i64 0)).setCell ⟨w6.heap.size, 1, none⟩ (.string (mks (s.take at_ ++ (insL ++ s.drop at_))))).setCell ⟨w6.heap.size, 2, none⟩ (.slice An2 D'.nodes.length cn2)).setCell ⟨w6.heap.size, 3, none⟩ (.int .i64 0)).setCell ⟨w6.heap.size, 4, none⟩ (.slice As2 D'.spans.length cs2)).setCell ⟨w6.heap.size, 5, none⟩ (.slice Ao2 D'.notes.length co2)) (.slice An2 D'.nodes.length cn2) D.nodes := (GrAt.far (GrAt.far (GrAt.far (GrAt.far (GrAt.far (GrAt.far hG8' HZ8 0 (.int .i64 0)) (HZ8.store 0 (.int .i64 0)) 1 (.string (mks (s.take at_ ++ (insL ++ s.drop at_))))) ((HZ8.store 0 (.int .i64 0)).store 1 (.string (mks (s.take at_ ++ (insL ++ s.drop at_))))) 2 (.slice An2 D'.nodes.length cn2)) (((HZ8.store 0 (.int .i64 0)).store 1 (.string (mks (s.take at_ ++ (insL ++ s.drop at_))))).store 2 (.slice An2 D'.nodes.length cn2)) 3 (.int .i64 0)) ((((HZ8.store 0 (.int .i64 0)).store 1 (.string (mks (s.take at_ ++ (insL ++ s.drop at_))))).store 2 (.slice An2 D'.nodes.length cn2)).store 3 (.int .i64 0)) 4 (.slice As2 D'.spans.length cs2)) (((((HZ8.store 0 (.int .i64 0)).store 1 (.string (mks (s.take at_ ++ (insL ++ s.drop at_))))).store 2 (.slice An2 D'.nodes.length cn2)).store 3 (.int .i64 0)).store 4 (.slice As2 D'.spans.length cs2)) 5 (.slice Ao2 D'.notes.length co2))
                clear hX8 hG8 hG8' HZ8 p0 p1 p2 p3 p4 p5 pz0 pz1 pz2 pz3 pz4 pz5
                generalize ((((((w8.setCell ⟨w6.heap.size, 0, none⟩ (.int .i64 0)).setCell ⟨w6.heap.size, 1, none⟩ (.string (mks (s.take at_ ++ (insL ++ s.drop at_))))).setCell ⟨w6.heap.size, 2, none⟩ (.slice An2 D'.nodes.length cn2)).setCell ⟨w6.heap.size, 3, none⟩ (.int .i64 0)).setCell ⟨w6.heap.size, 4, none⟩ (.slice As2 D'.spans.length cs2)).setCell ⟨w6.heap.size, 5, none⟩ (.slice Ao2 D'.notes.length co2)) = W9 at *
                clear hG6 hr6' hN2 hNr2
                have DG := Lib.hid (samegraph_true D.nodes hnb hnl 0 (.slice An D.nodes.length cn) (.slice An2 D'.nodes.length cn2) W9 hG9 hG9')
                have x2 := hX9.cell' (i := 2) rfl
                have x3 := hX9.cell' (i := 3) rfl
                have x5 := hX9.cell' (i := 5) rfl
                have y2 := hY9.cell' (i := 2) rfl
                have y3 := hY9.cell' (i := 3) rfl
                have y5 := hY9.cell' (i := 5) rfl
                have hXh := Lib.hid hX9
                have hYh := Lib.hid hY9
                clear hX9 hY9
                go_wp2_with (go_at_call 7; go_loud (refine DG.out.mono ?_; rintro e w10 ⟨rfl, hb10⟩; have x5' := (Arr.keep hXh.out hb10).cell' (i := 5) rfl; have y5' := (Arr.keep hYh.out hb10).cell' (i := 5) rfl))
                go_ret
                exact ⟨rfl, hB9.trans (hb10.mono hB9.size)⟩
    · have he' : (((scanV s).err : Int) != 0) = true := by simp; omega
      go_wp2
      go_ret
      exact ⟨rfl, hB4⟩
end Go.Proofs.YtlkanldhfcgdpaaDoor
