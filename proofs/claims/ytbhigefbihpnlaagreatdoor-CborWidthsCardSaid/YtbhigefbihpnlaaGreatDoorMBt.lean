/- The walks of slices.Equal of numbers, of canon.Same's closure and of slices.EqualFunc over it, at equal nodes. -/
import Derived.Test.YtbhigefbihpnlaaGreatDoorMBs
import Derived.Test.YtbhigefbihpnlaaGreatDoorMBp
set_option linter.unusedVariables false
set_option linter.unusedSimpArgs false
set_option linter.defProp false
set_option linter.constructorNameAsVariable false
namespace Go.Proofs.YtbhigefbihpnlaaGreatDoor
open Go.RowKit
def KFr (w w' : World) : Prop := w.heap.size ≤ w'.heap.size ∧ ∀ b, b < w.heap.size → ((∃ C fz, w.heap[b]? = some (.cells C 60 fz)) ∨ (∃ C fz, w.heap[b]? = some (.cells C 3 fz))) → w'.heap[b]? = w.heap[b]?
theorem KFr.refl (w : World) : KFr w w := ⟨Nat.le_refl _, fun _ _ _ => rfl⟩
theorem KFr.trans {a b c : World} (h : KFr a b) (k : KFr b c) : KFr a c := by
 refine ⟨Nat.le_trans h.1 k.1, fun j hj hk => ?_⟩
 have e := h.2 j hj hk
 rw [← e] at hk
 exact (k.2 j (Nat.lt_of_lt_of_le hj h.1) hk).trans e
theorem KFr.below {w w' : World} (h : Below w.heap.size w w') : KFr w w' := ⟨h.size, fun b hb _ => h.block b hb⟩
theorem KFr.set {w : World} {b : Nat} {t : TypeId} {xs : List Value} (ha : Arr w b t xs) (h1 : t ≠ 60) (h2 : t ≠ 3) (i : Nat) (u : Value) : KFr w (w.setCell ⟨b, i, none⟩ u) := by
 refine ⟨by simp [World.setCell], fun j _ hk => setCell_heap_ne _ _ _ ?_⟩
 rintro rfl
 rcases hk with ⟨C, fz, hk⟩ | ⟨C, fz, hk⟩
 ·exact h1 (cells_kind ha hk)
 ·exact h2 (cells_kind ha hk)
def GK (w : World) (ob : Nat) (N : List GNode) : Prop := ∀ w', KFr w w' → GRd w' w'.heap.size ob 0 N
theorem GK.step {w w' : World} {ob : Nat} {N : List GNode} (h : GK w ob N) (k : KFr w w') : GK w' ob N := fun w'' k' => h w'' (k.trans k')
theorem GK.rd {w : World} {ob : Nat} {N : List GNode} (h : GK w ob N) : GRd w w.heap.size ob 0 N := h w (KFr.refl w)
theorem gk_arr {w : World} {om : Nat} {N : List GNode} {ncs : List Value} (ha : Arr w om 60 ncs) (hN : NodesRd w (fun _ => True) ncs N) : GK w om N := fun w' k =>
 grd_arr ((k.2 om ha.lt (.inl ⟨_, _, ha⟩)).trans ha) (hN.over fun b hb _ hk => ⟨k.2 b hb (.inr hk), trivial⟩)
set_option maxRecDepth 20000 in
set_option maxHeartbeats 4000000 in
theorem iequal_cb {xs : List Int} {A A' : Option Addr} {c c' : Nat} (hl : xs.length ≤ 100000) (w : World) (hA : Rd w A (I64 xs)) (hA' : Rd w A' (I64 xs)) :
  Calls Tryz.prog 16 #[.slice A xs.length c, .slice A' xs.length c'] w fun e w' => e = .returned (.bool true) ∧ Below w.heap.size w w' := by
 have HA := Lib.hid hA
 have HA' := Lib.hid hA'
 obtain ⟨n, hn⟩ : ∃ n, xs.length = n := ⟨_, rfl⟩
 have HN := Lib.hid hn
 have H0 := Lib.hid (Below.refl w.heap.size w)
 rw [hn] at hl ⊢
 clear hA hA' hn
 go_enter Tryz.func16, Tryz.ntmps16
 go_upto_region 4 with (fail)
 go_loopw [13] (fun v wr => ∃ i : Nat, i ≤ n ∧ v = .int .i64 (i : Int) ∧ Hid (Below w.heap.size w wr)) (fun v _ => n - (intOf v).toNat)
 case atStart => exact ⟨0, Nat.zero_le _, rfl, H0⟩
 case round =>
  obtain ⟨i, hi, rfl, hB⟩ := hrel
  by_cases hin : i = n
  ·have hi' : ¬ (i : Int) < n := by omega
   go_wp2
   go_ret
   exact ⟨rfl, hB.out⟩
  ·have hi' : (i : Int) < n := by omega
   have i0 : (0 : Int) ≤ i := by omega
   obtain ⟨x, hx⟩ : ∃ x, xs[i]? = some x := ⟨_, List.getElem?_eq_getElem (by have := HN.out; omega)⟩
   obtain ⟨a, rfl, ha⟩ := (HA.out.keep hB.out).at_ (I64_get hx)
   obtain ⟨b, rfl, hb⟩ := (HA'.out.keep hB.out).at_ (I64_get hx)
   clear hin hx
   go_upto_region 6 with (fail)
   go_quiet (fail)
   go_wp2
   go_roundw
   case rel => exact ⟨i + 1, by omega, i64e (by omega), Below.drewN' hB.out _⟩
   case measure => first | (simp [intOf]; done) | (simp [intOf]; omega)
set_option maxRecDepth 20000 in
set_option maxHeartbeats 8000000 in
theorem same1_cb {nd : GNode} {K I K' I' : Option Addr} {ck ci ck' ci' : Nat} (hk : nd.keys.length ≤ 100000) (hi : nd.items.length ≤ 100000) (w : World) (h1 : Rd w K (I64 nd.keys)) (h2 : Rd w I (I64 nd.items)) (h3 : Rd w K' (I64 nd.keys)) (h4 : Rd w I' (I64 nd.items)) :
  Calls Tryz.prog 15 #[.agg #[.int .i64 nd.kind, .string (mks nd.text), .bool nd.ord, .slice K nd.keys.length ck, .slice I nd.items.length ci], .agg #[.int .i64 nd.kind, .string (mks nd.text), .bool nd.ord, .slice K' nd.keys.length ck', .slice I' nd.items.length ci']] w fun e w' => e = .returned (.bool true) ∧ Below w.heap.size w w' := by
 obtain ⟨q1, q2, hb1, hz1⟩ := box2 w 60 60 [.int .i64 nd.kind, .string (mks nd.text), .bool nd.ord, .slice K nd.keys.length ck, .slice I nd.items.length ci] [.int .i64 nd.kind, .string (mks nd.text), .bool nd.ord, .slice K' nd.keys.length ck', .slice I' nd.items.length ci']
 have D1 := Lib.hid (fun w' (hb : Below w.heap.size w w') => iequal_cb (c := ck) (c' := ck') hk w' (h1.keep hb) (h3.keep hb))
 have D2 := Lib.hid (fun w' (hb : Below w.heap.size w w') => iequal_cb (c := ci) (c' := ci') hi w' (h2.keep hb) (h4.keep hb))
 have HB := Lib.hid hb1
 clear h1 h2 h3 h4 hk hi hb1 hz1
 generalize nd.keys.length = nk at *
 generalize nd.items.length = ni at *
 generalize nd.kind = kd at *
 generalize nd.ord = od at *
 obtain ⟨T, hT⟩ : ∃ T, mks nd.text = T := ⟨_, rfl⟩
 rw [hT] at q1 q2 HB ⊢
 clear hT
 go_enter Tryz.func15, Tryz.ntmps15
 go_upto_region 1 with (fail)
 generalize ((w.alloc (.cells #[.int .i64 kd, .string T, .bool od, .slice K nk ck, .slice I ni ci] 60)).alloc (.cells #[.int .i64 kd, .string T, .bool od, .slice K' nk ck', .slice I' ni ci'] 60)) = W at *
 have a0 := q1.out.cell' (i := 0) rfl
 have b0 := q2.out.cell' (i := 0) rfl
 have a1 := q1.out.cell' (i := 1) rfl
 have b1 := q2.out.cell' (i := 1) rfl
 have a2 := q1.out.cell' (i := 2) rfl
 have b2 := q2.out.cell' (i := 2) rfl
 have a3 := q1.out.cell' (i := 3) rfl
 have b3 := q2.out.cell' (i := 3) rfl
 have a4 := q1.out.cell' (i := 4) rfl
 have b4 := q2.out.cell' (i := 4) rfl
 have et : (T.toList == T.toList) = true := by simp
 have eo : (od == od) = true := by simp
 have ek : (kd == kd) = true := by simp
 go_wp2_with (first | (go_at_call 16; ((with_reducible refine (D1.out _ HB.out).mono ?_)); rintro e w5 ⟨rfl, hb5⟩; have HB5 := Lib.hid (HB.out.trans (hb5.mono HB.out.size)); have p4 := (q1.out.keep hb5).cell' (i := 4) rfl; have r4 := (q2.out.keep hb5).cell' (i := 4) rfl) | (go_at_call 16; ((with_reducible refine (D2.out _ HB5.out).mono ?_)); rintro e w6 ⟨rfl, hb6⟩))
 go_ret
 exact ⟨rfl, HB5.out.trans (hb6.mono HB5.out.size)⟩
set_option maxRecDepth 20000 in
set_option maxHeartbeats 8000000 in
theorem eqfunc_cb {N : List GNode} {a b ca cb : Nat} (hl : N.length ≤ 4096) (hL : NL 65536 N) (w : World) (hA : GRd w w.heap.size a 0 N) (hB : GRd w w.heap.size b 0 N) :
  Calls Tryz.prog 14 #[.slice (some ⟨a, 0, none⟩) N.length ca, .slice (some ⟨b, 0, none⟩) N.length cb, .func (.func 15) #[] #[]] w fun e w' => e = .returned (.bool true) ∧ Below w.heap.size w w' := by
 have HA := Lib.hid hA
 have HB := Lib.hid hB
 have HL := Lib.hid hL
 obtain ⟨n, hn⟩ : ∃ n, N.length = n := ⟨_, rfl⟩
 have HN := Lib.hid hn
 have H0 := Lib.hid (Below.refl w.heap.size w)
 rw [hn] at hl ⊢
 clear hA hB hn hL
 go_enter Tryz.func14, Tryz.ntmps14
 go_upto_region 4 with (fail)
 go_loopw [17] (fun v wr => ∃ i : Nat, i ≤ n ∧ v = .int .i64 (i : Int) ∧ Hid (Below w.heap.size w wr)) (fun v _ => n - (intOf v).toNat)
 case atStart => exact ⟨0, Nat.zero_le _, rfl, H0⟩
 case round =>
  obtain ⟨i, hi, rfl, hW⟩ := hrel
  by_cases hin : i = n
  ·have hi' : ¬ (i : Int) < n := by omega
   go_wp2
   go_ret
   exact ⟨rfl, hW.out⟩
  ·have hi' : (i : Int) < n := by omega
   have i0 : (0 : Int) ≤ i := by omega
   have hil : i < N.length := by have := HN.out; omega
   have hGA := HA.out.below hW.out (Nat.le_refl _)
   have hGB := HB.out.below hW.out (Nat.le_refl _)
   obtain ⟨K, ck, I, ci, a0, a1, a2, a3, a4, ⟨hK, hKb⟩, hI, hIb⟩ := hGA.of_at hil
   obtain ⟨K', ck', I', ci', b0, b1, b2, b3, b4, ⟨hK', hKb'⟩, hI', hIb'⟩ := hGB.of_at hil
   have D := Lib.hid (fun w' (hb : Below wr.heap.size wr w') => same1_cb (ck := ck) (ci := ci) (ck' := ck') (ci' := ci') (by have := (HL.out i hil).1; omega) (by have := (HL.out i hil).2; omega) w' (hK.keep hb) (hI.keep hb) (hK'.keep hb) (hI'.keep hb))
   rw [Nat.zero_add] at a0 a1 a2 a3 a4 b0 b1 b2 b3 b4
   clear hGA hGB hK hI hK' hI' hKb hIb hKb' hIb' hil hin
   generalize ndAt N i = nd at *
   generalize nd.keys.length = nk at *
   generalize nd.items.length = ni at *
   have hba := (Below.refl wr.heap.size wr).alloc (Nat.le_refl _) (.cells #[.int .i64 nd.kind, .string (mks nd.text), .bool nd.ord, .slice K nk ck, .slice I ni ci] 60)
   obtain ⟨q1, q2, hb2, hz2⟩ := box2 wr 60 60 [.int .i64 nd.kind, .string (mks nd.text), .bool nd.ord, .slice K nk ck, .slice I ni ci] [.int .i64 nd.kind, .string (mks nd.text), .bool nd.ord, .slice K' nk ck', .slice I' ni ci']
   have gB : ∀ q u, wr.cell? q = some u → (wr.alloc (.cells #[.int .i64 nd.kind, .string (mks nd.text), .bool nd.ord, .slice K nk ck, .slice I ni ci] 60)).cell? q = some u := fun q u hq => (hba.cell (block_lt_of_cell hq)).trans hq
   have b0' := gB _ _ b0
   have b1' := gB _ _ b1
   have b2' := gB _ _ b2
   have b3' := gB _ _ b3
   have b4' := gB _ _ b4
   have HB2 := Lib.hid hb2
   clear gB hba hb2 hz2
   go_upto_region 7 with (fail)
   generalize ((wr.alloc (.cells #[.int .i64 nd.kind, .string (mks nd.text), .bool nd.ord, .slice K nk ck, .slice I ni ci] 60)).alloc (.cells #[.int .i64 nd.kind, .string (mks nd.text), .bool nd.ord, .slice K' nk ck', .slice I' ni ci'] 60)) = W at *
   clear a0 a1 a2 a3 a4 b0 b1 b2 b3 b4 b0' b1' b2' b3' b4'
   have a0 := q1.out.cell' (i := 0) rfl
   have b0 := q2.out.cell' (i := 0) rfl
   have a1 := q1.out.cell' (i := 1) rfl
   have b1 := q2.out.cell' (i := 1) rfl
   have a2 := q1.out.cell' (i := 2) rfl
   have b2 := q2.out.cell' (i := 2) rfl
   have a3 := q1.out.cell' (i := 3) rfl
   have b3 := q2.out.cell' (i := 3) rfl
   have a4 := q1.out.cell' (i := 4) rfl
   have b4 := q2.out.cell' (i := 4) rfl
   go_wp2_with (go_at_call 15; ((with_reducible refine (D.out _ HB2.out).mono ?_)); rintro e w6 ⟨rfl, hb6⟩)
   go_roundw
   case rel => exact ⟨i + 1, by omega, i64e (by omega), hW.out.trans ((HB2.out.trans (hb6.mono HB2.out.size)).mono hW.out.size)⟩
   case measure => first | (simp [intOf]; done) | (simp [intOf]; omega)
end Go.Proofs.YtbhigefbihpnlaaGreatDoor
