/- The walk of the closure in graph.kept: the references moved. -/
import Derived.Test.YtoppncpmfajbcaaGreatDoorMBj
set_option linter.unusedVariables false
set_option linter.unusedSimpArgs false
set_option linter.defProp false
set_option linter.constructorNameAsVariable false
namespace Go.Proofs.YtoppncpmfajbcaaGreatDoor
open Go.RowKit
def KFr (w w' : World) : Prop := w.heap.size ≤ w'.heap.size ∧ ∀ b, b < w.heap.size → ((∃ C fz, w.heap[b]? = some (.cells C 34 fz)) ∨ (∃ C fz, w.heap[b]? = some (.cells C 3 fz))) → w'.heap[b]? = w.heap[b]?
theorem KFr.refl (w : World) : KFr w w := ⟨Nat.le_refl _, fun _ _ _ => rfl⟩
theorem KFr.trans {a b c : World} (h : KFr a b) (k : KFr b c) : KFr a c := by
 refine ⟨Nat.le_trans h.1 k.1, fun j hj hk => ?_⟩
 have e := h.2 j hj hk
 rw [← e] at hk
 exact (k.2 j (Nat.lt_of_lt_of_le hj h.1) hk).trans e
theorem KFr.below {w w' : World} (h : Below w.heap.size w w') : KFr w w' := ⟨h.size, fun b hb _ => h.block b hb⟩
theorem KFr.set {w : World} {b : Nat} {t : TypeId} {xs : List Value} (ha : Arr w b t xs) (h1 : t ≠ 34) (h2 : t ≠ 3) (i : Nat) (u : Value) : KFr w (w.setCell ⟨b, i, none⟩ u) := by
 refine ⟨by simp [World.setCell], fun j _ hk => setCell_heap_ne _ _ _ ?_⟩
 rintro rfl
 rcases hk with ⟨C, fz, hk⟩ | ⟨C, fz, hk⟩
 ·exact h1 (cells_kind ha hk)
 ·exact h2 (cells_kind ha hk)
def GK (w : World) (ob : Nat) (N : List GNode) : Prop := ∀ w', KFr w w' → GRd w' w'.heap.size ob 0 N
theorem GK.step {w w' : World} {ob : Nat} {N : List GNode} (h : GK w ob N) (k : KFr w w') : GK w' ob N := fun w'' k' => h w'' (k.trans k')
theorem GK.rd {w : World} {ob : Nat} {N : List GNode} (h : GK w ob N) : GRd w w.heap.size ob 0 N := h w (KFr.refl w)
theorem gk_own {w : World} {B g c : Nat} {nodes : List GNode} {ncs : List Value} (hN : w.ownsRow B 34 5 (.slice (some ⟨g, 0, none⟩) nodes.length c) nodes.length ncs) (hNr : NodesRd w (fun _ => True) ncs nodes) : GK w g nodes := fun w' k =>
 grd_own (own_same hN fun b hb => k.2 b (hN.lt b hb).2 (.inl (own_kind hN hb))) (hNr.over fun b hb _ hk => ⟨k.2 b hb (.inr hk), trivial⟩)
theorem gk_arr {w : World} {om : Nat} {N : List GNode} {ncs : List Value} (ha : Arr w om 34 ncs) (hN : NodesRd w (fun _ => True) ncs N) : GK w om N := fun w' k =>
 grd_arr ((k.2 om ha.lt (.inl ⟨_, _, ha⟩)).trans ha) (hN.over fun b hb _ hk => ⟨k.2 b hb (.inr hk), trivial⟩)
def mvF (g : Int → Int) (xs : List Int) (k : Nat) : List Int := (xs.take k).map g ++ List.replicate (xs.length - k) 0
theorem mvF_zero (g : Int → Int) (xs : List Int) : mvF g xs 0 = List.replicate xs.length 0 := by simp [mvF]
theorem mvF_all (g : Int → Int) (xs : List Int) {m : Nat} (h : xs.length = m) : mvF g xs m = xs.map g := by subst h; simp [mvF]
theorem mvF_get {g : Int → Int} {xs : List Int} {k : Nat} {x : Int} (h : xs[k]? = some x) : (mvF g xs k)[k]? = some 0 := by
 have hk := (List.getElem?_eq_some_iff.1 h).1
 unfold mvF
 rw [List.getElem?_append_right (by simp; omega)]
 rw [List.length_map, List.length_take, Nat.min_eq_left (Nat.le_of_lt hk), Nat.sub_self, List.getElem?_replicate, if_pos (by omega)]
theorem mvF_set {g : Int → Int} {xs : List Int} {k : Nat} {x : Int} (h : xs[k]? = some x) : (mvF g xs k).set k (g x) = mvF g xs (k + 1) := by
 have hk := (List.getElem?_eq_some_iff.1 h).1
 have hl : ((xs.take k).map g).length = k := by simp; omega
 unfold mvF
 rw [List.set_append_right _ _ (by omega), hl, Nat.sub_self, show xs.length - k = (xs.length - (k + 1)) + 1 by omega, List.replicate_succ, List.set_cons_zero, List.take_add_one, h]
 simp
set_option maxRecDepth 20000 in
set_option maxHeartbeats 8000000 in
theorem kmoved_any {cb ab n : Nat} {a : List Int} (A : Option Addr) (c : Nat) (xs : List Int) (hl : xs.length ≤ 65536) (hn : n ≤ 4096) (hal : a.length = n) (hx : ∀ x ∈ xs, 0 ≤ x ∧ x < (n : Int)) (w : World) (hr : Rd w A (I64 xs)) (hcb : Arr w cb 32 [.slice (some ⟨ab, 0, none⟩) n n]) (ha : Arr w ab 3 (I64 a)) :
  Calls Tryz.prog 100 #[.slice A xs.length c, .pointer (some ⟨cb, 0, none⟩)] w fun e w' => ∃ ob, e = .returned (.slice (some ⟨ob, 0, none⟩) xs.length xs.length) ∧ w.heap.size ≤ ob ∧ Below w.heap.size w w' ∧ Hid (Arr w' ob 3 (I64 (xs.map (atG a)))) := by
 obtain ⟨m, hm⟩ : ∃ m, xs.length = m := ⟨_, rfl⟩
 have HM := Lib.hid hm
 have HR := Lib.hid hr
 have HC := Lib.hid hcb
 have HA := Lib.hid ha
 have HAL := Lib.hid hal
 have HX := Lib.hid hx
 rw [hm] at hl ⊢
 clear hm hr hcb ha hal hx
 go_enter Tryz.func100, Tryz.ntmps100
 go_upto_region 2 with (at_make; go_loud (refine wpList_mk rfl _ _ 32 rfl 3 _ _ Tryz.underlying32 infoInt rfl _ _ _ _ rfl rfl m m (by omega) (by omega) (by omega) (by omega) (by unfold maxLen; omega) ?_; intro ob w2 hob hO hb2 hz2))
 have HR2 := Lib.hid (HR.out.keep hb2)
 have HC2 := Lib.hid (HC.out.keep hb2)
 have HA2 := Lib.hid (HA.out.keep hb2)
 have HB2 := Lib.hid hb2
 have hO0 : Hid (Arr w2 ob 3 (I64 (mvF (atG a) xs 0))) := by have h := hO.out; rw [mvF_zero, HM.out]; show Arr _ _ _ _; simpa [I64] using h
 have l1 : w.heap.size ≤ ob := by have := hob.out; omega
 have l2 := HA.out.lt
 have l3 := HC.out.lt
 clear hO hob hb2 hz2
 go_upto_region 3 with (fail)
 go_loopw [12] (fun v wr => ∃ k : Nat, k ≤ m ∧ v = .int .i64 (k : Int) ∧ Hid (Arr wr ob 3 (I64 (mvF (atG a) xs k))) ∧ Hid (Below w.heap.size w wr)) (fun v _ => m - (intOf v).toNat)
 case atStart => exact ⟨0, Nat.zero_le _, rfl, hO0, HB2⟩
 case round =>
  obtain ⟨k, hk, rfl, hOr, hBr⟩ := hrel
  clear hO0
  by_cases hkm : k < m
  ·have hk' : (k : Int) < m := by omega
   have hk0 : (0 : Int) ≤ k := by omega
   obtain ⟨x, hxi⟩ : ∃ x, xs[k]? = some x := ⟨_, List.getElem?_eq_getElem (by have := HM.out; omega)⟩
   obtain ⟨hx0, hx1⟩ := HX.out x (List.mem_of_getElem? hxi)
   obtain ⟨kx, rfl⟩ : ∃ kx : Nat, x = (kx : Int) := ⟨x.toNat, by omega⟩
   obtain ⟨vx, hvx⟩ : ∃ v, a[kx]? = some v := ⟨_, List.getElem?_eq_getElem (by have := HAL.out; omega)⟩
   have hgx : atG a (kx : Int) = vx := by unfold atG; rw [Int.toNat_natCast, List.getD_eq_getElem?_getD, hvx]; rfl
   obtain ⟨ad, hA, cx⟩ := (HR.out.keep hBr.out) k _ (I64_get hxi)
   subst hA
   have c0 := (HC.out.keep hBr.out).cell' (i := 0) rfl
   have ca := (HA.out.keep hBr.out).cell' (I64_get hvx)
   have cy := hOr.out.cell' (I64_get (mvF_get (g := atG a) hxi))
   have fy := hOr.out.frozen k
   have hkx : (kx : Int) < n := by omega
   have hO2 : Hid (Arr (wr.setCell ⟨ob, k, none⟩ (.int .i64 vx)) ob 3 (I64 (mvF (atG a) xs (k + 1)))) := by
    have h := hOr.out.store k (.int .i64 vx)
    rw [I64_set, ← hgx, mvF_set hxi, hgx] at h
    exact h
   have hB2 := Lib.hid (hBr.out.setCell (p := ⟨ob, k, none⟩) l1 (.int .i64 vx))
   clear hOr hBr hxi hvx hgx hx1
   go_wp2_with (fail)
   go_roundw
   case rel => exact ⟨k + 1, by omega, i64e (by omega), hO2, hB2⟩
   case measure => simp [intOf]; omega
  ·obtain rfl : m = k := by omega
   have hk' : ¬ (m : Int) < m := by omega
   have hOF := hOr.out
   rw [mvF_all _ _ HM.out] at hOF
   have HOF := Lib.hid hOF
   clear hOr hOF
   go_wp2_with (fail)
   go_ret
   exact ⟨ob, rfl, l1, hBr.out, HOF⟩
end Go.Proofs.YtoppncpmfajbcaaGreatDoor
