/- The walks of change.place and change.lead, for paths of indices in lists. -/
import Derived.Test.YtoppncpmfajbcaaGreatDoorMBc
import Derived.Test.YtoppncpmfajbcaaGreatDoorMAb
set_option linter.unusedVariables false
set_option linter.unusedSimpArgs false
set_option linter.defProp false
set_option linter.constructorNameAsVariable false
namespace Go.Proofs.YtoppncpmfajbcaaGreatDoor
open Go.RowKit
set_option maxRecDepth 20000 in
set_option maxHeartbeats 8000000 in
theorem place_any {B g o c k idx : Nat} {nodes : List GNode} {root : Int} (hL : NL 65536 nodes) (hN : nodes.length ≤ 4096) (hk : k < nodes.length) (h9 : (ndAt nodes k).kind = 9) (hix : idx ≤ 65536) (w : World) (hG : GRd w B g o nodes) :
  Calls Tryz.prog 28 #[.agg #[.slice (some ⟨g, o, none⟩) nodes.length c, .int .i64 root], .int .i64 (k : Int), .agg #[.int .i64 (idx : Int), .string (mks [])]] w fun e w' => e = .returned (.int .i64 (if idx < (ndAt nodes k).items.length then (idx : Int) else -1)) ∧ Below w.heap.size w w' := by
 have hli := (hL k hk).2
 have hkn := hk
 obtain ⟨n, hn⟩ : ∃ n, nodes.length = n := ⟨_, rfl⟩
 rw [hn] at hkn hN ⊢
 obtain ⟨h1, h2, hb1, hz1⟩ := box2 w 26 36 [.slice (some ⟨g, o, none⟩) n c, .int .i64 root] [.int .i64 (idx : Int), .string (mks [])]
 obtain ⟨V, hV⟩ : ∃ V, (if idx < (ndAt nodes k).items.length then (idx : Int) else -1) = V := ⟨_, rfl⟩
 have HV := Lib.hid hV
 rw [hV]
 clear hV
 have HG := Lib.hid (hG.below hb1 hG.2.1)
 obtain ⟨K, ck, I, ci, d0, d1, d2, d3, d4, _, _⟩ := HG.out.of_at hk
 rw [h9] at d0
 generalize hnd : ndAt nodes k = nd at *
 clear hnd
 clear hn h9 HG hG hL hk
 have hk' : (k : Int) < n := by omega
 have hk0 : (0 : Int) ≤ k := by omega
 go_enter Tryz.func28, Tryz.ntmps28
 go_upto_region 1 with (fail)
 obtain ⟨gb, hgb⟩ : ∃ x, w.heap.size = x := ⟨_, rfl⟩
 have HGB := Lib.hid hgb
 have HBd := Lib.hid hb1
 generalize ((w.alloc (.cells #[.slice (some ⟨g, o, none⟩) n c, .int .i64 root] 26)).alloc (.cells #[.int .i64 (idx : Int), .string (mks [])] 36)) = W at *
 rw [hgb] at h1 h2 hz1 HBd ⊢
 clear hgb hb1
 have x0 := h1.out.cell' (i := 0) rfl
 have y0 := h2.out.cell' (i := 0) rfl
 have y1 := h2.out.cell' (i := 1) rfl
 have e0 : (mks []).toList = [] := by simp [toList_mks]
 have hb2 : Below W.heap.size W (W.alloc (.cells #[.int .i64 9, .string (mks nd.text), .bool nd.ord, .slice K nd.keys.length ck, .slice I nd.items.length ci] 34)) := (Below.refl _ _).alloc (Nat.le_refl _) _
 have hgW : gb ≤ W.heap.size := by have := hz1.out; omega
 have HB2 := Lib.hid (HBd.out.trans (hb2.mono hgW))
 have hi0 : (0 : Int) ≤ idx := by omega
 have hN2 := Lib.hid (Arr.new W 34 [.int .i64 9, .string (mks nd.text), .bool nd.ord, .slice K nd.keys.length ck, .slice I nd.items.length ci])
 have h2' := Lib.hid (h2.out.keep hb2)
 go_upto_region 2 with (fail)
 clear x0 y0 y1 d0 d1 d2 d3 d4
 generalize (W.alloc (.cells #[.int .i64 9, .string (mks nd.text), .bool nd.ord, .slice K nd.keys.length ck, .slice I nd.items.length ci] 34)) = W2 at *
 have y0 := h2'.out.cell' (i := 0) rfl
 have y1 := h2'.out.cell' (i := 1) rfl
 have n0 := hN2.out.cell' (i := 0) rfl
 have n4 := hN2.out.cell' (i := 4) rfl
 by_cases hlt : idx < nd.items.length
 ·have hV : V = (idx : Int) := by rw [← HV.out, if_pos hlt]
  subst hV
  have hlt1 : ¬ ((nd.items.length : Int) ≤ idx) := by omega
  go_wp2
  go_ret
  exact ⟨rfl, by rw [HGB.out]; exact HB2.out⟩
 ·have hV : V = -1 := by rw [← HV.out, if_neg hlt]
  subst hV
  have hlt1 : (nd.items.length : Int) ≤ idx := by omega
  go_wp2
  go_ret
  exact ⟨rfl, by rw [HGB.out]; exact HB2.out⟩
def atN (nodes : List GNode) (root : Nat) (idxs : List Nat) : Nat → Nat
 | 0 => root
 | i + 1 => ((ndAt nodes (atN nodes root idxs i)).items.getD (idxs.getD i 0) 0).toNat
def leadL (nodes : List GNode) (root : Nat) (idxs : List Nat) (i : Nat) : List Int := (List.range (i + 1)).map fun j => (atN nodes root idxs j : Int)
def LeadOK (nodes : List GNode) (root : Nat) (idxs : List Nat) : Prop := ∀ i, i < idxs.length → atN nodes root idxs i < nodes.length ∧ (ndAt nodes (atN nodes root idxs i)).kind = 9 ∧ idxs.getD i 0 < (ndAt nodes (atN nodes root idxs i)).items.length ∧ idxs.getD i 0 ≤ 65536
theorem leadL_len (nodes : List GNode) (root : Nat) (idxs : List Nat) (i : Nat) : (leadL nodes root idxs i).length = i + 1 := by simp [leadL]
theorem leadL_last (nodes : List GNode) (root : Nat) (idxs : List Nat) (i : Nat) : (leadL nodes root idxs i)[i]? = some (atN nodes root idxs i : Int) := by simp [leadL]
theorem leadL_succ (nodes : List GNode) (root : Nat) (idxs : List Nat) (i : Nat) : leadL nodes root idxs (i + 1) = leadL nodes root idxs i ++ [(atN nodes root idxs (i + 1) : Int)] := by
 unfold leadL
 rw [List.range_succ (n := i + 1), List.map_append]
 rfl
def ixP (idxs : List Nat) : List Stp := idxs.map fun (i : Nat) => ((i : Int), ([] : List Nat))
theorem ixP_get {idxs : List Nat} {i : Nat} (h : i < idxs.length) : (ixP idxs)[i]? = some ((idxs.getD i 0 : Int), []) := by
 unfold ixP
 rw [List.getElem?_map, List.getD_eq_getElem?_getD, List.getElem?_eq_getElem h]
 rfl
def LeadE (w : World) (l : List Int) (e : Ending) (w' : World) : Prop := ∃ v, e = .returned (.tuple #[v, .bool true]) ∧ w'.ownsRow w.heap.size 3 1 v l.length (I64 l) ∧ Below w.heap.size w w'
set_option maxRecDepth 20000 in
set_option maxHeartbeats 8000000 in
theorem lead_any {B g o c r m cp : Nat} {nodes : List GNode} {idxs : List Nat} (A : Option Addr) (hI : Idx nodes) (hL : NL 65536 nodes) (hN : nodes.length ≤ 4096) (hO : LeadOK nodes r idxs) (hm : idxs.length = m) (hm2 : m ≤ 4096) (hr : r < nodes.length) (w : World) (hG : GRd w B g o nodes) (hA : PRd w A (ixP idxs)) :
  Calls Tryz.prog 27 #[.agg #[.slice (some ⟨g, o, none⟩) nodes.length c, .int .i64 (r : Int)], .slice A m cp] w (LeadE w (leadL nodes r idxs m)) := by
 have h1 : Hid (Arr (w.alloc (.cells #[.slice (some ⟨g, o, none⟩) nodes.length c, .int .i64 (r : Int)] 26)) w.heap.size 26 [.slice (some ⟨g, o, none⟩) nodes.length c, .int .i64 (r : Int)]) := Arr.new w _ _
 have hb1 : Below w.heap.size w (w.alloc (.cells #[.slice (some ⟨g, o, none⟩) nodes.length c, .int .i64 (r : Int)] 26)) := (Below.refl _ _).alloc (Nat.le_refl _) _
 have HG := Lib.hid hG
 have HA := Lib.hid hA
 have HO := Lib.hid hO
 have HM := Lib.hid hm
 have DP := Lib.hid (fun (k idx : Nat) (hk : k < nodes.length) (h9 : (ndAt nodes k).kind = 9) (hix : idx ≤ 65536) (w' : World) (hg : GRd w' B g o nodes) => place_any (c := c) (root := (r : Int)) hL hN hk h9 hix w' hg)
 have HI := Lib.hid hI
 have HL := Lib.hid hL
 have hBw := hG.2.1
 clear hG hA hO hm hI hL
 go_enter Tryz.func27, Tryz.ntmps27
 go_upto_region 1 with (fail)
 obtain ⟨gb, hgb⟩ : ∃ x, w.heap.size = x := ⟨_, rfl⟩
 have HGB := Lib.hid hgb
 have HBd := Lib.hid hb1
 generalize (w.alloc (.cells #[.slice (some ⟨g, o, none⟩) nodes.length c, .int .i64 (r : Int)] 26)) = W at *
 have hgl := h1.out.lt
 rw [hgb] at h1 HBd hgl hBw ⊢
 clear hgb hb1
 obtain ⟨n, hn⟩ : ∃ n, nodes.length = n := ⟨_, rfl⟩
 have HN := Lib.hid hn
 rw [hn] at h1 hN hr
 clear hn
 have x0 := h1.out.cell' (i := 0) rfl
 have x1 := h1.out.cell' (i := 1) rfl
 have hst0 : Hid ((W.alloc (.cells #[.int .i64 (r : Int)] 3)).ownsRow gb 3 1 (.slice (some ⟨W.heap.size, 0, none⟩) 1 1) (0 + 1) (I64 (leadL nodes r idxs 0))) := own_one W 3 (.int .i64 (r : Int)) gb (Nat.le_of_lt hgl)
 have hb2 : Below W.heap.size W (W.alloc (.cells #[.int .i64 (r : Int)] 3)) := (Below.refl _ _).alloc (Nat.le_refl _) _
 have HB2 := Lib.hid (HBd.out.trans (hb2.mono (Nat.le_of_lt hgl)))
 go_upto_region 3 with (fail)
 clear x0 x1
 have hX2 := Lib.hid (h1.out.keep hb2)
 obtain ⟨q0, hq0⟩ : ∃ x, W.heap.size = x := ⟨_, rfl⟩
 generalize (W.alloc (.cells #[.int .i64 (r : Int)] 3)) = W2 at *
 rw [hq0] at hst0 ⊢
 go_loopw [6, 16] (fun lv v wr => ∃ (i : Nat), i ≤ m ∧ v = .int .i64 (i : Int) ∧ Hid (wr.ownsRow gb 3 1 lv (i + 1) (I64 (leadL nodes r idxs i))) ∧ Hid (Arr wr gb 26 [.slice (some ⟨g, o, none⟩) n c, .int .i64 (r : Int)]) ∧ Hid (Below gb w wr)) (fun _ v _ => m - (intOf v).toNat)
 case atStart => exact ⟨0, Nat.zero_le _, rfl, hst0, hX2, HB2⟩
 case round =>
  obtain ⟨i, hi, rfl, hrow, hX, hBr⟩ := hrel
  have hP := Lib.hid (HA.out.below HGB.out hBr.out)
  have hGr := Lib.hid (HG.out.below hBr.out hBw)
  clear hst0 hX2 HB2 hb2
  by_cases hin : i < m
  ·have hin' : (i : Int) < m := by omega
   obtain ⟨hk, h9, hlt, hix⟩ := HO.out i (by have := HM.out; omega)
   have hpi := ixP_get (idxs := idxs) (i := i) (by have := HM.out; omega)
   obtain ⟨_, ad, hA, s0, s1⟩ := hP.out i _ hpi
   have hq := leadL_last nodes r idxs i
   have hnx : ∃ y : Nat, (ndAt nodes (atN nodes r idxs i)).items[idxs.getD i 0]? = some (y : Int) ∧ atN nodes r idxs (i + 1) = y := by
    have hx := List.getElem?_eq_getElem hlt
    have h0 := (HI.out _ hk _ (show (ndAt nodes (atN nodes r idxs i)).items[idxs.getD i 0] ∈ refs _ by unfold refs; simp)).1
    refine ⟨((ndAt nodes (atN nodes r idxs i)).items[idxs.getD i 0]).toNat, by rw [hx, Int.toNat_of_nonneg h0], ?_⟩
    rw [atN, List.getD_eq_getElem?_getD, hx]
    rfl
   obtain ⟨y, hy, hay⟩ := hnx
   have hls := leadL_succ nodes r idxs i
   rw [hay] at hls
   have hll := Lib.hid (leadL_len nodes r idxs i)
   obtain ⟨K, ck, I, ci, d0, d1, d2, d3, d4, _, hI, _⟩ := hGr.out.of_at hk
   have DPi := Lib.hid (fun w' (hg : GRd w' B g o nodes) => DP.out _ _ hk h9 hix w' hg)
   rw [if_pos hlt] at DPi
   obtain ⟨adI, hAI, e0⟩ := hI.at_ (I64_get hy)
   subst hA hAI
   have hkn : atN nodes r idxs i < n := by have := HN.out; omega
   obtain ⟨k, hkk⟩ : ∃ x, atN nodes r idxs i = x := ⟨_, rfl⟩
   obtain ⟨ix, hixx⟩ : ∃ x, idxs.getD i 0 = x := ⟨_, rfl⟩
   rw [HN.out] at DPi
   rw [hkk] at DPi hq d0 d1 d2 d3 d4 hlt hy hkn hI
   rw [hixx] at DPi s0 hlt hy e0
   have HLI := Lib.hid hlt
   generalize hnd : ndAt nodes k = nd at *
   clear hpi hk h9 hix hI hnd hkk hixx hay
   obtain ⟨q, cq, hqe, _, _⟩ := own_some hrow.out (Nat.succ_pos i)
   subst hqe
   have l0 := (own_cell1 hrow.out (i := i) (I64_get hq)).1
   have s0' : wr.cell? (ad.add (i * 2)) = some (.int .i64 (ix : Int)) := s0
   have s1' : wr.cell? ⟨(ad.add (i * 2)).block, (ad.add (i * 2)).off + 1, none⟩ = some (.string (mks [])) := s1
   have x0 := hX.out.cell' (i := 0) rfl
   have x1 := hX.out.cell' (i := 1) rfl
   have hix' : (ix : Int) < nd.items.length := by have := HLI.out; omega
   have hix0 : ¬ (ix : Int) < 0 := by omega
   have hkn' : (k : Int) < n := by omega
   have hw1 : ((i : Int) + 1 - 1) = i := by omega
   clear s0 s1 hlt hy HLI hll d0 d1 d2 d3
   have hbS : Below wr.heap.size wr (wr.alloc (.cells #[.int .i64 (ix : Int), .string (mks [])] 36)) := (Below.refl _ _).alloc (Nat.le_refl _) _
   have hS := Lib.hid (Arr.new wr 36 [.int .i64 (ix : Int), .string (mks [])])
   go_upto_region 5 with (fail)
   clear s0' s1'
   have hX1 := Lib.hid (hX.out.keep hbS)
   have hG1 := Lib.hid (hGr.out.below hbS hGr.out.2.1)
   have hr1 := Lib.hid (own_below hrow.out hbS)
   have hB1 := Lib.hid (hBr.out.trans (hbS.mono (Nat.le_of_lt hX.out.lt)))
   have l1 := (hbS.cell (block_lt_of_cell l0)).trans l0
   have d41 := (hbS.cell (block_lt_of_cell d4)).trans d4
   have e01 := (hbS.cell (block_lt_of_cell e0)).trans e0
   clear x0 x1 l0 d4 e0 hX hGr hrow hBr
   generalize (wr.alloc (.cells #[.int .i64 (ix : Int), .string (mks [])] 36)) = ws at *
   clear hbS
   have x0 := hX1.out.cell' (i := 0) rfl
   have x1 := hX1.out.cell' (i := 1) rfl
   have y0 := hS.out.cell' (i := 0) rfl
   have y1 := hS.out.cell' (i := 1) rfl
   go_upto_region 7 with (go_at_call 28; ((with_reducible refine (DPi.out _ hG1.out).mono ?_)); rintro e wt ⟨rfl, hbt⟩)
   have hX2 := Lib.hid (hX1.out.keep hbt)
   have hr2 := Lib.hid (own_below hr1.out hbt)
   have hB2 := Lib.hid (hB1.out.trans (hbt.mono (Nat.le_of_lt hX1.out.lt)))
   have d42 := (hbt.cell (block_lt_of_cell d41)).trans d41
   have e02 := (hbt.cell (block_lt_of_cell e01)).trans e01
   clear x0 x1 y0 y1 l1 d41 e01 hX1 hG1 hr1 hB1 hS DPi hbt
   have x0 := hX2.out.cell' (i := 0) rfl
   have hba : Hid (Below wt.heap.size wt (wt.alloc (.cells #[.int .i64 (y : Int)] 3))) := (Below.refl _ _).alloc (Nat.le_refl _) _
   have hr3 := own_below hr2.out hba.out
   have hsz : gb ≤ wt.heap.size := Nat.le_of_lt hX2.out.lt
   go_upto_region 10 with (at_builtin; go_loud (refine wpList_apS rfl (.tmp 32) (.tmp 42) 32 rfl gb 3 _ 1 _ Tryz.underlying32 infoInt rfl (by decide) _ (i + 1) (I64 (leadL nodes r idxs i)) rfl hr3 ⟨wt.heap.size, 0, none⟩ _ [.int .i64 (y : Int)] rfl rfl (cells_new _ _ _) rfl (by unfold maxLen; omega) (by omega) (by simp; omega) ?_; intro v8 w8 hown8 hgr8 hat8; obtain ⟨A8, c8, hv8, _, _⟩ := own_slice hown8; subst hv8))
   have hX3 := Lib.hid ((hX2.out.keep hba.out).grown hgr8 (fun e => own_arr hr3 (hX2.out.keep hba.out) (by decide) e.symm))
   have hB3 := Lib.hid ((hB2.out.trans (hba.out.mono hsz)).grown hgr8 (Nat.le_trans hsz hba.out.size) (fun k e => (hr3.lt k e).1))
   have hr4 : Hid (w8.ownsRow gb 3 1 (.slice A8 (i + 1 + 1) c8) (i + 1 + 1) (I64 (leadL nodes r idxs (i + 1)))) := by
    rw [hls]
    have h := hown8
    rw [show I64 (leadL nodes r idxs i) ++ [Value.int .i64 (y : Int)] = I64 (leadL nodes r idxs i ++ [(y : Int)]) by simp [I64]] at h
    exact h
   clear hown8 hgr8 hat8 hr3 hba hX2 hr2 hB2 d42 e02 x0 hsz
   go_wp2_with (fail)
   go_roundw
   case rel => exact ⟨i + 1, by omega, i64e (by omega), hr4, hX3, hB3⟩
   case measure => simp [intOf]; omega
  ·obtain rfl : i = m := by omega
   have hin' : ¬ (i : Int) < i := by omega
   go_wp2_with (fail)
   go_ret2
   exact ⟨_, rfl, by rw [leadL_len, HGB.out]; exact hrow.out, by rw [HGB.out]; exact hBr.out⟩
end Go.Proofs.YtoppncpmfajbcaaGreatDoor
