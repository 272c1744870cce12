/- The walk of change's appended. -/
import Derived.Test.YtoppncpmfajbcaaGreatDoorMBb
import Derived.Test.YtoppncpmfajbcaaGreatDoorMBa
set_option linter.unusedVariables false
set_option linter.unusedSimpArgs false
set_option linter.defProp false
set_option linter.constructorNameAsVariable false
namespace Go.Proofs.YtoppncpmfajbcaaGreatDoor
open Go.RowKit
def AppR2 (w : World) (Bo : Nat) (n0 : Nat) (nodes : List GNode) (ncs : List Value) (v : Value) (root : Int) (e : Ending) (w' : World) : Prop :=
 ∃ v' ncs', e = .returned (.tuple #[v', .int .i64 (root + (n0 : Int))]) ∧ w'.ownsRow Bo 34 5 v' (n0 + nodes.length) (ncs ++ ncs') ∧ NodesRd w' (fun b => w.heap.size ≤ b) ncs' (nodes.map (shiftN n0)) ∧ w.grownBy w' v.ownBlock ∧ (v'.ownBlock = v.ownBlock ∨ ∃ b, v'.ownBlock = some b ∧ w.heap.size ≤ b)
set_option maxRecDepth 20000 in
set_option maxHeartbeats 16000000 in
theorem cappended_any {B g o c n0 r : Nat} {nodes : List GNode} {v : Value} {ncs : List Value} (hL : NL 65536 nodes) (hN : nodes.length ≤ 4096) (hn0 : n0 ≤ 65536) (hI : Idx nodes) (hr : r < nodes.length) (w : World) (hG : GRd w B g o nodes) (hO : w.ownsRow B 34 5 v n0 ncs) :
  Calls Tryz.prog 51 #[v, .agg #[.slice (some ⟨g, o, none⟩) nodes.length c, .int .i64 (r : Int)]] w (AppR2 w B n0 nodes ncs v (r : Int)) := by
 have h1 : Hid (Arr (w.alloc (.cells #[.slice (some ⟨g, o, none⟩) nodes.length c, .int .i64 (r : Int)] 26)) w.heap.size 26 [.slice (some ⟨g, o, none⟩) nodes.length c, .int .i64 (r : Int)]) := Arr.new w _ _
 have hB1 : Hid (Below w.heap.size w (w.alloc (.cells #[.slice (some ⟨g, o, none⟩) nodes.length c, .int .i64 (r : Int)] 26))) := (Below.refl _ _).alloc (Nat.le_refl _) _
 have HG := Lib.hid hG
 have HO := Lib.hid hO
 have HI := Lib.hid hI
 have HL := Lib.hid hL
 obtain ⟨A0, c0, hv0, _, _⟩ := own_slice hO
 subst hv0
 clear hG hO hI hL
 go_enter Tryz.func51, Tryz.ntmps51
 go_upto_region 1 with (fail)
 generalize w.alloc (.cells #[.slice (some ⟨g, o, none⟩) nodes.length c, .int .i64 (r : Int)] 26) = W at *
 obtain ⟨n, hn⟩ : ∃ n, nodes.length = n := ⟨_, rfl⟩
 obtain ⟨gb, hgb⟩ : ∃ b, w.heap.size = b := ⟨_, rfl⟩
 have hgl := h1.out.lt
 rw [hgb] at h1 hB1 hgl ⊢
 rw [hn] at h1 hN
 have HN := Lib.hid hn
 have HGB := Lib.hid hgb
 have hBg : B ≤ gb := by have := HG.out.2.1; omega
 clear hn hgb
 have x0 := h1.out.cell' (i := 0) rfl
 go_upto_region 3 with (fail)
 clear x0
 obtain ⟨q0, hq0⟩ : ∃ q, (Value.slice A0 n0 c0).ownBlock = q := ⟨_, rfl⟩
 have HQ0 := Lib.hid hq0
 have hst0 : Hid (∃ ncs', W.ownsRow B 34 5 (.slice A0 n0 c0) (n0 + 0) (ncs ++ ncs') ∧ NodesRd W (fun b => gb ≤ b) ncs' ((nodes.take 0).map (shiftN n0)) ∧ Hid (w.grownBy W q0) ∧ ((Value.slice A0 n0 c0).ownBlock = q0 ∨ ∃ b, (Value.slice A0 n0 c0).ownBlock = some b ∧ gb ≤ b)) := by
  refine ⟨[], ?_, NodesRd.nil _ _, ⟨hB1.out.os, hB1.out.tape, hB1.out.output, by have := hB1.out.size; have := HGB.out; omega, fun j hj _ => hB1.out.block j (by have := HGB.out; omega)⟩, .inl hq0⟩
  rw [List.append_nil]
  exact own_below HO.out (by rw [HGB.out]; exact hB1.out)
 have hq0B : Hid (∀ b, q0 = some b → B ≤ b ∧ b < gb) := by
  intro b e
  have h := HO.out.lt b (hq0.trans e)
  have := HGB.out
  omega
 have hX0 : Hid (Arr W gb 26 [.slice (some ⟨g, o, none⟩) n c, .int .i64 (r : Int)]) := h1.out
 clear hq0 h1
 go_loopw [0, 17] (fun sv v wr => ∃ (i : Nat), i ≤ n ∧ v = .int .i64 (i : Int) ∧ Hid (∃ ncs', wr.ownsRow B 34 5 sv (n0 + i) (ncs ++ ncs') ∧ NodesRd wr (fun b => gb ≤ b) ncs' ((nodes.take i).map (shiftN n0)) ∧ Hid (w.grownBy wr q0) ∧ (sv.ownBlock = q0 ∨ ∃ b, sv.ownBlock = some b ∧ gb ≤ b)) ∧ Hid (Arr wr gb 26 [.slice (some ⟨g, o, none⟩) n c, .int .i64 (r : Int)])) (fun _ v _ => n - (intOf v).toNat)
 case atStart => exact ⟨0, Nat.zero_le _, rfl, hst0, hX0⟩
 case round =>
  obtain ⟨i, hi, rfl, hst, hX⟩ := hrel
  obtain ⟨ncs1, hrow, hrd, hgr, hsv⟩ := hst.out
  have HROW := Lib.hid hrow
  have HRD := Lib.hid hrd
  have HSV := Lib.hid hsv
  clear hrow hrd hsv hst hst0 hX0
  obtain ⟨A1, c1, hv1, _, _⟩ := own_slice HROW.out
  subst hv1
  by_cases him : i = n
  ·obtain rfl : i = n := him
   have hi' : ¬ (i : Int) < i := by omega
   have hFin : Hid (AppR2 w B n0 nodes ncs (.slice A0 n0 c0) (r : Int) (.returned (.tuple #[.slice A1 (n0 + i) c1, .int .i64 ((r : Int) + (n0 : Int))])) wr) := by
    refine ⟨_, ncs1, rfl, ?_, ?_, ?_, ?_⟩
    ·have h := HROW.out
     rw [HN.out]
     exact h
    ·have h := HRD.out
     rw [List.take_of_length_le (by have := HN.out; omega)] at h
     rw [HGB.out]
     exact h
    ·rw [HQ0.out]; exact hgr.out
    ·rw [HQ0.out, HGB.out]; exact HSV.out
   have x1 := hX.out.cell' (i := 1) rfl
   have hr0 : (0 : Int) ≤ r := by omega
   have hr1 : (r : Int) < 4096 := by have := HN.out; omega
   have hn00 : (0 : Int) ≤ n0 := by omega
   clear hX HROW HRD HSV hgr
   go_upto_region 17 with (fail)
   go_quiet (fail)
   go_wp2_with (fail)
   go_ret2
   obtain ⟨v', ncs', he, h2, h3, h4, h5⟩ := hFin.out
   exact ⟨v', ncs', he, own_below h2 (Below.drewN' (Below.refl _ _) nq), h3.over (fun b _ hF _ => ⟨rfl, hF⟩), ⟨h4.os, h4.tape, h4.output, h4.size, h4.block⟩, h5⟩
  ·have hi' : (i : Int) < n := by omega
   have hi0 : (0 : Int) ≤ i := by omega
   have hi2 : i < nodes.length := by have := HN.out; omega
   have hGr := Lib.hid (HG.out.grownO hgr.out (fun b e => (hq0B.out b e).1))
   obtain ⟨K, ck, I, ci, d0, d1, d2, d3, d4, ⟨hK, hKb⟩, hI1, hI2⟩ := hGr.out.of_at hi2
   have HK := Lib.hid hK
   have HI1 := Lib.hid hI1
   obtain ⟨hlk, hli⟩ := HL.out i hi2
   have hIdx := HI.out i hi2
   have hTk : Hid ((nodes.take (i + 1)).map (shiftN n0) = (nodes.take i).map (shiftN n0) ++ [shiftN n0 (ndAt nodes i)]) := by
    show _ = _
    rw [List.take_add_one, ndAt_get hi2]; simp
   have hgwr : gb < wr.heap.size := hX.out.lt
   have hxk : ∀ x ∈ (ndAt nodes i).keys, 0 ≤ x ∧ x < 65536 := fun x hx => by have := hIdx x (by unfold refs; exact List.mem_append.2 (.inl hx)); have := HN.out; omega
   have hxi : ∀ x ∈ (ndAt nodes i).items, 0 ≤ x ∧ x < 65536 := fun x hx => by have := hIdx x (by unfold refs; exact List.mem_append.2 (.inr hx)); have := HN.out; omega
   have HKX := Lib.hid hxk
   have HIX := Lib.hid hxi
   clear hK hI1 hIdx hxk hxi
   generalize hnd : ndAt nodes i = nd at *
   clear hnd
   have hND : Hid (Arr (wr.alloc (.cells #[.int .i64 nd.kind, .string (mks nd.text), .bool nd.ord, .slice K nd.keys.length ck, .slice I nd.items.length ci] 34)) wr.heap.size 34 [.int .i64 nd.kind, .string (mks nd.text), .bool nd.ord, .slice K nd.keys.length ck, .slice I nd.items.length ci]) := Arr.new wr _ _
   have hbn : Below wr.heap.size wr (wr.alloc (.cells #[.int .i64 nd.kind, .string (mks nd.text), .bool nd.ord, .slice K nd.keys.length ck, .slice I nd.items.length ci] 34)) := (Below.refl _ _).alloc (Nat.le_refl _) _
   have x0 := hX.out.cell' (i := 0) rfl
   go_upto_region 5 with (fail)
   clear x0 d0 d1 d2 d3 d4
   generalize hw2 : (wr.alloc (.cells #[.int .i64 nd.kind, .string (mks nd.text), .bool nd.ord, .slice K nd.keys.length ck, .slice I nd.items.length ci] 34)) = w2 at *
   clear hw2
   obtain ⟨nb, hnb⟩ : ∃ b, wr.heap.size = b := ⟨_, rfl⟩
   rw [hnb] at hND ⊢
   have HNB := Lib.hid hnb
   obtain ⟨z, hz⟩ : ∃ z, w2.heap.size = z := ⟨_, rfl⟩
   have HZ := Lib.hid hz
   have hnz : nb < z := by have := hND.out.lt; omega
   have HK2 := Lib.hid (HK.out.keep hbn)
   have HI2 := Lib.hid (HI1.out.keep hbn)
   have DK := Lib.hid (fun w' (h : Below z w2 w') => copied_any K ck nd.keys hlk w' (HK2.out.keep (by rw [HZ.out]; exact h)))
   have DI := Lib.hid (fun w' (h : Below z w2 w') => copied_any I ci nd.items hli w' (HI2.out.keep (by rw [HZ.out]; exact h)))
   have r3 : ∀ w', Below z w2 w' → w'.cell? ⟨nb, 3, none⟩ = some (.slice K nd.keys.length ck) := fun w' h => (hND.out.below h hnz).cell' (i := 3) rfl
   have r4 : ∀ w', Below z w2 w' → w'.cell? ⟨nb, 4, none⟩ = some (.slice I nd.items.length ci) := fun w' h => (hND.out.below h hnz).cell' (i := 4) rfl
   have q3 : ∀ w', Below z w2 w' → w'.frozen? ⟨nb, 3, none⟩ = false := fun w' h => (hND.out.below h hnz).frozen 3
   have q4 : ∀ w', Below z w2 w' → w'.frozen? ⟨nb, 4, none⟩ = false := fun w' h => (hND.out.below h hnz).frozen 4
   have hS2 : Below z w2 w2.drew := (Below.refl _ _).drew
   have hzs : z ≤ w2.drew.heap.size := by show z ≤ w2.heap.size; omega
   clear hnb hz HK HI1 HK2 HI2
   rw [mload_eq 32 (.tmp 21), mload_eq 32 (.tmp 24)]
   go_region_held3 (fun _ => True) (first | trivial | go_keep)
    (first
     | (go_at_call 53; ((with_reducible refine (DK.out _ (by first | assumption)).mono ?_)); rintro e w5 ⟨ok, rfl, hok, hb5, hA5⟩; have hS5 : Below z w2 w5 := Below.trans (by first | assumption) (hb5.mono (by first | assumption)); have hzs5 : z ≤ w5.heap.size := Nat.le_trans (by first | assumption) hb5.size)
     | (go_at_call 53; ((with_reducible refine (DI.out _ (by first | assumption)).mono ?_)); rintro e w6 ⟨oi, rfl, hoi, hb6, hA6⟩; have hS6 : Below z w2 w6 := Below.trans (by first | assumption) (hb6.mono (by first | assumption)); have hzs6 : z ≤ w6.heap.size := Nat.le_trans (by first | assumption) hb6.size))
   all_goals
    first
     | (obtain ⟨wl, hwl, hSl, hAk, hAi, hok2, hoi2, hne⟩ : ∃ wl, wl = w6 ∧ Below z w2 wl ∧ Hid (Arr wl ok 3 (I64 nd.keys)) ∧ Hid (Arr wl oi 3 (I64 nd.items)) ∧ z ≤ ok ∧ z ≤ oi ∧ ok ≠ oi := ⟨w6, rfl, hS6, Arr.keep (w := w5) hA5.out hb6, hA6, Nat.le_trans hzs hok, Nat.le_trans hzs5 hoi, Nat.ne_of_lt (Nat.lt_of_lt_of_le hA5.out.lt hoi)⟩)
     | (obtain ⟨wl, hwl, hSl, hAk, hAi, hok2, hoi2, hne⟩ : ∃ wl, wl = w5 ∧ Below z w2 wl ∧ Hid (Arr wl ok 3 (I64 nd.keys)) ∧ Hid (Arr wl oi 3 (I64 nd.items)) ∧ z ≤ ok ∧ z ≤ oi ∧ ok ≠ oi := ⟨w5, rfl, hS5, hA5, Arr.keep (w := w6) hA6.out hb5, Nat.le_trans hzs6 hok, Nat.le_trans hzs hoi, (Nat.ne_of_lt (Nat.lt_of_lt_of_le hA6.out.lt hok)).symm⟩)
    subst hwl
    have hkn : ok ≠ nb := by omega
    have hin2 : oi ≠ nb := by omega
    have hN7 : Hid (Arr ((wl.setCell ⟨nb, 3, none⟩ (.slice (some ⟨ok, 0, none⟩) nd.keys.length nd.keys.length)).setCell ⟨nb, 4, none⟩ (.slice (some ⟨oi, 0, none⟩) nd.items.length nd.items.length)) nb 34 [.int .i64 nd.kind, .string (mks nd.text), .bool nd.ord, .slice (some ⟨ok, 0, none⟩) nd.keys.length nd.keys.length, .slice (some ⟨oi, 0, none⟩) nd.items.length nd.items.length]) := ((hND.out.below hSl hnz).store 3 _).store 4 _
    have hK7 := Lib.hid ((hAk.out.far (p := ⟨nb, 3, none⟩) hkn (.slice (some ⟨ok, 0, none⟩) nd.keys.length nd.keys.length)).far (p := ⟨nb, 4, none⟩) hkn (.slice (some ⟨oi, 0, none⟩) nd.items.length nd.items.length))
    have hI7 := Lib.hid ((hAi.out.far (p := ⟨nb, 3, none⟩) hin2 (.slice (some ⟨ok, 0, none⟩) nd.keys.length nd.keys.length)).far (p := ⟨nb, 4, none⟩) hin2 (.slice (some ⟨oi, 0, none⟩) nd.items.length nd.items.length))
    have hB7 : Hid (Below wr.heap.size wr ((wl.setCell ⟨nb, 3, none⟩ (.slice (some ⟨ok, 0, none⟩) nd.keys.length nd.keys.length)).setCell ⟨nb, 4, none⟩ (.slice (some ⟨oi, 0, none⟩) nd.items.length nd.items.length))) := ((hbn.trans (hSl.mono (by have := HNB.out; omega))).setCell (p := ⟨nb, 3, none⟩) (Nat.le_of_eq HNB.out) _).setCell (p := ⟨nb, 4, none⟩) (Nat.le_of_eq HNB.out) _
    clear hA5 hA6 hAk hAi hb5 hb6 hS5 hS6 hzs5 hzs6 hok hoi hSl hS2 hzs r3 r4 q3 q4 DK DI hbn hND
    generalize ((wl.setCell ⟨nb, 3, none⟩ (.slice (some ⟨ok, 0, none⟩) nd.keys.length nd.keys.length)).setCell ⟨nb, 4, none⟩ (.slice (some ⟨oi, 0, none⟩) nd.items.length nd.items.length)) = w70 at *
    obtain ⟨wo, hwo⟩ : ∃ x, x = wr := ⟨_, rfl⟩
    subst hwo
    obtain ⟨nk, hnk⟩ : ∃ x, nd.keys.length = x := ⟨_, rfl⟩
    obtain ⟨ni, hni⟩ : ∃ x, nd.items.length = x := ⟨_, rfl⟩
    rw [hnk, hni] at hN7
    have HNK := Lib.hid hnk
    have HNI := Lib.hid hni
    rw [hnk] at hlk
    rw [hni] at hli
    have t3 := hN7.out.cell' (i := 3) rfl
    have t4 := hN7.out.cell' (i := 4) rfl
    obtain ⟨lb, hlb⟩ : ∃ x, w70.heap.size = x := ⟨_, rfl⟩
    have hlz : z ≤ lb := by have := hK7.out.lt; omega
    have hLb : Hid (Arr (w70.alloc (.cells #[.slice (some ⟨ok, 0, none⟩) nk nk, .slice (some ⟨oi, 0, none⟩) ni ni] 32)) lb 32 [.slice (some ⟨ok, 0, none⟩) nk nk, .slice (some ⟨oi, 0, none⟩) ni ni]) := by rw [← hlb]; exact Arr.new _ _ _
    have hbL : Below w70.heap.size w70 (w70.alloc (.cells #[.slice (some ⟨ok, 0, none⟩) nk nk, .slice (some ⟨oi, 0, none⟩) ni ni] 32)) := (Below.refl _ _).alloc (Nat.le_refl _) _
    have hN8 := Lib.hid (hN7.out.keep hbL)
    have hK8 : Hid (Arr (w70.alloc (.cells #[.slice (some ⟨ok, 0, none⟩) nk nk, .slice (some ⟨oi, 0, none⟩) ni ni] 32)) ok 3 (I64 (shF n0 nd.keys 0))) := by rw [shF_zero]; exact hK7.out.keep hbL
    have hI8 : Hid (Arr (w70.alloc (.cells #[.slice (some ⟨ok, 0, none⟩) nk nk, .slice (some ⟨oi, 0, none⟩) ni ni] 32)) oi 3 (I64 (shF n0 nd.items 0))) := by rw [shF_zero]; exact hI7.out.keep hbL
    have hB8 := Lib.hid (hB7.out.trans (hbL.mono hB7.out.size))
    have hzw : z ≤ (w70.alloc (.cells #[.slice (some ⟨ok, 0, none⟩) nk nk, .slice (some ⟨oi, 0, none⟩) ni ni] 32)).heap.size := by have := hbL.size; omega
    have hlo : lb ≠ ok ∧ lb ≠ oi := ⟨fun e => by have := hK7.out.lt; omega, fun e => by have := hI7.out.lt; omega⟩
    have HLB := Lib.hid hlb
    clear hnk hni hN7 hK7 hI7 hB7 hbL
    go_upto_region 7 with (fail)
    clear t3 t4
    generalize (w70.alloc (.cells #[.slice (some ⟨ok, 0, none⟩) nk nk, .slice (some ⟨oi, 0, none⟩) ni ni] 32)) = w80 at *
    clear hlb
    go_loopw [35] (fun v wx => ∃ (j ik ii : Nat), j ≤ 2 ∧ v = .int .i64 (j : Int) ∧ (0 < j → ik = nk) ∧ (1 < j → ii = ni) ∧ (j = 0 → ik = 0) ∧ (j ≤ 1 → ii = 0) ∧ Hid (Arr wx ok 3 (I64 (shF n0 nd.keys ik))) ∧ Hid (Arr wx oi 3 (I64 (shF n0 nd.items ii))) ∧ Hid (Arr wx lb 32 [.slice (some ⟨ok, 0, none⟩) nk nk, .slice (some ⟨oi, 0, none⟩) ni ni]) ∧ Hid (Below z w80 wx)) (fun v _ => 2 - (intOf v).toNat)
    case atStart => exact ⟨0, 0, 0, by omega, rfl, by omega, by omega, fun _ => rfl, fun _ => rfl, hK8, hI8, hLb, Below.refl _ _⟩
    case round =>
     obtain ⟨j, ik, ii, hj, rfl, e1, e2, e3, e4, hJK, hJI, hJL, hJB⟩ := hrel
     obtain ⟨w81, hw81⟩ : ∃ x, x = wr := ⟨_, rfl⟩
     subst hw81
     have j3 : j = 0 ∨ j = 1 ∨ j = 2 := by omega
     have l0 := hJL.out.cell' (i := 0) rfl
     have l1 := hJL.out.cell' (i := 1) rfl
     rcases j3 with rfl | rfl | rfl
     ·obtain rfl : 0 = ik := (e3 rfl).symm
      obtain rfl : 0 = ii := (e4 (by omega)).symm
      clear e1 e2 e3 e4
      go_upto_region 10 with (fail)
      go_loopw [41] (fun v wx => ∃ k : Nat, k ≤ nk ∧ v = .int .i64 (k : Int) ∧ Hid (Arr wx ok 3 (I64 (shF n0 nd.keys k))) ∧ Hid (Arr wx oi 3 (I64 (shF n0 nd.items 0))) ∧ Hid (Arr wx lb 32 [.slice (some ⟨ok, 0, none⟩) nk nk, .slice (some ⟨oi, 0, none⟩) ni ni]) ∧ Hid (Below z w80 wx)) (fun v _ => nk - (intOf v).toNat)
      case atStart => exact ⟨0, Nat.zero_le _, rfl, hJK, hJI, hJL, hJB⟩
      case round =>
       obtain ⟨k, hk, rfl, hA, hO, hL, hBx⟩ := hrel
       obtain ⟨w82, hw82⟩ : ∃ x, x = wr := ⟨_, rfl⟩
       subst hw82
       clear hJK hJI hJL hJB l0 l1
       by_cases hkn : k = nk
       ·obtain rfl : k = nk := hkn
        have hk' : ¬ (k : Int) < k := by omega
        go_wp2_with (fail)
        go_roundw
        case rel => exact ⟨1, k, 0, by omega, rfl, by omega, by omega, by omega, by omega, hA, hO, hL, hBx⟩
        case measure => simp [intOf]
       ·have hk' : (k : Int) < nk := by omega
        have hk0 : (0 : Int) ≤ k := by omega
        obtain ⟨x, hxi⟩ : ∃ x, nd.keys[k]? = some x := ⟨_, List.getElem?_eq_getElem (by have := HNK.out; omega)⟩
        obtain ⟨hx0, hx1⟩ := HKX.out x (List.mem_of_getElem? hxi)
        have c0 := hA.out.cell' (I64_get (shF_get (d := n0) hxi))
        have f0 := hA.out.frozen k
        have hn00 : (0 : Int) ≤ n0 := by omega
        have hA2 : Hid (Arr (w82.setCell ⟨ok, k, none⟩ (.int .i64 (x + (n0 : Int)))) ok 3 (I64 (shF n0 nd.keys (k + 1)))) := by
         have h := hA.out.store k (.int .i64 (x + (n0 : Int)))
         rw [I64_set, shF_set hxi] at h
         exact h
        have hO2 := Lib.hid (hO.out.far (p := ⟨ok, k, none⟩) hne.symm (.int .i64 (x + (n0 : Int))))
        have hL2 := Lib.hid (hL.out.far (p := ⟨ok, k, none⟩) hlo.1 (.int .i64 (x + (n0 : Int))))
        have hB2 := Lib.hid (hBx.out.setCell (p := ⟨ok, k, none⟩) hok2 (.int .i64 (x + (n0 : Int))))
        clear hA hO hL hBx hxi
        go_wp2_with (fail)
        go_roundw
        case rel => exact ⟨k + 1, by omega, i64e (by omega), hA2, hO2, hL2, hB2⟩
        case measure => simp [intOf]; omega
     ·obtain rfl : nk = ik := (e1 (by omega)).symm
      obtain rfl : 0 = ii := (e4 (by omega)).symm
      clear e1 e2 e3 e4
      go_upto_region 10 with (fail)
      go_loopw [41] (fun v wx => ∃ k : Nat, k ≤ ni ∧ v = .int .i64 (k : Int) ∧ Hid (Arr wx oi 3 (I64 (shF n0 nd.items k))) ∧ Hid (Arr wx ok 3 (I64 (shF n0 nd.keys nk))) ∧ Hid (Arr wx lb 32 [.slice (some ⟨ok, 0, none⟩) nk nk, .slice (some ⟨oi, 0, none⟩) ni ni]) ∧ Hid (Below z w80 wx)) (fun v _ => ni - (intOf v).toNat)
      case atStart => exact ⟨0, Nat.zero_le _, rfl, hJI, hJK, hJL, hJB⟩
      case round =>
       obtain ⟨k, hk, rfl, hA, hO, hL, hBx⟩ := hrel
       obtain ⟨w82, hw82⟩ : ∃ x, x = wr := ⟨_, rfl⟩
       subst hw82
       clear hJK hJI hJL hJB l0 l1
       by_cases hkn : k = ni
       ·obtain rfl : k = ni := hkn
        have hk' : ¬ (k : Int) < k := by omega
        go_wp2_with (fail)
        go_roundw
        case rel => exact ⟨2, nk, k, by omega, rfl, by omega, by omega, by omega, by omega, hO, hA, hL, hBx⟩
        case measure => simp [intOf]
       ·have hk' : (k : Int) < ni := by omega
        have hk0 : (0 : Int) ≤ k := by omega
        obtain ⟨x, hxi⟩ : ∃ x, nd.items[k]? = some x := ⟨_, List.getElem?_eq_getElem (by have := HNI.out; omega)⟩
        obtain ⟨hx0, hx1⟩ := HIX.out x (List.mem_of_getElem? hxi)
        have c0 := hA.out.cell' (I64_get (shF_get (d := n0) hxi))
        have f0 := hA.out.frozen k
        have hn00 : (0 : Int) ≤ n0 := by omega
        have hA2 : Hid (Arr (w82.setCell ⟨oi, k, none⟩ (.int .i64 (x + (n0 : Int)))) oi 3 (I64 (shF n0 nd.items (k + 1)))) := by
         have h := hA.out.store k (.int .i64 (x + (n0 : Int)))
         rw [I64_set, shF_set hxi] at h
         exact h
        have hO2 := Lib.hid (hO.out.far (p := ⟨oi, k, none⟩) hne (.int .i64 (x + (n0 : Int))))
        have hL2 := Lib.hid (hL.out.far (p := ⟨oi, k, none⟩) hlo.2 (.int .i64 (x + (n0 : Int))))
        have hB2 := Lib.hid (hBx.out.setCell (p := ⟨oi, k, none⟩) hoi2 (.int .i64 (x + (n0 : Int))))
        clear hA hO hL hBx hxi
        go_wp2_with (fail)
        go_roundw
        case rel => exact ⟨k + 1, by omega, i64e (by omega), hA2, hO2, hL2, hB2⟩
        case measure => simp [intOf]; omega
     ·obtain rfl : nk = ik := (e1 (by omega)).symm
      obtain rfl : ni = ii := (e2 (by omega)).symm
      clear e1 e2 e3 e4 l0 l1
      have hN7 := Lib.hid (hN8.out.below hJB.out hnz)
      rw [← HNK.out, ← HNI.out] at hN7
      have hK7 : Hid (Arr w81 ok 3 (I64 (nd.keys.map (· + (n0 : Int))))) := by have h := hJK.out; rw [shF_all n0 nd.keys HNK.out] at h; exact h
      have hI7 : Hid (Arr w81 oi 3 (I64 (nd.items.map (· + (n0 : Int))))) := by have h := hJI.out; rw [shF_all n0 nd.items HNI.out] at h; exact h
      have hB7 := Lib.hid (hB8.out.trans (hJB.out.mono (by have := HNB.out; omega)))
      obtain ⟨w7, hw7⟩ : ∃ x, x = w81 := ⟨_, rfl⟩
      subst hw7
      clear hN8 hK8 hI8 hB8 hLb hJK hJI hJL hJB
      have n0' := hN7.out.cell' (i := 0) rfl
      have n1' := hN7.out.cell' (i := 1) rfl
      have n2' := hN7.out.cell' (i := 2) rfl
      have n3' := hN7.out.cell' (i := 3) rfl
      have n4' := hN7.out.cell' (i := 4) rfl
      have hb7 : Hid (Below w7.heap.size w7 (w7.alloc (.cells #[.int .i64 nd.kind, .string (mks nd.text), .bool nd.ord, .slice (some ⟨ok, 0, none⟩) nd.keys.length nd.keys.length, .slice (some ⟨oi, 0, none⟩) nd.items.length nd.items.length] 34))) := (Below.refl _ _).alloc (Nat.le_refl _) _
      have hrow7 := Lib.hid (own_below HROW.out hB7.out)
      have hBw7 : B ≤ w7.heap.size := by have := hB7.out.size; omega
      go_upto_region 16 with (at_builtin; go_loud (refine wpList_apS rfl (.tmp 53) (.tmp 55) 24 rfl B 34 _ 5 _ Tryz.underlying24 infoNd rfl (by decide) _ (n0 + i) (ncs ++ ncs1) rfl (hrow7.out.alloc _) ⟨w7.heap.size, 0, none⟩ _ [.int .i64 nd.kind, .string (mks nd.text), .bool nd.ord, .slice (some ⟨ok, 0, none⟩) nd.keys.length nd.keys.length, .slice (some ⟨oi, 0, none⟩) nd.items.length nd.items.length] rfl rfl (cells_new _ _ _) rfl (by unfold maxLen; omega) (by omega) (by simp; omega) ?_; intro v3 w3 hown3 hgr3 hat3; obtain ⟨A3, c3', hv3, hc3, hm3⟩ := own_slice hown3; subst hv3))
      have hgr3' : Hid ((w7.alloc (.cells #[.int .i64 nd.kind, .string (mks nd.text), .bool nd.ord, .slice (some ⟨ok, 0, none⟩) nd.keys.length nd.keys.length, .slice (some ⟨oi, 0, none⟩) nd.items.length nd.items.length] 34)).grownBy w3 (Value.slice A1 (n0 + i) c1).ownBlock) := hgr3
      have hown3' : Hid (w3.ownsRow B 34 5 (.slice A3 (n0 + i + 1) c3') (n0 + i + 1) (ncs ++ ncs1 ++ [.int .i64 nd.kind, .string (mks nd.text), .bool nd.ord, .slice (some ⟨ok, 0, none⟩) nd.keys.length nd.keys.length, .slice (some ⟨oi, 0, none⟩) nd.items.length nd.items.length])) := hown3
      have hat4 : (Value.slice A3 (n0 + i + 1) c3').ownBlock = (Value.slice A1 (n0 + i) c1).ownBlock ∨ (Value.slice A3 (n0 + i + 1) c3').ownBlock = some (w7.alloc (.cells #[.int .i64 nd.kind, .string (mks nd.text), .bool nd.ord, .slice (some ⟨ok, 0, none⟩) nd.keys.length nd.keys.length, .slice (some ⟨oi, 0, none⟩) nd.items.length nd.items.length] 34)).heap.size := hat3
      obtain ⟨q1, hq1⟩ : ∃ q, (Value.slice A1 (n0 + i) c1).ownBlock = q := ⟨_, rfl⟩
      rw [hq1] at hgr3' hat4
      have hsv1 := HSV.out
      rw [hq1] at hsv1
      have hkeep : Hid (∀ b, b < w7.heap.size → q1 ≠ some b → w3.heap[b]? = w7.heap[b]?) := fun b hb hne => (hgr3'.out.block b (Nat.lt_of_lt_of_le hb hb7.out.size) (fun e => hne e.symm)).trans (hb7.out.block b hb)
      have hqk : Hid (∀ b, q1 = some b → ∃ C fz, w7.heap[b]? = some (.cells C 34 fz)) := fun b e => own_kind hrow7.out (hq1.trans e)
      have hni : Hid (∀ b C fz, w7.heap[b]? = some (.cells C 3 fz) → q1 ≠ some b) := fun b C fz hb e => by
       obtain ⟨C', fz', hb'⟩ := hqk.out b e
       exact absurd (cells_kind hb hb') (by decide)
      have hK3 : Hid (Arr w3 ok 3 (I64 (nd.keys.map (· + (n0 : Int))))) := (hkeep.out ok hK7.out.lt (hni.out ok _ _ hK7.out)).trans hK7.out
      have hI3 : Hid (Arr w3 oi 3 (I64 (nd.items.map (· + (n0 : Int))))) := (hkeep.out oi hI7.out.lt (hni.out oi _ _ hI7.out)).trans hI7.out
      have hX3 : Hid (Arr w3 gb 26 [.slice (some ⟨g, o, none⟩) n c, .int .i64 (r : Int)]) := by
       have h := hX.out.keep hB7.out
       exact (hkeep.out gb h.lt (fun e => by
        obtain ⟨C', fz', hb'⟩ := hqk.out gb e
        exact absurd (cells_kind h hb') (by decide))).trans h
      have hst3 : Hid (∃ ncs', w3.ownsRow B 34 5 (.slice A3 (n0 + i + 1) c3') (n0 + (i + 1)) (ncs ++ ncs') ∧ NodesRd w3 (fun b => gb ≤ b) ncs' ((nodes.take (i + 1)).map (shiftN n0)) ∧ Hid (w.grownBy w3 q0) ∧ ((Value.slice A3 (n0 + i + 1) c3').ownBlock = q0 ∨ ∃ b, (Value.slice A3 (n0 + i + 1) c3').ownBlock = some b ∧ gb ≤ b)) := by
       refine ⟨ncs1 ++ [.int .i64 nd.kind, .string (mks nd.text), .bool nd.ord, .slice (some ⟨ok, 0, none⟩) nd.keys.length nd.keys.length, .slice (some ⟨oi, 0, none⟩) nd.items.length nd.items.length], ?_, ?_, ?_, ?_⟩
       ·rw [← List.append_assoc, ← Nat.add_assoc]; exact hown3'.out
       ·rw [hTk.out]
        refine (HRD.out.over fun b hl hF hk => ?_).app (NodesRd.one ⟨some ⟨ok, 0, none⟩, _, _, some ⟨oi, 0, none⟩, _, _, rfl, ⟨by simp [shiftN], hK3.out.rd, fun ad e => ?_⟩, by simp [shiftN], hI3.out.rd, fun ad e => ?_⟩)
        ·obtain ⟨C, fz, hb⟩ := hk
         have h1 := hB7.out.block b hl
         exact ⟨(hkeep.out b (Nat.lt_of_lt_of_le hl hB7.out.size) (hni.out b C fz (h1.trans hb))).trans h1, hF⟩
        ·obtain rfl := Option.some.inj e
         exact ⟨by have := HNB.out; show gb ≤ ok; omega, _, _, hK3.out⟩
        ·obtain rfl := Option.some.inj e
         exact ⟨by have := HNB.out; show gb ≤ oi; omega, _, _, hI3.out⟩
       ·have h1 := hgr.out
        refine ⟨hgr3'.out.os.trans (hb7.out.os.trans (hB7.out.os.trans h1.os)), hgr3'.out.tape.trans (hb7.out.tape.trans (hB7.out.tape.trans h1.tape)), hgr3'.out.output.trans (hb7.out.output.trans (hB7.out.output.trans h1.output)), Nat.le_trans h1.size (Nat.le_trans hB7.out.size (Nat.le_trans hb7.out.size hgr3'.out.size)), fun j hj hne => ?_⟩
        have hjr : j < wo.heap.size := Nat.lt_of_lt_of_le hj h1.size
        refine (hkeep.out j (Nat.lt_of_lt_of_le hjr hB7.out.size) (fun e => ?_)).trans ((hB7.out.block j hjr).trans (h1.block j hj hne))
        rcases hsv1 with h2 | ⟨b, h2, h3⟩
        ·exact hne (e.symm.trans h2)
        ·rw [h2] at e; have := Option.some.inj e; have := HGB.out; omega
       ·rcases hat4 with h2 | h2
        ·rw [h2]; exact hsv1
        ·refine .inr ⟨_, h2, ?_⟩
         have h3 := hb7.out.size
         have h4 := hB7.out.size
         simp at h3 ⊢
         omega
      clear hgr3 hown3 hat3 hat4 hgr3' hown3' hsv1 hkeep hqk hni hK3 hI3 hK7 hI7 hN7 hB7 hb7 hrow7 n0' n1' n2' n3' n4' hX HROW HRD HSV hgr hGr hTk
      go_wp2_with (fail)
      go_roundw
      case rel => exact ⟨i + 1, by omega, i64e (by omega), hst3, hX3⟩
      case measure => simp [intOf]; omega
end Go.Proofs.YtoppncpmfajbcaaGreatDoor
