/- The walks of ints, Is, SameGraph of the references: graphs that read the same are the same. -/
import Derived.Test.YtbdnamcjhndpjaaGreatDoorMO
import Derived.Test.YtbdnamcjhndpjaaGreatDoorMK
import Derived.StillTailTactics
import Derived.Test.YtbdnamcjhndpjaaGreatDoorMQ
import Derived.Deep.QuietTactic
import Derived.BigQuiet
set_option linter.unusedVariables false
set_option linter.unusedSimpArgs false
set_option linter.defProp false
set_option linter.constructorNameAsVariable false
namespace Go.Proofs.YtbdnamcjhndpjaaGreatDoor
open Go.RowKit
set_option maxHeartbeats 2000000 in
theorem ints_same (xs : List Int) (w : World) (A B : Option Addr) (c c' n n' : Nat) (hr : Rd w A (I64 xs)) (hr' : Rd w B (I64 xs)) (hn : n = xs.length) (hn' : n' = xs.length) (hm : n ≤ 4294967296) :
  Calls Tryz.prog 61 #[.slice A n c, .slice B n' c'] w fun e w' => e = .returned (.bool true) ∧ ∃ k, w' = w.drewN k := by
 subst hn
 subst hn'
 generalize hnn : xs.length = n at *
 go_enter Tryz.func61, Tryz.ntmps61
 go_wp2
 go_loopw [5] (fun v wr => ∃ k : Nat, k ≤ n ∧ v = .int .i64 (k : Int) ∧ ∃ j, wr = w.drewN j) (fun v _ => n - (intOf v).toNat)
 case atStart => exact ⟨0, by omega, rfl, 0, rfl⟩
 case round =>
  obtain ⟨k, hk, rfl, j, rfl⟩ := hrel
  by_cases h0 : k = n
  ·have h0' : ¬ (k : Int) < n := by omega
   go_wp2
   go_ret
   exact ⟨rfl, (by first | exact q0 _ | exact q1 _ _)⟩
  ·have h0' : (k : Int) < n := by omega
   obtain ⟨x, hx⟩ : ∃ x, xs[k]? = some x := ⟨_, List.getElem?_eq_getElem (by omega)⟩
   obtain ⟨ad, rfl, hcx⟩ := hr.at_ (I64_get hx)
   obtain ⟨ad', rfl, hcy⟩ := hr'.at_ (I64_get hx)
   have b1 : (0 : Int) ≤ k := by omega
   go_wp2
   go_quiet (fail)
   go_wp2
   try (go_quiet (fail); go_wp2)
   go_roundw
   case rel => exact ⟨k + 1, by omega, i64e (by omega), (by first | exact q1 _ _ | exact q2 _ _ _ | exact q3 _ _ _ _)⟩
   case measure => simp [intOf]; omega
def GrAt (w : World) (vn : Value) (nodes : List GNode) : Prop := ∃ b ncs, w.ownsRow b 41 5 vn nodes.length ncs ∧ NodesRd w (fun _ => True) ncs nodes
theorem GrAt.keep {w w' : World} {vn : Value} {nodes : List GNode} (h : GrAt w vn nodes) (hb : Below w.heap.size w w') : GrAt w' vn nodes := by
 obtain ⟨b, ncs, h1, h2⟩ := h
 exact ⟨b, ncs, own_same h1 (fun g hg => hb.block g (h1.lt g hg).2), h2.keep (IntsKept.of_below hb) (fun _ h => h)⟩
set_option maxRecDepth 20000 in
set_option maxHeartbeats 4000000 in
theorem is_same (nodes : List GNode) (hb : NB 65536 nodes) (hl : nodes.length ≤ 65536) (root : Int) (vn vn' : Value) (w : World) (hg : GrAt w vn nodes) (hg' : GrAt w vn' nodes) :
  Calls Tryz.prog 34 #[.agg #[vn, .int .i64 root], .agg #[vn', .int .i64 root]] w fun e w' => e = .returned (.bool true) ∧ Below w.heap.size w w' := by
 obtain ⟨b, ncs, ho, hr⟩ := hg
 obtain ⟨b', ncs', ho', hr'⟩ := hg'
 obtain ⟨A, c, hv, hnc, hcm⟩ := own_slice ho
 obtain ⟨A', c', hv', hnc', hcm'⟩ := own_slice ho'
 subst hv
 subst hv'
 obtain ⟨HX, HY, HB, HZ⟩ := two_box w 25 25 [.slice A nodes.length c, .int .i64 root] [.slice A' nodes.length c', .int .i64 root]
 go_enter Tryz.func34, Tryz.ntmps34
 go_upto_region 1 with (fail)
 have hX : Hid (Arr ((w.alloc (.cells #[.slice A nodes.length c, .int .i64 root] 25)).alloc (.cells #[.slice A' nodes.length c', .int .i64 root] 25)) w.heap.size 25 [.slice A nodes.length c, .int .i64 root]) := HX
 have hY : Hid (Arr ((w.alloc (.cells #[.slice A nodes.length c, .int .i64 root] 25)).alloc (.cells #[.slice A' nodes.length c', .int .i64 root] 25)) (w.heap.size + 1) 25 [.slice A' nodes.length c', .int .i64 root]) := HY
 clear HX HY HZ
 generalize ((w.alloc (.cells #[.slice A nodes.length c, .int .i64 root] 25)).alloc (.cells #[.slice A' nodes.length c', .int .i64 root] 25)) = W at *
 have hl1 := hX.out.lt
 have hl2 := hY.out.lt
 obtain ⟨b1, hb1⟩ : ∃ b, w.heap.size + 1 = b := ⟨_, rfl⟩
 rw [hb1] at hY hl2 ⊢
 have l1 : w.heap.size < b1 := by omega
 clear hb1
 have x0 := hX.out.cell' (i := 0) rfl
 have x1 := hX.out.cell' (i := 1) rfl
 have y0 := hY.out.cell' (i := 0) rfl
 have y1 := hY.out.cell' (i := 1) rfl
 obtain ⟨n, hn⟩ : ∃ n, nodes.length = n := ⟨_, rfl⟩
 rw [hn] at x0 y0 hX hY ho ho' hnc hnc'
 have hnl : n ≤ 65536 := by omega
 have HN := Lib.hid hn
 clear hn
 go_wp2
 go_loopw [5] (fun v wr => ∃ k : Nat, k ≤ n ∧ v = .int .i64 (k : Int) ∧ Below W.heap.size W wr) (fun v _ => n - (intOf v).toNat)
 case atStart => exact ⟨0, by omega, rfl, Below.refl _ _⟩
 case round =>
  obtain ⟨k, hk, rfl, hbr⟩ := hrel
  have hXr := Arr.keep hX hbr
  have hYr := Arr.keep hY hbr
  have xr0 := hXr.cell' (i := 0) rfl
  have yr0 := hYr.cell' (i := 0) rfl
  by_cases h0 : k = n
  ·have h0' : ¬ (k : Int) < n := by omega
   go_wp2
   go_ret
   exact ⟨rfl, HB.trans (hbr.mono HB.size)⟩
  ·have h0' : (k : Int) < n := by omega
   obtain ⟨g, cg, hvg, _, _⟩ := own_slice0 ho (by omega)
   obtain ⟨g', cg', hvg', _, _⟩ := own_slice0 ho' (by omega)
   injection hvg with hA _ hc
   injection hvg' with hA' _ hc'
   subst hA
   subst hA'
   subst hc
   subst hc'
   obtain ⟨nd, hnd⟩ : ∃ nd, nodes[k]? = some nd := ⟨_, List.getElem?_eq_getElem (by have := HN.out; omega)⟩
   have hbd := hb nd (List.mem_of_getElem? hnd)
   obtain ⟨K1, nk, ck, I1, ni, ci, hcs, hK, hI⟩ := hr.2 k nd hnd
   obtain ⟨K2, nk2, ck2, I2, ni2, ci2, hcs', hK', hI'⟩ := hr'.2 k nd hnd
   have hbw : Below w.heap.size w wr.drew := (HB.trans (hbr.mono HB.size)).drew
   have hod : wr.ownsRow b 41 5 (.slice (some ⟨g, 0, none⟩) n c) n ncs := own_same ho (fun g hg => hbw.block g (ho.lt g hg).2)
   have hod' : wr.ownsRow b' 41 5 (.slice (some ⟨g', 0, none⟩) n c') n ncs' := own_same ho' (fun g hg => hbw.block g (ho'.lt g hg).2)
   obtain ⟨e0, e1, e2, e3, e4⟩ := node_cells hcs
   obtain ⟨d0, d1, d2, d3, d4⟩ := node_cells hcs'
   have hXd : Arr wr w.heap.size 25 [.slice (some ⟨g, 0, none⟩) n c, .int .i64 root] := hXr
   have hYd : Arr wr b1 25 [.slice (some ⟨g', 0, none⟩) n c', .int .i64 root] := hYr
   have xd0 := hXd.cell' (i := 0) rfl
   have yd0 := hYd.cell' (i := 0) rfl
   have a0 := (own_cell hod e0).1
   have c0 := (own_cell hod' d0).1
   have a1 := (own_cell hod e1).1
   have c1 := (own_cell hod' d1).1
   have a2 := (own_cell hod e2).1
   have c2 := (own_cell hod' d2).1
   have a3 := (own_cell hod e3).1
   have c3 := (own_cell hod' d3).1
   have a4 := (own_cell hod e4).1
   have c4 := (own_cell hod' d4).1
   have hgl := (hod.lt g rfl).2
   have hgl' := (hod'.lt g' rfl).2
   have hxl := hXd.lt
   have hyl := hYd.lt
   have hne : g ≠ wr.heap.size ∧ g ≠ wr.heap.size + 1 ∧ g' ≠ wr.heap.size ∧ g' ≠ wr.heap.size + 1 ∧ b1 ≠ wr.heap.size ∧ b1 ≠ wr.heap.size + 1 ∧ w.heap.size ≠ wr.heap.size ∧ w.heap.size ≠ wr.heap.size + 1 := ⟨by omega, by omega, by omega, by omega, by omega, by omega, by omega, by omega⟩
   obtain ⟨ne1, ne2, ne3, ne4, ne5, ne6, ne7, ne8⟩ := hne
   have hal : Below wr.heap.size wr (wr.alloc (.cells #[.int .i64 0, .string ⟨#[]⟩, .bool false, .slice none 0 0, .slice none 0 0] 41)) := (Below.refl _ _).alloc (Nat.le_refl _) _
   have hal2 : Below wr.heap.size wr ((wr.alloc (.cells #[.int .i64 0, .string ⟨#[]⟩, .bool false, .slice none 0 0, .slice none 0 0] 41)).alloc (.cells #[.int .i64 0, .string ⟨#[]⟩, .bool false, .slice none 0 0, .slice none 0 0] 41)) := hal.alloc (by simp) _
   have a01 := (hal.cell (by exact hgl)).trans a0
   have c01 := (hal.cell (by exact hgl')).trans c0
   have a02 := (hal2.cell (by exact hgl)).trans a0
   have c02 := (hal2.cell (by exact hgl')).trans c0
   have a11 := (hal.cell (by exact hgl)).trans a1
   have c11 := (hal.cell (by exact hgl')).trans c1
   have a12 := (hal2.cell (by exact hgl)).trans a1
   have c12 := (hal2.cell (by exact hgl')).trans c1
   have a21 := (hal.cell (by exact hgl)).trans a2
   have c21 := (hal.cell (by exact hgl')).trans c2
   have a22 := (hal2.cell (by exact hgl)).trans a2
   have c22 := (hal2.cell (by exact hgl')).trans c2
   have a31 := (hal.cell (by exact hgl)).trans a3
   have c31 := (hal.cell (by exact hgl')).trans c3
   have a32 := (hal2.cell (by exact hgl)).trans a3
   have c32 := (hal2.cell (by exact hgl')).trans c3
   have a41 := (hal.cell (by exact hgl)).trans a4
   have c41 := (hal.cell (by exact hgl')).trans c4
   have a42 := (hal2.cell (by exact hgl)).trans a4
   have c42 := (hal2.cell (by exact hgl')).trans c4
   have xd01 := (hal.cell (by exact hxl)).trans xd0
   have xd02 := (hal2.cell (by exact hxl)).trans xd0
   have yd01 := (hal.cell (by exact hyl)).trans yd0
   have yd02 := (hal2.cell (by exact hyl)).trans yd0
   clear e0 e1 e2 e3 e4 d0 d1 d2 d3 d4 hcs hcs' hod hod'
   have hbrd : Below W.heap.size W wr.drew := hbr.drew
   have k1 : (0 : Int) ≤ k := by omega
   go_upto_region 6 with (fail)
   go_region
   all_goals clear a0 a1 a2 a3 a4 c0 c1 c2 c3 c4 a01 a11 a21 a31 a41 c01 c11 c21 c31 c41 a02 a12 a22 a32 a42 c02 c12 c22 c32 c42 xd0 xd01 xd02 yd0 yd01 yd02 hal hal2 hXd hYd hXr hYr xr0 yr0 ne1 ne2 ne3 ne4 ne5 ne6 ne7 ne8
   ·obtain ⟨HN, HM, hb2, hz2⟩ := two_box wr 41 41 [.int .i64 nd.kind, .string (mks nd.text), .bool nd.ord, .slice K1 nk ck, .slice I1 ni ci] [.int .i64 nd.kind, .string (mks nd.text), .bool nd.ord, .slice K2 nk2 ck2, .slice I2 ni2 ci2]
    have hN : Arr ((wr.alloc (.cells #[.int .i64 nd.kind, .string (mks nd.text), .bool nd.ord, .slice K1 nk ck, .slice I1 ni ci] 41)).alloc (.cells #[.int .i64 nd.kind, .string (mks nd.text), .bool nd.ord, .slice K2 nk2 ck2, .slice I2 ni2 ci2] 41)).drew wr.heap.size 41 [.int .i64 nd.kind, .string (mks nd.text), .bool nd.ord, .slice K1 nk ck, .slice I1 ni ci] := HN
    have hM : Arr ((wr.alloc (.cells #[.int .i64 nd.kind, .string (mks nd.text), .bool nd.ord, .slice K1 nk ck, .slice I1 ni ci] 41)).alloc (.cells #[.int .i64 nd.kind, .string (mks nd.text), .bool nd.ord, .slice K2 nk2 ck2, .slice I2 ni2 ci2] 41)).drew (wr.heap.size + 1) 41 [.int .i64 nd.kind, .string (mks nd.text), .bool nd.ord, .slice K2 nk2 ck2, .slice I2 ni2 ci2] := HM
    have hb11 : Below wr.heap.size wr ((wr.alloc (.cells #[.int .i64 nd.kind, .string (mks nd.text), .bool nd.ord, .slice K1 nk ck, .slice I1 ni ci] 41)).alloc (.cells #[.int .i64 nd.kind, .string (mks nd.text), .bool nd.ord, .slice K2 nk2 ck2, .slice I2 ni2 ci2] 41)).drew := hb2.drew
    clear HN HM hb2 hz2
    generalize ((wr.alloc (.cells #[.int .i64 nd.kind, .string (mks nd.text), .bool nd.ord, .slice K1 nk ck, .slice I1 ni ci] 41)).alloc (.cells #[.int .i64 nd.kind, .string (mks nd.text), .bool nd.ord, .slice K2 nk2 ck2, .slice I2 ni2 ci2] 41)).drew = w11 at *
    have hbw11 : Below w.heap.size w w11 := (HB.trans (hbr.mono HB.size)).trans (hb11.mono (Nat.le_trans HB.size hbr.size))
    have hbr11 : Below W.heap.size W w11 := hbr.trans (hb11.mono hbr.size)
    have hik : IntsKept w w11 (fun _ => True) := IntsKept.of_below hbw11
    have hK3 := hK.keep hik (fun _ h => h)
    have hK4 := hK'.keep hik (fun _ h => h)
    have hI3 := hI.keep hik (fun _ h => h)
    have hI4 := hI'.keep hik (fun _ h => h)
    have D1 := Lib.hid (ints_same nd.keys w11 K1 K2 ck ck2 nk nk2 hK3.2.1 hK4.2.1 hK3.1 hK4.1 (by have := hK3.1; omega))
    have D2 : Hid (∀ m, Calls Tryz.prog 61 #[.slice I1 ni ci, .slice I2 ni2 ci2] (w11.drewN m) fun e w' => e = .returned (.bool true) ∧ ∃ k, w' = (w11.drewN m).drewN k) := fun m => ints_same nd.items (w11.drewN m) I1 I2 ci ci2 ni ni2 hI3.2.1 hI4.2.1 hI3.1 hI4.1 (by have := hI3.1; omega)
    have s0 := hN.cell' (i := 0) rfl
    have s1 := hN.cell' (i := 1) rfl
    have s2 := hN.cell' (i := 2) rfl
    have s3 := hN.cell' (i := 3) rfl
    have s4 := hN.cell' (i := 4) rfl
    have t0 := hM.cell' (i := 0) rfl
    have t1 := hM.cell' (i := 1) rfl
    have t2 := hM.cell' (i := 2) rfl
    have t3 := hM.cell' (i := 3) rfl
    have t4 := hM.cell' (i := 4) rfl
    clear hK hK' hI hI' hK3 hK4 hI3 hI4 hik hN hM
    go_wp2_with (first | (go_at_call 61; (with_reducible refine D1.out.mono ?_); rintro e w12 ⟨rfl, j1, rfl⟩) | (go_at_call 61; (with_reducible refine (D2.out _).mono ?_); rintro e w12 ⟨rfl, j2, rfl⟩))
    go_roundw
    case rel => exact ⟨k + 1, by omega, i64e (by omega), Below.drewN' hbr11 _⟩
    case measure => simp [intOf]; omega
   ·obtain ⟨HN, HM, hb2, hz2⟩ := two_box wr 41 41 [.int .i64 nd.kind, .string (mks nd.text), .bool nd.ord, .slice K2 nk2 ck2, .slice I2 ni2 ci2] [.int .i64 nd.kind, .string (mks nd.text), .bool nd.ord, .slice K1 nk ck, .slice I1 ni ci]
    have hN : Arr ((wr.alloc (.cells #[.int .i64 nd.kind, .string (mks nd.text), .bool nd.ord, .slice K2 nk2 ck2, .slice I2 ni2 ci2] 41)).alloc (.cells #[.int .i64 nd.kind, .string (mks nd.text), .bool nd.ord, .slice K1 nk ck, .slice I1 ni ci] 41)).drew wr.heap.size 41 [.int .i64 nd.kind, .string (mks nd.text), .bool nd.ord, .slice K2 nk2 ck2, .slice I2 ni2 ci2] := HN
    have hM : Arr ((wr.alloc (.cells #[.int .i64 nd.kind, .string (mks nd.text), .bool nd.ord, .slice K2 nk2 ck2, .slice I2 ni2 ci2] 41)).alloc (.cells #[.int .i64 nd.kind, .string (mks nd.text), .bool nd.ord, .slice K1 nk ck, .slice I1 ni ci] 41)).drew (wr.heap.size + 1) 41 [.int .i64 nd.kind, .string (mks nd.text), .bool nd.ord, .slice K1 nk ck, .slice I1 ni ci] := HM
    have hb11 : Below wr.heap.size wr ((wr.alloc (.cells #[.int .i64 nd.kind, .string (mks nd.text), .bool nd.ord, .slice K2 nk2 ck2, .slice I2 ni2 ci2] 41)).alloc (.cells #[.int .i64 nd.kind, .string (mks nd.text), .bool nd.ord, .slice K1 nk ck, .slice I1 ni ci] 41)).drew := hb2.drew
    clear HN HM hb2 hz2
    generalize ((wr.alloc (.cells #[.int .i64 nd.kind, .string (mks nd.text), .bool nd.ord, .slice K2 nk2 ck2, .slice I2 ni2 ci2] 41)).alloc (.cells #[.int .i64 nd.kind, .string (mks nd.text), .bool nd.ord, .slice K1 nk ck, .slice I1 ni ci] 41)).drew = w11 at *
    have hbw11 : Below w.heap.size w w11 := (HB.trans (hbr.mono HB.size)).trans (hb11.mono (Nat.le_trans HB.size hbr.size))
    have hbr11 : Below W.heap.size W w11 := hbr.trans (hb11.mono hbr.size)
    have hik : IntsKept w w11 (fun _ => True) := IntsKept.of_below hbw11
    have hK3 := hK.keep hik (fun _ h => h)
    have hK4 := hK'.keep hik (fun _ h => h)
    have hI3 := hI.keep hik (fun _ h => h)
    have hI4 := hI'.keep hik (fun _ h => h)
    have D1 := Lib.hid (ints_same nd.keys w11 K1 K2 ck ck2 nk nk2 hK3.2.1 hK4.2.1 hK3.1 hK4.1 (by have := hK3.1; omega))
    have D2 : Hid (∀ m, Calls Tryz.prog 61 #[.slice I1 ni ci, .slice I2 ni2 ci2] (w11.drewN m) fun e w' => e = .returned (.bool true) ∧ ∃ k, w' = (w11.drewN m).drewN k) := fun m => ints_same nd.items (w11.drewN m) I1 I2 ci ci2 ni ni2 hI3.2.1 hI4.2.1 hI3.1 hI4.1 (by have := hI3.1; omega)
    have s0 := hN.cell' (i := 0) rfl
    have s1 := hN.cell' (i := 1) rfl
    have s2 := hN.cell' (i := 2) rfl
    have s3 := hN.cell' (i := 3) rfl
    have s4 := hN.cell' (i := 4) rfl
    have t0 := hM.cell' (i := 0) rfl
    have t1 := hM.cell' (i := 1) rfl
    have t2 := hM.cell' (i := 2) rfl
    have t3 := hM.cell' (i := 3) rfl
    have t4 := hM.cell' (i := 4) rfl
    clear hK hK' hI hI' hK3 hK4 hI3 hI4 hik hN hM
    go_wp2_with (first | (go_at_call 61; (with_reducible refine D1.out.mono ?_); rintro e w12 ⟨rfl, j1, rfl⟩) | (go_at_call 61; (with_reducible refine (D2.out _).mono ?_); rintro e w12 ⟨rfl, j2, rfl⟩))
    go_roundw
    case rel => exact ⟨k + 1, by omega, i64e (by omega), Below.drewN' hbr11 _⟩
    case measure => simp [intOf]; omega
theorem samegraph_true (nodes : List GNode) (hb : NB 65536 nodes) (hl : nodes.length ≤ 65536) (root : Int) (vn vn' : Value) (w : World) (hg : GrAt w vn nodes) (hg' : GrAt w vn' nodes) :
  Calls Tryz.prog 16 #[.agg #[vn, .int .i64 root], .agg #[vn', .int .i64 root]] w fun e w' => e = .returned (.bool true) ∧ Below w.heap.size w w' := by
 obtain ⟨b, ncs, ho, hr⟩ := id hg
 obtain ⟨b', ncs', ho', hr'⟩ := id hg'
 obtain ⟨A, c, hv, hnc, hcm⟩ := own_slice ho
 obtain ⟨A', c', hv', hnc', hcm'⟩ := own_slice ho'
 subst hv
 subst hv'
 clear ho hr ho' hr'
 obtain ⟨HX, HY, HB, HZ⟩ := two_box w 25 25 [.slice A nodes.length c, .int .i64 root] [.slice A' nodes.length c', .int .i64 root]
 go_enter Tryz.func16, Tryz.ntmps16
 go_upto_region 1 with (fail)
 have hX : Hid (Arr ((w.alloc (.cells #[.slice A nodes.length c, .int .i64 root] 25)).alloc (.cells #[.slice A' nodes.length c', .int .i64 root] 25)) w.heap.size 25 [.slice A nodes.length c, .int .i64 root]) := HX
 have hY : Hid (Arr ((w.alloc (.cells #[.slice A nodes.length c, .int .i64 root] 25)).alloc (.cells #[.slice A' nodes.length c', .int .i64 root] 25)) (w.heap.size + 1) 25 [.slice A' nodes.length c', .int .i64 root]) := HY
 clear HX HY HZ
 generalize ((w.alloc (.cells #[.slice A nodes.length c, .int .i64 root] 25)).alloc (.cells #[.slice A' nodes.length c', .int .i64 root] 25)) = W at *
 have x0 := hX.out.cell' (i := 0) rfl
 have x1 := hX.out.cell' (i := 1) rfl
 have y0 := hY.out.cell' (i := 0) rfl
 have y1 := hY.out.cell' (i := 1) rfl
 have D := Lib.hid (is_same nodes hb hl root (.slice A nodes.length c) (.slice A' nodes.length c') W (hg.keep HB) (hg'.keep HB))
 go_wp2_with (go_at_call 34; go_loud (refine D.out.mono ?_; rintro e w8 ⟨rfl, hb8⟩))
 go_ret
 exact ⟨rfl, HB.trans (hb8.mono HB.size)⟩
end Go.Proofs.YtbdnamcjhndpjaaGreatDoor
namespace Go.Proofs.YtbdnamcjhndpjaaGreatDoor
open Go.RowKit
def RowAt (w : World) (e : TypeId) (k : Nat) (v : Value) (n : Nat) (xs : List Value) : Prop := ∃ b, w.ownsRow b e k v n xs
theorem RowAt.keep {w w' : World} {e : TypeId} {k : Nat} {v : Value} {n : Nat} {xs : List Value} (h : RowAt w e k v n xs) (hb : Below w.heap.size w w') : RowAt w' e k v n xs := by
 obtain ⟨b, h1⟩ := h
 exact ⟨b, own_same h1 (fun g hg => hb.block g (h1.lt g hg).2)⟩
theorem notesC_get {l : List JNote} {k : Nat} {s : JNote} (h : l[k]? = some s) (j : Nat) (hj : j < 3) : (notesC l)[k * 3 + j]? = (noteC s)[j]? := by
 induction l generalizing k with
 | nil => cases h
 | cons x t ih =>
  unfold notesC at ih ⊢
  rw [List.flatMap_cons]
  cases k with
  | zero =>
   have : x = s := by simpa using h
   subst this
   rw [Nat.zero_mul, Nat.zero_add, List.getElem?_append_left (by simp [noteC]; omega)]
  | succ k =>
   rw [List.getElem?_append_right (by simp [noteC]; omega), show (k + 1) * 3 + j - (noteC x).length = k * 3 + j by simp [noteC]; omega]
   exact ih (by simpa using h)
set_option maxRecDepth 20000 in
set_option maxHeartbeats 4000000 in
theorem samedoc_true (s : List Nat) (nodes : List GNode) (spans : List JSpan) (notes : List JNote) (hb : NB 65536 nodes) (hl : nodes.length ≤ 65536) (vn vs vo vn' vs' vo' : Value) (w : World)
  (hg : GrAt w vn nodes) (hg' : GrAt w vn' nodes) (hs : RowAt w 38 9 vs spans.length (spansC spans)) (hs' : RowAt w 38 9 vs' spans.length (spansC spans))
  (ho : RowAt w 67 3 vo notes.length (notesC notes)) (ho' : RowAt w 67 3 vo' notes.length (notesC notes)) :
  Calls Tryz.prog 7 #[.agg #[.int .i64 0, .string (mks s), vn, .int .i64 0, vs, vo], .agg #[.int .i64 0, .string (mks s), vn', .int .i64 0, vs', vo']] w fun e w' => e = .returned (.bool true) ∧ Below w.heap.size w w' := by
 obtain ⟨b1, ncs1, ho1, _⟩ := id hg
 obtain ⟨b2, ncs2, ho2, _⟩ := id hg'
 obtain ⟨An, cn, hvn, _, _⟩ := own_slice ho1
 obtain ⟨An', cn', hvn', _, _⟩ := own_slice ho2
 obtain ⟨b3, hs1⟩ := id hs
 obtain ⟨b4, hs2⟩ := id hs'
 obtain ⟨b5, ho3⟩ := id ho
 obtain ⟨b6, ho4⟩ := id ho'
 obtain ⟨As, cs, hvs, hls1, hls2⟩ := own_slice hs1
 obtain ⟨As', cs', hvs', _, _⟩ := own_slice hs2
 obtain ⟨Ao, co, hvo, hlo1, hlo2⟩ := own_slice ho3
 obtain ⟨Ao', co', hvo', _, _⟩ := own_slice ho4
 subst hvn hvn' hvs hvs' hvo hvo'
 clear ho1 ho2 hs1 hs2 ho3 ho4
 have hls := Nat.le_trans hls1 hls2
 have hlo := Nat.le_trans hlo1 hlo2
 clear hls1 hls2 hlo1 hlo2
 unfold maxLen at hls hlo
 obtain ⟨nS, hnS⟩ : ∃ n, spans.length = n := ⟨_, rfl⟩
 obtain ⟨nO, hnO⟩ : ∃ n, notes.length = n := ⟨_, rfl⟩
 rw [hnS] at hs hs' hls ⊢
 rw [hnO] at ho ho' hlo ⊢
 have HNS := Lib.hid hnS
 have HNO := Lib.hid hnO
 clear hnS hnO
 obtain ⟨HX, HY, HB, HZ⟩ := two_box w 29 29 [.int .i64 0, .string (mks s), .slice An nodes.length cn, .int .i64 0, .slice As nS cs, .slice Ao nO co] [.int .i64 0, .string (mks s), .slice An' nodes.length cn', .int .i64 0, .slice As' nS cs', .slice Ao' nO co']
 have hgW := hg.keep HB
 have hgW' := hg'.keep HB
 have hsW := Lib.hid (hs.keep HB)
 have hsW' := Lib.hid (hs'.keep HB)
 have hoW := Lib.hid (ho.keep HB)
 have hoW' := Lib.hid (ho'.keep HB)
 clear hg hg' hs hs' ho ho'
 go_enter Tryz.func7, Tryz.ntmps7
 go_upto_region 1 with (fail)
 have hX : Hid (Arr ((w.alloc (.cells #[.int .i64 0, .string (mks s), .slice An nodes.length cn, .int .i64 0, .slice As nS cs, .slice Ao nO co] 29)).alloc (.cells #[.int .i64 0, .string (mks s), .slice An' nodes.length cn', .int .i64 0, .slice As' nS cs', .slice Ao' nO co'] 29)) w.heap.size 29 [.int .i64 0, .string (mks s), .slice An nodes.length cn, .int .i64 0, .slice As nS cs, .slice Ao nO co]) := HX
 have hY : Hid (Arr ((w.alloc (.cells #[.int .i64 0, .string (mks s), .slice An nodes.length cn, .int .i64 0, .slice As nS cs, .slice Ao nO co] 29)).alloc (.cells #[.int .i64 0, .string (mks s), .slice An' nodes.length cn', .int .i64 0, .slice As' nS cs', .slice Ao' nO co'] 29)) (w.heap.size + 1) 29 [.int .i64 0, .string (mks s), .slice An' nodes.length cn', .int .i64 0, .slice As' nS cs', .slice Ao' nO co']) := HY
 clear HX HY HZ
 have D := Lib.hid (samegraph_true nodes hb hl 0 _ _ _ hgW hgW')
 clear hgW hgW'
 have HB' : Below w.heap.size w ((w.alloc (.cells #[.int .i64 0, .string (mks s), .slice An nodes.length cn, .int .i64 0, .slice As nS cs, .slice Ao nO co] 29)).alloc (.cells #[.int .i64 0, .string (mks s), .slice An' nodes.length cn', .int .i64 0, .slice As' nS cs', .slice Ao' nO co'] 29)) := HB
 clear HB
 change Hid (Calls Tryz.prog 16 #[.agg #[.slice An nodes.length cn, .int .i64 0], .agg #[.slice An' nodes.length cn', .int .i64 0]] ((w.alloc (.cells #[.int .i64 0, .string (mks s), .slice An nodes.length cn, .int .i64 0, .slice As nS cs, .slice Ao nO co] 29)).alloc (.cells #[.int .i64 0, .string (mks s), .slice An' nodes.length cn', .int .i64 0, .slice As' nS cs', .slice Ao' nO co'] 29)) _) at D
 change Hid (RowAt ((w.alloc (.cells #[.int .i64 0, .string (mks s), .slice An nodes.length cn, .int .i64 0, .slice As nS cs, .slice Ao nO co] 29)).alloc (.cells #[.int .i64 0, .string (mks s), .slice An' nodes.length cn', .int .i64 0, .slice As' nS cs', .slice Ao' nO co'] 29)) _ _ _ _ _) at hsW hsW' hoW hoW'
 generalize ((w.alloc (.cells #[.int .i64 0, .string (mks s), .slice An nodes.length cn, .int .i64 0, .slice As nS cs, .slice Ao nO co] 29)).alloc (.cells #[.int .i64 0, .string (mks s), .slice An' nodes.length cn', .int .i64 0, .slice As' nS cs', .slice Ao' nO co'] 29)) = W at *
 have hl1 := hX.out.lt
 have hl2 := hY.out.lt
 obtain ⟨bY, hbY⟩ : ∃ b, w.heap.size + 1 = b := ⟨_, rfl⟩
 rw [hbY] at hY hl2 ⊢
 have l1 : w.heap.size < bY := by omega
 clear hbY
 have x0 := hX.out.cell' (i := 0) rfl
 have y0 := hY.out.cell' (i := 0) rfl
 have x1 := hX.out.cell' (i := 1) rfl
 have y1 := hY.out.cell' (i := 1) rfl
 have x2 := hX.out.cell' (i := 2) rfl
 have y2 := hY.out.cell' (i := 2) rfl
 have x3 := hX.out.cell' (i := 3) rfl
 have y3 := hY.out.cell' (i := 3) rfl
 have x4 := hX.out.cell' (i := 4) rfl
 have y4 := hY.out.cell' (i := 4) rfl
 have x5 := hX.out.cell' (i := 5) rfl
 have y5 := hY.out.cell' (i := 5) rfl
 go_upto_region 3 with (go_at_call 16; ((with_reducible refine D.out.mono ?_)); rintro e w8 ⟨rfl, hb8⟩; have hX8 := hX.out.keep hb8; have hY8 := hY.out.keep hb8; have x48 := hX8.cell' (i := 4) rfl; have x58 := hX8.cell' (i := 5) rfl; have y48 := hY8.cell' (i := 4) rfl; have y58 := hY8.cell' (i := 5) rfl)
 clear x0 x1 x2 x3 x4 x5 y0 y1 y2 y3 y4 y5 x48 x58 y48 y58
 have HX8 := Lib.hid hX8
 have HY8 := Lib.hid hY8
 clear hX8 hY8 D
 go_wp2_with (fail)
 go_loopw [5] (fun v wr => ∃ k : Nat, k ≤ nS ∧ v = .int .i64 (k : Int) ∧ Below W.heap.size W wr) (fun v _ => nS - (intOf v).toNat)
 case atStart => exact ⟨0, by omega, rfl, hb8⟩
 case round =>
  obtain ⟨k, hk, rfl, hbr⟩ := hrel
  have hXr := hX.out.keep hbr
  have hYr := hY.out.keep hbr
  have x4 := hXr.cell' (i := 4) rfl
  have y4 := hYr.cell' (i := 4) rfl
  by_cases h0 : k = nS
  ·have h0' : ¬ (k : Int) < nS := by omega
   have HXr := Lib.hid hXr
   have HYr := Lib.hid hYr
   clear h0 hXr hYr
   go_wp2_with (fail)
   go_loopw [6] (fun v wr => ∃ k : Nat, k ≤ nO ∧ v = .int .i64 (k : Int) ∧ Below W.heap.size W wr) (fun v _ => nO - (intOf v).toNat)
   case atStart => exact ⟨0, by omega, rfl, hbr⟩
   case round =>
    obtain ⟨k, hk, rfl, hbr⟩ := hrel
    have hXr := hX.out.keep hbr
    have hYr := hY.out.keep hbr
    have x5 := hXr.cell' (i := 5) rfl
    have y5 := hYr.cell' (i := 5) rfl
    by_cases h0 : k = nO
    ·have h0' : ¬ (k : Int) < nO := by omega
     clear h0
     go_wp2
     go_ret
     exact ⟨rfl, HB'.trans (hbr.mono HB'.size)⟩
    ·have h0' : (k : Int) < nO := by omega
     obtain ⟨sp, hsp⟩ : ∃ sp, notes[k]? = some sp := ⟨_, List.getElem?_eq_getElem (by have := HNO.out; omega)⟩
     obtain ⟨b3, hs1⟩ := hoW.out.keep hbr
     obtain ⟨b4, hs2⟩ := hoW'.out.keep hbr
     obtain ⟨g, cg, hvg, _, _⟩ := own_slice0 hs1 (by omega)
     obtain ⟨g', cg', hvg', _, _⟩ := own_slice0 hs2 (by omega)
     injection hvg with hA _ hc
     injection hvg' with hA' _ hc'
     subst hA hA' hc hc'
     have a0 := (own_cell hs1 ((notesC_get hsp 0 (by omega)).trans rfl)).1
     have c0 := (own_cell hs2 ((notesC_get hsp 0 (by omega)).trans rfl)).1
     have a1 := (own_cell hs1 ((notesC_get hsp 1 (by omega)).trans rfl)).1
     have c1 := (own_cell hs2 ((notesC_get hsp 1 (by omega)).trans rfl)).1
     have a2 := (own_cell hs1 ((notesC_get hsp 2 (by omega)).trans rfl)).1
     have c2 := (own_cell hs2 ((notesC_get hsp 2 (by omega)).trans rfl)).1
     rw [Nat.add_zero] at a0 c0
     have hwb : Below W.heap.size W wr := hbr
     have k1 : (0 : Int) ≤ k := by omega
     have HXr := Lib.hid hXr
     have HYr := Lib.hid hYr
     clear h0 hXr hYr hs1 hs2 hsp
     go_upto_region 11 with (fail)
     go_quiet (fail)
     go_wp2_with (fail)
     go_roundw
     case rel => exact ⟨k + 1, by omega, i64e (by omega), Below.drewN' hwb _⟩
     case measure => simp [intOf]; omega
  ·have h0' : (k : Int) < nS := by omega
   obtain ⟨sp, hsp⟩ : ∃ sp, spans[k]? = some sp := ⟨_, List.getElem?_eq_getElem (by have := HNS.out; omega)⟩
   obtain ⟨b3, hs1⟩ := hsW.out.keep hbr
   obtain ⟨b4, hs2⟩ := hsW'.out.keep hbr
   obtain ⟨g, cg, hvg, _, _⟩ := own_slice0 hs1 (by omega)
   obtain ⟨g', cg', hvg', _, _⟩ := own_slice0 hs2 (by omega)
   injection hvg with hA _ hc
   injection hvg' with hA' _ hc'
   subst hA hA' hc hc'
   have a0 := (own_cell hs1 ((spansC_get hsp 0 (by omega)).trans rfl)).1
   have c0 := (own_cell hs2 ((spansC_get hsp 0 (by omega)).trans rfl)).1
   have a1 := (own_cell hs1 ((spansC_get hsp 1 (by omega)).trans rfl)).1
   have c1 := (own_cell hs2 ((spansC_get hsp 1 (by omega)).trans rfl)).1
   have a2 := (own_cell hs1 ((spansC_get hsp 2 (by omega)).trans rfl)).1
   have c2 := (own_cell hs2 ((spansC_get hsp 2 (by omega)).trans rfl)).1
   have a3 := (own_cell hs1 ((spansC_get hsp 3 (by omega)).trans rfl)).1
   have c3 := (own_cell hs2 ((spansC_get hsp 3 (by omega)).trans rfl)).1
   have a4 := (own_cell hs1 ((spansC_get hsp 4 (by omega)).trans rfl)).1
   have c4 := (own_cell hs2 ((spansC_get hsp 4 (by omega)).trans rfl)).1
   have a5 := (own_cell hs1 ((spansC_get hsp 5 (by omega)).trans rfl)).1
   have c5 := (own_cell hs2 ((spansC_get hsp 5 (by omega)).trans rfl)).1
   have a6 := (own_cell hs1 ((spansC_get hsp 6 (by omega)).trans rfl)).1
   have c6 := (own_cell hs2 ((spansC_get hsp 6 (by omega)).trans rfl)).1
   have a7 := (own_cell hs1 ((spansC_get hsp 7 (by omega)).trans rfl)).1
   have c7 := (own_cell hs2 ((spansC_get hsp 7 (by omega)).trans rfl)).1
   have a8 := (own_cell hs1 ((spansC_get hsp 8 (by omega)).trans rfl)).1
   have c8 := (own_cell hs2 ((spansC_get hsp 8 (by omega)).trans rfl)).1
   rw [Nat.add_zero] at a0 c0
   have hwb : Below W.heap.size W wr := hbr
   have k1 : (0 : Int) ≤ k := by omega
   have HXr := Lib.hid hXr
   have HYr := Lib.hid hYr
   clear h0 hXr hYr hs1 hs2 hsp
   go_upto_region 6 with (fail)
   go_quiet (fail)
   go_wp2_with (fail)
   go_roundw
   case rel => exact ⟨k + 1, by omega, i64e (by omega), Below.drewN' hwb _⟩
   case measure => simp [intOf]; omega
end Go.Proofs.YtbdnamcjhndpjaaGreatDoor
