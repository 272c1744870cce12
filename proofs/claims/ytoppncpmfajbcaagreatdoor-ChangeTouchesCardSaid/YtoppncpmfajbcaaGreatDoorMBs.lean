/- The walks of change.arguments and change.insertion. -/
import Derived.Test.YtoppncpmfajbcaaGreatDoorMBm
import Derived.Test.YtoppncpmfajbcaaGreatDoorMBr
set_option linter.unusedVariables false
set_option linter.unusedSimpArgs false
set_option linter.defProp false
set_option linter.constructorNameAsVariable false
namespace Go.Proofs.YtoppncpmfajbcaaGreatDoor
open Go.RowKit
def chV (op : Int) (A : Option Addr) (m cp gv ov mv cv rM : Nat) : Value := .agg #[.int .i64 op, .slice A m cp, .slice (some ⟨gv, ov, none⟩) mv cv, .int .i64 (rM : Int)]
set_option maxRecDepth 20000 in
set_option maxHeartbeats 8000000 in
theorem cargs_any {B g o c r gv ov cv rM m cp : Nat} {op : Int} {N M : List GNode} (A : Option Addr) (hop : op = 1 ∨ op = 2) (hm : 0 < m) (hM : 0 < M.length) (hO : ChkOK N (r : Int)) (hz : chkV N (r : Int) = 0) (hOM : ChkOK M (rM : Int)) (hzM : chkV M (rM : Int) = 0) (w : World) (hw : LibE w) (hG : GRd w B g o N) (hV : GRd w B gv ov M) :
  Calls Tryz.prog 32 #[.agg #[.slice (some ⟨g, o, none⟩) N.length c, .int .i64 (r : Int)], chV op A m cp gv ov M.length cv rM] w fun e w' => e = .returned (.int .i64 0) ∧ Below w.heap.size w w' := by
 unfold chV
 obtain ⟨n, hn⟩ : ∃ n, N.length = n := ⟨_, rfl⟩
 obtain ⟨mv, hmv⟩ : ∃ n, M.length = n := ⟨_, rfl⟩
 have HG := Lib.hid hG
 have HV := Lib.hid hV
 have HW := Lib.hid hw
 have hBw := hG.2.1
 have D1 := Lib.hid (fun (w' : World) (h : LibE w') (h' : GRd w' B g o N) => gcheck_any (c := c) hO w' h h')
 have D2 := Lib.hid (fun (w' : World) (h : LibE w') (h' : GRd w' B gv ov M) => gcheck_any (c := cv) hOM w' h h')
 rw [hz, hn] at D1
 rw [hzM, hmv] at D2
 rw [hn, hmv]
 rw [hmv] at hM
 have hmz : ¬ (m : Int) = 0 := by omega
 have hvz : ¬ (mv : Int) = 0 := by omega
 clear hO hOM hz hzM hG hV hw hn hmv hm hM
 obtain ⟨h2, h3, hb1, hz1⟩ := box2 w 26 28 [.slice (some ⟨g, o, none⟩) n c, .int .i64 (r : Int)] [.int .i64 op, .slice A m cp, .slice (some ⟨gv, ov, none⟩) mv cv, .int .i64 (rM : Int)]
 go_enter Tryz.func32, Tryz.ntmps32
 go_upto_region 1 with (fail)
 obtain ⟨gb, hgb⟩ : ∃ x, w.heap.size = x := ⟨_, rfl⟩
 have HGB := Lib.hid hgb
 have HB1 := Lib.hid hb1
 generalize ((w.alloc (.cells #[.slice (some ⟨g, o, none⟩) n c, .int .i64 (r : Int)] 26)).alloc (.cells #[.int .i64 op, .slice A m cp, .slice (some ⟨gv, ov, none⟩) mv cv, .int .i64 (rM : Int)] 28)) = W at *
 rw [hgb] at h2 h3 hz1 HB1 hBw ⊢
 clear hgb hb1
 have hG1 := Lib.hid (HG.out.below HB1.out hBw)
 have hV1 := Lib.hid (HV.out.below HB1.out hBw)
 have hW1 := Lib.hid (HW.out.keep (by rw [HGB.out]; exact HB1.out))
 have hgl := h3.out.lt
 have x0 := h2.out.cell' (i := 0) rfl
 have x1 := h2.out.cell' (i := 1) rfl
 go_upto_region 3 with (go_at_call 30; ((with_reducible refine (D1.out _ hW1.out hG1.out).mono ?_)); rintro e w2 ⟨rfl, hb2⟩)
 have h3b := Lib.hid (h3.out.keep hb2)
 have HB2 := Lib.hid (HB1.out.trans (hb2.mono (by omega)))
 have hV2 := Lib.hid (hV1.out.below hb2 (by omega))
 have hW2 := Lib.hid (hW1.out.keep hb2)
 have hs2 := hb2.size
 clear x0 x1 h2 h3 HB1 hb2 hG1 hV1 hW1 D1 hz1
 have y0 := h3b.out.cell' (i := 0) rfl
 have y1 := h3b.out.cell' (i := 1) rfl
 have y2 := h3b.out.cell' (i := 2) rfl
 have y3 := h3b.out.cell' (i := 3) rfl
 have hgw : gb ≤ w2.heap.size := by omega
 rcases hop with rfl | rfl
 all_goals
  go_wp2_with (go_at_call 30; ((with_reducible refine (D2.out _ hW2.out hV2.out).mono ?_)); rintro e w3 ⟨rfl, hb3⟩)
  go_ret
  exact ⟨rfl, by rw [HGB.out]; exact HB2.out.trans (hb3.mono hgw)⟩
set_option maxRecDepth 20000 in
set_option maxHeartbeats 8000000 in
theorem cins_any {B g o c k idx : Nat} {nodes : List GNode} {root : Int} (hN : nodes.length ≤ 4096) (hk : k < nodes.length) (h9 : (ndAt nodes k).kind = 9) (hix : (ndAt nodes k).items.length < idx) (w : World) (hG : GRd w B g o nodes) :
  Calls Tryz.prog 33 #[.agg #[.slice (some ⟨g, o, none⟩) nodes.length c, .int .i64 root], .int .i64 (k : Int), .agg #[.int .i64 (idx : Int), .string (mks [])]] w fun e w' => e = .returned (.int .i64 2) ∧ Below w.heap.size w w' := by
 have hkn := hk
 obtain ⟨n, hn⟩ : ∃ n, nodes.length = n := ⟨_, rfl⟩
 rw [hn] at hkn hN ⊢
 obtain ⟨h1, h2, hb1, hz1⟩ := box2 w 26 36 [.slice (some ⟨g, o, none⟩) n c, .int .i64 root] [.int .i64 (idx : Int), .string (mks [])]
 have HG := Lib.hid (hG.below hb1 hG.2.1)
 obtain ⟨K, ck, I, ci, d0, d1, d2, d3, d4, _, _⟩ := HG.out.of_at hk
 rw [h9] at d0
 generalize hnd : ndAt nodes k = nd at *
 clear hnd
 clear hn h9 HG hG hk
 have hk' : (k : Int) < n := by omega
 have hk0 : (0 : Int) ≤ k := by omega
 go_enter Tryz.func33, Tryz.ntmps33
 go_upto_region 1 with (fail)
 obtain ⟨gb, hgb⟩ : ∃ x, w.heap.size = x := ⟨_, rfl⟩
 have HGB := Lib.hid hgb
 have HBd := Lib.hid hb1
 generalize ((w.alloc (.cells #[.slice (some ⟨g, o, none⟩) n c, .int .i64 root] 26)).alloc (.cells #[.int .i64 (idx : Int), .string (mks [])] 36)) = W at *
 rw [hgb] at h1 h2 hz1 HBd ⊢
 clear hgb hb1
 have x0 := h1.out.cell' (i := 0) rfl
 have hb2 : Below W.heap.size W (W.alloc (.cells #[.int .i64 9, .string (mks nd.text), .bool nd.ord, .slice K nd.keys.length ck, .slice I nd.items.length ci] 34)) := (Below.refl _ _).alloc (Nat.le_refl _) _
 have hgW : gb ≤ W.heap.size := by have := hz1.out; omega
 have HB2 := Lib.hid (HBd.out.trans (hb2.mono hgW))
 have hi0 : ¬ (idx : Int) < 0 := by omega
 have hi1 : (nd.items.length : Int) < idx := by omega
 have hN2 := Lib.hid (Arr.new W 34 [.int .i64 9, .string (mks nd.text), .bool nd.ord, .slice K nd.keys.length ck, .slice I nd.items.length ci])
 have h2' := Lib.hid (h2.out.keep hb2)
 go_upto_region 2 with (fail)
 clear x0 d0 d1 d2 d3 d4
 generalize (W.alloc (.cells #[.int .i64 9, .string (mks nd.text), .bool nd.ord, .slice K nd.keys.length ck, .slice I nd.items.length ci] 34)) = W2 at *
 have y0 := h2'.out.cell' (i := 0) rfl
 have n0 := hN2.out.cell' (i := 0) rfl
 have n4 := hN2.out.cell' (i := 4) rfl
 go_wp2
 go_ret
 exact ⟨rfl, by rw [HGB.out]; exact HB2.out⟩
end Go.Proofs.YtoppncpmfajbcaaGreatDoor
namespace Go.Proofs.YtoppncpmfajbcaaGreatDoor
open Go.RowKit
structure PerfC (N M : List GNode) (r rM x0 x1 i0 i1 : Nat) (l : List Int) (N3 : List GNode) : Prop where
 b : BuiltC N M r rM x0 x1 i0 i1 l N3
 lead : LeadOK N r [i0]
 ll : leadL N r [i0] 1 = [(x0 : Int), (x1 : Int)]
 k91 : (ndAt N x1).kind = 9
 cN : ChkOK N (r : Int)
 zN : chkV N (r : Int) = 0
 cM : ChkOK M (rM : Int)
 zM : chkV M (rM : Int) = 0
def PerfE (w : World) (n : Nat) (N3 : List GNode) (e : Ending) (w' : World) : Prop := ∃ om, e = .returned (.tuple #[.agg #[.slice (some ⟨om, 0, none⟩) n n, .int .i64 0], .int .i64 0]) ∧ Below w.heap.size w w' ∧ GK w' om N3 ∧ N3.length = n
theorem PRd_take {w : World} {A : Option Addr} {i0 i1 : Nat} (h : PRd w A (ixP [i0, i1])) : PRd w A (ixP [i0]) := fun i s hs => h i s (by
 match i, hs with
 | 0, hs => exact hs)
set_option maxRecDepth 20000 in
set_option maxHeartbeats 16000000 in
theorem perform_set {B g o c r n gv ov cv rM m x0 x1 i0 i1 cp : Nat} {N M N3 : List GNode} {l : List Int} {A : Option Addr} (hcp : 2 ≤ cp) (hC : PerfC N M r rM x0 x1 i0 i1 l N3) (hn : N.length = n) (hm : M.length = m) (w : World) (hw : LibE w) (hG : GRd w B g o N) (hV : GRd w B gv ov M) (hA : PRd w A (ixP [i0, i1])) :
  Calls Tryz.prog 20 #[.agg #[.slice (some ⟨g, o, none⟩) n c, .int .i64 (r : Int)], chV 1 A 2 cp gv ov m cv rM] w (PerfE w l.length N3) := by
 have HC := Lib.hid hC
 have HN := Lib.hid hn
 have HM := Lib.hid hm
 have HW := Lib.hid hw
 have hBw := hG.2.1
 have HG := Lib.hid hG
 have HV := Lib.hid hV
 have HA := Lib.hid hA
 have hn4 : n ≤ 4096 := by have := hC.b.len; omega
 have hrn : r < n := by have := hC.b.rt; omega
 have hx1 : x1 < n := by have := hC.b.hx1; omega
 have hmp : 0 < m := by have := hC.b.mrt; omega
 have hi1l := hC.b.hi1
 have hil := (hC.b.nl x1 hC.b.hx1).2
 have D1 := Lib.hid (fun (w' : World) (h : LibE w') (h1 : GRd w' B g o N) (h2 : GRd w' B gv ov M) => cargs_any (c := c) (cv := cv) (m := 2) (cp := cp) (op := 1) A (.inl rfl) (by omega) (by have := hC.b.mrt; omega) hC.cN hC.zN hC.cM hC.zM w' h h1 h2)
 have D2 := Lib.hid (fun (w' : World) (h1 : GRd w' B g o N) (h2 : PRd w' A (ixP [i0])) => lead_any (c := c) (cp := cp) (m := 1) A hC.b.idx hC.b.nl hC.b.len hC.lead rfl (by omega) hC.b.rt w' h1 h2)
 have D3 := Lib.hid (fun (w' : World) (h1 : GRd w' B g o N) => place_any (c := c) (root := (r : Int)) (idx := i1) hC.b.nl hC.b.len hC.b.hx1 hC.k91 (by omega) w' h1)
 have D4 := Lib.hid (fun (L : Option Addr) (cl : Nat) (w' : World) (h : LibE w') (h1 : GRd w' B g o N) (h2 : GRd w' B gv ov M) (h3 : PRd w' A (ixP [i0, i1])) (h4 : Rd w' L (I64 [(x0 : Int), (x1 : Int)])) => built_any (c := c) (cv := cv) (cp := cp) (cl := cl) hC.b hn hm w' h h1 h2 h3 h4)
 rw [hC.ll] at D2
 rw [if_pos hi1l] at D3
 rw [hn] at D1 D2 D3
 rw [hm] at D1
 unfold chV at D1 ⊢
 obtain ⟨_, ad, hAd, _, _⟩ := hA 0 _ rfl
 subst hAd
 clear hC hn hm hw hG hV hA
 obtain ⟨h2, h3, h4, hb1, hz1⟩ := box3 w 26 28 26 [.slice (some ⟨g, o, none⟩) n c, .int .i64 (r : Int)] [.int .i64 1, .slice (some ad) 2 cp, .slice (some ⟨gv, ov, none⟩) m cv, .int .i64 (rM : Int)] [.slice none 0 0, .int .i64 0]
 go_enter Tryz.func20, Tryz.ntmps20
 go_upto_region 1 with (fail)
 obtain ⟨gb, hgb⟩ : ∃ x, w.heap.size = x := ⟨_, rfl⟩
 have HGB := Lib.hid hgb
 have HB1 := Lib.hid hb1
 generalize (((w.alloc (.cells #[.slice (some ⟨g, o, none⟩) n c, .int .i64 (r : Int)] 26)).alloc (.cells #[.int .i64 1, .slice (some ad) 2 cp, .slice (some ⟨gv, ov, none⟩) m cv, .int .i64 (rM : Int)] 28)).alloc (.cells #[.slice none 0 0, .int .i64 0] 26)) = W at *
 rw [hgb] at h2 h3 h4 hz1 HB1 hBw ⊢
 clear hgb hb1
 have h4' : Hid (Arr W (gb + 1 + 1) 26 [.slice none 0 0, .int .i64 0]) := h4
 obtain ⟨b4, hb4⟩ : ∃ x, gb + 1 + 1 = x := ⟨_, rfl⟩
 rw [hb4] at h4' ⊢
 have o4 : gb + 1 < b4 := by omega
 have hgl : b4 < W.heap.size := h4'.out.lt
 clear hb4 h4 hz1
 have hG1 := Lib.hid (HG.out.below HB1.out hBw)
 have hV1 := Lib.hid (HV.out.below HB1.out hBw)
 have hW1 := Lib.hid (HW.out.keep (by rw [HGB.out]; exact HB1.out))
 have x0' := h2.out.cell' (i := 0) rfl
 have x1' := h2.out.cell' (i := 1) rfl
 have y0 := h3.out.cell' (i := 0) rfl
 have y1 := h3.out.cell' (i := 1) rfl
 have y2 := h3.out.cell' (i := 2) rfl
 have y3 := h3.out.cell' (i := 3) rfl
 go_upto_region 4 with (go_at_call 32; ((with_reducible refine (D1.out _ hW1.out hG1.out hV1.out).mono ?_)); rintro e w2 ⟨rfl, hb2⟩)
 have h2b := Lib.hid (h2.out.keep hb2)
 have h3b := Lib.hid (h3.out.keep hb2)
 have h4b := Lib.hid (h4'.out.keep hb2)
 have HB2 := Lib.hid (HB1.out.trans (hb2.mono (by omega)))
 have hG2 := Lib.hid (hG1.out.below hb2 (by omega))
 have hV2 := Lib.hid (hV1.out.below hb2 (by omega))
 have hW2 := Lib.hid (hW1.out.keep hb2)
 have hA2 := Lib.hid (HA.out.keep (by rw [HGB.out]; exact HB2.out))
 have hs2 := hb2.size
 clear x0' x1' y0 y1 y2 y3 h2 h3 h4' HB1 hb2 hG1 hV1 hW1 D1
 have y0 := h3b.out.cell' (i := 0) rfl
 have y1 := h3b.out.cell' (i := 1) rfl
 go_upto_region 7 with (fail)
 clear y0 y1
 obtain ⟨z, hz⟩ : ∃ z, w2.heap.size = z := ⟨_, rfl⟩
 have HZ := Lib.hid hz
 have hzb : b4 < z := by omega
 have r0 : ∀ w', Below z w2 w' → w'.cell? ⟨gb, 0, none⟩ = some (.slice (some ⟨g, o, none⟩) n c) := fun w' h => (h2b.out.below h (by omega)).cell' (i := 0) rfl
 have r1 : ∀ w', Below z w2 w' → w'.cell? ⟨gb, 1, none⟩ = some (.int .i64 (r : Int)) := fun w' h => (h2b.out.below h (by omega)).cell' (i := 1) rfl
 have r2 : ∀ w', Below z w2 w' → w'.cell? ⟨gb + 1, 1, none⟩ = some (.slice (some ad) 2 cp) := fun w' h => (h3b.out.below h (by omega)).cell' (i := 1) rfl
 have DL := Lib.hid (fun w' (h : Below z w2 w') => D2.out w' (hG2.out.below h (by omega)) (PRd_take (hA2.out.keep (by rw [HZ.out]; exact h))))
 have hS2 : Below z w2 w2 := Below.refl _ _
 have hS2d : Below z w2 w2.drew := (Below.refl _ _).drew
 have hzs : z ≤ w2.heap.size := by omega
 have hzs2 : z ≤ w2.drew.heap.size := hzs
 clear hz
 have hc1 : (1 : Int) ≤ cp := by omega
 have hc2 : ¬ (cp : Int) < 1 := by omega
 have hc3 : 1 ≤ cp := by omega
 have hc4 : ¬ cp < 1 := by omega
 go_region_held3 (fun w' => Below z w2 w') (first | assumption | go_keep)
  (first | (go_at_call 27; ((with_reducible refine (DL.out _ (by first | assumption)).mono ?_)); rintro e w5 ⟨lv, rfl, hrow5, hb5⟩; have hS5 : Below z w2 w5 := Below.trans (by first | assumption) (hb5.mono (by first | assumption)); have hzs5 : z ≤ w5.heap.size := Nat.le_trans (by first | assumption) hb5.size))
 clear r0 r1 r2 DL hS2 hS2d hc1 hc2 hc3 hc4
 have hrow6 : w5.ownsRow 0 3 1 lv 2 (I64 [(x0 : Int), (x1 : Int)]) := own_lo hrow5 (Nat.zero_le _)
 obtain ⟨lb, cl, hlv, _, _⟩ := own_some hrow6 (by omega)
 subst hlv
 have l1 := (own_cell1 hrow6 (i := 1) rfl).1
 obtain ⟨A0, c0, he0, _, _, _, hrd0, _⟩ := own_rd hrow6
 have hRl : Hid (Rd w5 (some ⟨lb, 0, none⟩) (I64 [(x0 : Int), (x1 : Int)])) := by injection he0 with e1 _ _; rw [e1]; exact hrd0
 clear he0 hrd0 hrow6 hrow5
 have h2c := Lib.hid (h2b.out.below hS5 (by omega))
 have h3c := Lib.hid (h3b.out.below hS5 (by omega))
 have h4c := Lib.hid (h4b.out.below hS5 (by omega))
 have HB5 := Lib.hid (HB2.out.trans (hS5.mono (by omega)))
 have hA5 := HA.out.keep (by rw [HGB.out]; exact HB5.out)
 obtain ⟨_, adp, hadp, p0, p1⟩ := hA5 1 _ (ixP_get (idxs := [i0, i1]) (i := 1) (by simp))
 obtain rfl := Option.some.inj hadp
 have p0a : w5.cell? ⟨ad.block, ad.off + 2, none⟩ = some (.int .i64 (i1 : Int)) := p0
 have p1a : w5.cell? ⟨ad.block, ad.off + 2 + 1, none⟩ = some (.string (mks [])) := p1
 clear p0 p1 hA5 hadp
 have y1 := h3c.out.cell' (i := 1) rfl
 have hb6 : Below w5.heap.size w5 (w5.alloc (.cells #[.int .i64 (i1 : Int), .string (mks [])] 36)) := (Below.refl _ _).alloc (Nat.le_refl _) _
 have hS6 := Lib.hid (Arr.new w5 36 [.int .i64 (i1 : Int), .string (mks [])])
 go_upto_region 12 with (fail)
 clear l1 p0a p1a y1
 have h2d := Lib.hid (h2c.out.keep hb6)
 have h3d := Lib.hid (h3c.out.keep hb6)
 have h4d := Lib.hid (h4c.out.keep hb6)
 have hRd := Lib.hid (hRl.out.keep hb6)
 have HB6 := Lib.hid (HB5.out.trans (hb6.mono (by omega)))
 have hG6 := Lib.hid (HG.out.below HB6.out hBw)
 obtain ⟨b11, hb11⟩ : ∃ x, w5.heap.size = x := ⟨_, rfl⟩
 generalize (w5.alloc (.cells #[.int .i64 (i1 : Int), .string (mks [])] 36)) = w6 at *
 rw [hb11] at hS6 ⊢
 have hz6 : z ≤ w6.heap.size := by have := hS6.out.lt; omega
 clear hb11 hb6 h2c h3c h4c hRl HB5 h2b h3b h4b hG2 hV2 hW2 hA2 HB2
 have g0 := h2d.out.cell' (i := 0) rfl
 have g1 := h2d.out.cell' (i := 1) rfl
 have s0 := hS6.out.cell' (i := 0) rfl
 have s1 := hS6.out.cell' (i := 1) rfl
 go_upto_region 13 with (go_at_call 28; ((with_reducible refine (D3.out _ hG6.out).mono ?_)); rintro e w7 ⟨rfl, hb7⟩)
 clear g0 g1 s0 s1
 have h2e := Lib.hid (h2d.out.keep hb7)
 have h3e := Lib.hid (h3d.out.keep hb7)
 have h4e := Lib.hid (h4d.out.keep hb7)
 have hRe := Lib.hid (hRd.out.keep hb7)
 have HB7 := Lib.hid (HB6.out.trans (hb7.mono (by omega)))
 have hG7 := Lib.hid (HG.out.below HB7.out hBw)
 have hV7 := Lib.hid (HV.out.below HB7.out hBw)
 have hW7 := Lib.hid (HW.out.keep (by rw [HGB.out]; exact HB7.out))
 have hA7 := Lib.hid (HA.out.keep (by rw [HGB.out]; exact HB7.out))
 have hz7 : z ≤ w7.heap.size := Nat.le_trans hz6 hb7.size
 clear hb7 h2d h3d h4d hRd HB6 hG6 hS6
 have g0 := h2e.out.cell' (i := 0) rfl
 have g1 := h2e.out.cell' (i := 1) rfl
 have y0 := h3e.out.cell' (i := 0) rfl
 have y1 := h3e.out.cell' (i := 1) rfl
 have y2 := h3e.out.cell' (i := 2) rfl
 have y3 := h3e.out.cell' (i := 3) rfl
 have hi1n : ¬ (i1 : Int) < 0 := by omega
 go_upto_region 24 with (fail)
 go_upto_region 25 with (go_at_call 34; ((with_reducible refine (D4.out _ _ _ hW7.out hG7.out hV7.out hA7.out hRe.out).mono ?_)); rintro e w9 ⟨om, ncs9, rfl, hb9, hom9, hA9, hN9, hl9⟩; have hR9 := Lib.hid (h4e.out.keep hb9); have c0 := hR9.out.cell' (i := 0) rfl; have c1 := hR9.out.cell' (i := 1) rfl; have f0 := hR9.out.frozen 0; have f1 := hR9.out.frozen 1)
 obtain ⟨q, hq⟩ : ∃ q, l.length = q := ⟨_, rfl⟩
 rw [hq] at hl9 ⊢
 clear hq
 have hK9 := gk_arr hA9 hN9
 have hRF := Lib.hid ((hR9.out.store 0 (.slice (some ⟨om, 0, none⟩) q q)).store 1 (.int .i64 0))
 have HB9 := Lib.hid (HB7.out.trans (hb9.mono (by omega)))
 have hKF := Lib.hid ((hK9.step (KFr.set hR9.out (by decide) (by decide) 0 (.slice (some ⟨om, 0, none⟩) q q))).step (KFr.set (hR9.out.store 0 (.slice (some ⟨om, 0, none⟩) q q)) (by decide) (by decide) 1 (.int .i64 0)))
 have hBF := Lib.hid ((HB9.out.setCell (p := ⟨b4, 0, none⟩) (by show gb ≤ b4; omega) (.slice (some ⟨om, 0, none⟩) q q)).setCell (p := ⟨b4, 1, none⟩) (by show gb ≤ b4; omega) (.int .i64 0))
 generalize ((w9.setCell ⟨b4, 0, none⟩ (.slice (some ⟨om, 0, none⟩) q q)).setCell ⟨b4, 1, none⟩ (.int .i64 0)) = wf at *
 have hsz : (Tryz.prog.info? 26).map (·.size) = some 2 := by kernel_rfl
 exact bodyPost_ret (results_row_tmp Tryz.results20 _ _ _ _ #[.slice (some ⟨om, 0, none⟩) q q, .int .i64 0] (0, 0) _ _ rfl rfl hRF.out Tryz.underlying26 rfl hsz) rfl ⟨om, rfl, by rw [HGB.out]; exact hBF.out, hKF.out, hl9⟩
end Go.Proofs.YtoppncpmfajbcaaGreatDoor
