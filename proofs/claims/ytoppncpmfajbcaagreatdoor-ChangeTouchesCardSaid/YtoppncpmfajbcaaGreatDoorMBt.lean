/- The walk of change.perform: an Insert behind a list's end. -/
import Derived.Test.YtoppncpmfajbcaaGreatDoorMBs
set_option linter.unusedVariables false
set_option linter.unusedSimpArgs false
set_option linter.defProp false
set_option linter.constructorNameAsVariable false
namespace Go.Proofs.YtoppncpmfajbcaaGreatDoor
open Go.RowKit
structure InsC (N M : List GNode) (r rM q : Nat) : Prop where
 idx : Idx N
 nl : NL 65536 N
 len : N.length ≤ 4096
 rt : r < N.length
 mrt : rM < M.length
 k9 : (ndAt N r).kind = 9
 out : (ndAt N r).items.length < q
 ix : q ≤ 65536
 cN : ChkOK N (r : Int)
 zN : chkV N (r : Int) = 0
 cM : ChkOK M (rM : Int)
 zM : chkV M (rM : Int) = 0
def InsE (w : World) (e : Ending) (w' : World) : Prop := e = .returned (.tuple #[.agg #[.slice none 0 0, .int .i64 0], .int .i64 2]) ∧ Below w.heap.size w w'
set_option maxRecDepth 20000 in
set_option maxHeartbeats 16000000 in
theorem perform_ins {B g o c r n gv ov cv rM m idx cp : Nat} {N M : List GNode} {A : Option Addr} (hcp : 1 ≤ cp) (hC : InsC N M r rM idx) (hn : N.length = n) (hm : M.length = m) (w : World) (hw : LibE w) (hG : GRd w B g o N) (hV : GRd w B gv ov M) (hA : PRd w A (ixP [idx])) :
  Calls Tryz.prog 20 #[.agg #[.slice (some ⟨g, o, none⟩) n c, .int .i64 (r : Int)], chV 2 A 1 cp gv ov m cv rM] w (InsE w) := by
 have HC := Lib.hid hC
 have HN := Lib.hid hn
 have HM := Lib.hid hm
 have HW := Lib.hid hw
 have hBw := hG.2.1
 have HG := Lib.hid hG
 have HV := Lib.hid hV
 have HA := Lib.hid hA
 have hn4 : n ≤ 4096 := by have := hC.len; omega
 have hrn : r < n := by have := hC.rt; omega
 have hmp : 0 < m := by have := hC.mrt; omega
 have D1 := Lib.hid (fun (w' : World) (h : LibE w') (h1 : GRd w' B g o N) (h2 : GRd w' B gv ov M) => cargs_any (c := c) (cv := cv) (m := 1) (cp := cp) (op := 2) A (.inr rfl) (by omega) (by have := hC.mrt; omega) hC.cN hC.zN hC.cM hC.zM w' h h1 h2)
 have D2 := Lib.hid (fun (w' : World) (h1 : GRd w' B g o N) (h2 : PRd w' A (ixP [])) => lead_any (c := c) (cp := cp) (m := 0) A hC.idx hC.nl hC.len (fun i hi => absurd hi (by simp)) rfl (by omega) hC.rt w' h1 h2)
 have D3 := Lib.hid (fun (w' : World) (h1 : GRd w' B g o N) => place_any (c := c) (root := (r : Int)) (idx := idx) hC.nl hC.len hC.rt hC.k9 hC.ix w' h1)
 have D4 := Lib.hid (fun (w' : World) (h1 : GRd w' B g o N) => cins_any (c := c) (root := (r : Int)) (idx := idx) hC.len hC.rt hC.k9 hC.out w' h1)
 rw [show leadL N r [] 0 = [(r : Int)] from rfl] at D2
 rw [if_neg (by have := hC.out; omega)] at D3
 rw [hn] at D1 D2 D3 D4
 rw [hm] at D1
 unfold chV at D1 ⊢
 obtain ⟨_, ad, hAd, _, _⟩ := hA 0 _ rfl
 subst hAd
 clear hC hn hm hw hG hV hA
 obtain ⟨h2, h3, h4, hb1, hz1⟩ := box3 w 26 28 26 [.slice (some ⟨g, o, none⟩) n c, .int .i64 (r : Int)] [.int .i64 2, .slice (some ad) 1 cp, .slice (some ⟨gv, ov, none⟩) m cv, .int .i64 (rM : Int)] [.slice none 0 0, .int .i64 0]
 go_enter Tryz.func20, Tryz.ntmps20
 go_upto_region 1 with (fail)
 obtain ⟨gb, hgb⟩ : ∃ x, w.heap.size = x := ⟨_, rfl⟩
 have HGB := Lib.hid hgb
 have HB1 := Lib.hid hb1
 generalize (((w.alloc (.cells #[.slice (some ⟨g, o, none⟩) n c, .int .i64 (r : Int)] 26)).alloc (.cells #[.int .i64 2, .slice (some ad) 1 cp, .slice (some ⟨gv, ov, none⟩) m cv, .int .i64 (rM : Int)] 28)).alloc (.cells #[.slice none 0 0, .int .i64 0] 26)) = W at *
 rw [hgb] at h2 h3 h4 hz1 HB1 hBw ⊢
 clear hgb hb1
 have h4' : Hid (Arr W (gb + 1 + 1) 26 [.slice none 0 0, .int .i64 0]) := h4
 obtain ⟨b4, hb4⟩ : ∃ x, gb + 1 + 1 = x := ⟨_, rfl⟩
 rw [hb4] at h4' ⊢
 have o4 : gb + 1 < b4 := by omega
 have hgl : b4 < W.heap.size := h4'.out.lt
 clear hb4 h4 hz1
 have hG1 := Lib.hid (HG.out.below HB1.out hBw)
 have hV1 := Lib.hid (HV.out.below HB1.out hBw)
 have hW1 := Lib.hid (HW.out.keep (by rw [HGB.out]; exact HB1.out))
 have x0' := h2.out.cell' (i := 0) rfl
 have x1' := h2.out.cell' (i := 1) rfl
 have y0 := h3.out.cell' (i := 0) rfl
 have y1 := h3.out.cell' (i := 1) rfl
 have y2 := h3.out.cell' (i := 2) rfl
 have y3 := h3.out.cell' (i := 3) rfl
 go_upto_region 4 with (go_at_call 32; ((with_reducible refine (D1.out _ hW1.out hG1.out hV1.out).mono ?_)); rintro e w2 ⟨rfl, hb2⟩)
 have h2b := Lib.hid (h2.out.keep hb2)
 have h3b := Lib.hid (h3.out.keep hb2)
 have h4b := Lib.hid (h4'.out.keep hb2)
 have HB2 := Lib.hid (HB1.out.trans (hb2.mono (by omega)))
 have hG2 := Lib.hid (hG1.out.below hb2 (by omega))
 have hV2 := Lib.hid (hV1.out.below hb2 (by omega))
 have hW2 := Lib.hid (hW1.out.keep hb2)
 have hA2 := Lib.hid (HA.out.keep (by rw [HGB.out]; exact HB2.out))
 have hs2 := hb2.size
 clear x0' x1' y0 y1 y2 y3 h2 h3 h4' HB1 hb2 hG1 hV1 hW1 D1
 have y0 := h3b.out.cell' (i := 0) rfl
 have y1 := h3b.out.cell' (i := 1) rfl
 go_upto_region 7 with (fail)
 clear y0 y1
 obtain ⟨z, hz⟩ : ∃ z, w2.heap.size = z := ⟨_, rfl⟩
 have HZ := Lib.hid hz
 have hzb : b4 < z := by omega
 have r0 : ∀ w', Below z w2 w' → w'.cell? ⟨gb, 0, none⟩ = some (.slice (some ⟨g, o, none⟩) n c) := fun w' h => (h2b.out.below h (by omega)).cell' (i := 0) rfl
 have r1 : ∀ w', Below z w2 w' → w'.cell? ⟨gb, 1, none⟩ = some (.int .i64 (r : Int)) := fun w' h => (h2b.out.below h (by omega)).cell' (i := 1) rfl
 have r2 : ∀ w', Below z w2 w' → w'.cell? ⟨gb + 1, 1, none⟩ = some (.slice (some ad) 1 cp) := fun w' h => (h3b.out.below h (by omega)).cell' (i := 1) rfl
 have DL := Lib.hid (fun w' (h : Below z w2 w') => D2.out w' (hG2.out.below h (by omega)) (fun i p hp => by simp [ixP] at hp))
 have hS2 : Below z w2 w2 := Below.refl _ _
 have hS2d : Below z w2 w2.drew := (Below.refl _ _).drew
 have hzs : z ≤ w2.heap.size := by omega
 have hzs2 : z ≤ w2.drew.heap.size := hzs
 clear hz
 have hc1 : (0 : Int) ≤ cp := by omega
 have hc2 : ¬ (cp : Int) < 0 := by omega
 have hc3 : 0 ≤ cp := by omega
 have hc4 : ¬ cp < 0 := by omega
 go_region_held3 (fun w' => Below z w2 w') (first | assumption | go_keep)
  (first | (go_at_call 27; ((with_reducible refine (DL.out _ (by first | assumption)).mono ?_)); rintro e w5 ⟨lv, rfl, hrow5, hb5⟩; have hS5 : Below z w2 w5 := Below.trans (by first | assumption) (hb5.mono (by first | assumption)); have hzs5 : z ≤ w5.heap.size := Nat.le_trans (by first | assumption) hb5.size))
 clear r0 r1 r2 DL hS2 hS2d hc1 hc2 hc3 hc4
 have hrow6 : w5.ownsRow 0 3 1 lv 1 (I64 [(r : Int)]) := own_lo hrow5 (Nat.zero_le _)
 obtain ⟨lb, cl, hlv, _, _⟩ := own_some hrow6 (by omega)
 subst hlv
 have l1 := (own_cell1 hrow6 (i := 0) rfl).1
 obtain ⟨A0, c0, he0, _, _, _, hrd0, _⟩ := own_rd hrow6
 have hRl : Hid (Rd w5 (some ⟨lb, 0, none⟩) (I64 [(r : Int)])) := by injection he0 with e1 _ _; rw [e1]; exact hrd0
 clear he0 hrd0 hrow6 hrow5
 have h2c := Lib.hid (h2b.out.below hS5 (by omega))
 have h3c := Lib.hid (h3b.out.below hS5 (by omega))
 have h4c := Lib.hid (h4b.out.below hS5 (by omega))
 have HB5 := Lib.hid (HB2.out.trans (hS5.mono (by omega)))
 have hA5 := HA.out.keep (by rw [HGB.out]; exact HB5.out)
 obtain ⟨_, adp, hadp, p0, p1⟩ := hA5 0 _ (ixP_get (idxs := [idx]) (i := 0) (by simp))
 obtain rfl := Option.some.inj hadp
 rw [Nat.zero_mul, show ad.add 0 = ad from by unfold Addr.add; split <;> simp_all] at p0 p1
 have p0a : w5.cell? ad = some (.int .i64 (idx : Int)) := p0
 have p1a : w5.cell? ⟨ad.block, ad.off + 1, none⟩ = some (.string (mks [])) := p1
 clear p0 p1 hA5 hadp
 have y1 := h3c.out.cell' (i := 1) rfl
 have hb6 : Below w5.heap.size w5 (w5.alloc (.cells #[.int .i64 (idx : Int), .string (mks [])] 36)) := (Below.refl _ _).alloc (Nat.le_refl _) _
 have hS6 := Lib.hid (Arr.new w5 36 [.int .i64 (idx : Int), .string (mks [])])
 go_upto_region 12 with (fail)
 clear l1 p0a p1a y1
 have h2d := Lib.hid (h2c.out.keep hb6)
 have h3d := Lib.hid (h3c.out.keep hb6)
 have h4d := Lib.hid (h4c.out.keep hb6)
 have hRd := Lib.hid (hRl.out.keep hb6)
 have HB6 := Lib.hid (HB5.out.trans (hb6.mono (by omega)))
 have hG6 := Lib.hid (HG.out.below HB6.out hBw)
 obtain ⟨b11, hb11⟩ : ∃ x, w5.heap.size = x := ⟨_, rfl⟩
 generalize (w5.alloc (.cells #[.int .i64 (idx : Int), .string (mks [])] 36)) = w6 at *
 rw [hb11] at hS6 ⊢
 have hz6 : z ≤ w6.heap.size := by have := hS6.out.lt; omega
 clear hb11 hb6 h2c h3c h4c hRl HB5 h2b h3b h4b hG2 hV2 hW2 hA2 HB2
 have g0 := h2d.out.cell' (i := 0) rfl
 have g1 := h2d.out.cell' (i := 1) rfl
 have s0 := hS6.out.cell' (i := 0) rfl
 have s1 := hS6.out.cell' (i := 1) rfl
 go_upto_region 13 with (go_at_call 28; ((with_reducible refine (D3.out _ hG6.out).mono ?_)); rintro e w7 ⟨rfl, hb7⟩)
 clear g0 g1 s0 s1
 have h2e := Lib.hid (h2d.out.keep hb7)
 have h3e := Lib.hid (h3d.out.keep hb7)
 have h4e := Lib.hid (h4d.out.keep hb7)
 have hRe := Lib.hid (hRd.out.keep hb7)
 have HB7 := Lib.hid (HB6.out.trans (hb7.mono (by omega)))
 have hG7 := Lib.hid (HG.out.below HB7.out hBw)
 have hV7 := Lib.hid (HV.out.below HB7.out hBw)
 have hW7 := Lib.hid (HW.out.keep (by rw [HGB.out]; exact HB7.out))
 have hA7 := Lib.hid (HA.out.keep (by rw [HGB.out]; exact HB7.out))
 have hz7 : z ≤ w7.heap.size := Nat.le_trans hz6 hb7.size
 have hS7 := Lib.hid (hS6.out.keep hb7)
 clear hb7 h2d h3d h4d hRd HB6 hG6 hS6
 have g0 := h2e.out.cell' (i := 0) rfl
 have g1 := h2e.out.cell' (i := 1) rfl
 have y0 := h3e.out.cell' (i := 0) rfl
 have y1 := h3e.out.cell' (i := 1) rfl
 have y2 := h3e.out.cell' (i := 2) rfl
 have y3 := h3e.out.cell' (i := 3) rfl
 have s0 := hS7.out.cell' (i := 0) rfl
 have s1 := hS7.out.cell' (i := 1) rfl
 have e0 : (mks []).toList = [] := by simp [toList_mks]
 obtain ⟨K, ck, I, ci, d0, _, _, _, _, _, _⟩ := hG7.out.of_at HC.out.rt
 rw [HC.out.k9] at d0
 have hrn' : (r : Int) < n := by omega
 have hrn0 : (0 : Int) ≤ r := by omega
 clear hV7 hW7 hA7
 go_upto_region 21 with (fail)
 clear d0
 go_wp2_with (go_at_call 33; ((with_reducible refine (D4.out _ hG7.out).mono ?_)); rintro e w9 ⟨rfl, hb9⟩; have hR9 := Lib.hid (h4e.out.keep hb9); have c0 := hR9.out.cell' (i := 0) rfl; have c1 := hR9.out.cell' (i := 1) rfl; have f0 := hR9.out.frozen 0; have f1 := hR9.out.frozen 1)
 have hRF := Lib.hid ((hR9.out.store 0 (.slice none 0 0)).store 1 (.int .i64 0))
 have HB9 := Lib.hid (HB7.out.trans (hb9.mono (by omega)))
 have hBF := Lib.hid ((HB9.out.setCell (p := ⟨b4, 0, none⟩) (by show gb ≤ b4; omega) (.slice none 0 0)).setCell (p := ⟨b4, 1, none⟩) (by show gb ≤ b4; omega) (.int .i64 0))
 generalize ((w9.setCell ⟨b4, 0, none⟩ (.slice none 0 0)).setCell ⟨b4, 1, none⟩ (.int .i64 0)) = wf at *
 have hsz : (Tryz.prog.info? 26).map (·.size) = some 2 := by kernel_rfl
 exact bodyPost_ret (results_row_tmp Tryz.results20 _ _ _ _ #[.slice none 0 0, .int .i64 0] (0, 0) _ _ rfl rfl hRF.out Tryz.underlying26 rfl hsz) rfl ⟨rfl, by rw [HGB.out]; exact hBF.out⟩
end Go.Proofs.YtoppncpmfajbcaaGreatDoor
namespace Go.Proofs.YtoppncpmfajbcaaGreatDoor
open Go.RowKit
def ErrE (w : World) (k : Int) (e : Ending) (w' : World) : Prop := ∃ A q q' i, e = .returned (.tuple #[.agg #[.slice A q q', .int .i64 i], .int .i64 k]) ∧ Below w.heap.size w w'
theorem PerfE.err {w w' : World} {n : Nat} {N3 : List GNode} {e : Ending} (h : PerfE w n N3 e w') : ErrE w 0 e w' := by
 obtain ⟨om, rfl, hb, _, _⟩ := h
 exact ⟨_, _, _, _, rfl, hb⟩
theorem InsE.err {w w' : World} {e : Ending} (h : InsE w e w') : ErrE w 2 e w' := by
 obtain ⟨rfl, hb⟩ := h
 exact ⟨_, _, _, _, rfl, hb⟩
set_option maxRecDepth 20000 in
set_option maxHeartbeats 8000000 in
theorem ccheck_any {g o c r n gv ov cv rM m mp cp : Nat} {op k : Int} {A : Option Addr} (w : World)
  (hD : ∀ w', Below w.heap.size w w' → Calls Tryz.prog 20 #[.agg #[.slice (some ⟨g, o, none⟩) n c, .int .i64 (r : Int)], chV op A mp cp gv ov m cv rM] w' (ErrE w' k)) :
  Calls Tryz.prog 13 #[.agg #[.slice (some ⟨g, o, none⟩) n c, .int .i64 (r : Int)], chV op A mp cp gv ov m cv rM] w fun e w' => e = .returned (.int .i64 k) ∧ Below w.heap.size w w' := by
 have D := Lib.hid hD
 unfold chV at D ⊢
 clear hD
 obtain ⟨h2, h3, hb1, hz1⟩ := box2 w 26 28 [.slice (some ⟨g, o, none⟩) n c, .int .i64 (r : Int)] [.int .i64 op, .slice A mp cp, .slice (some ⟨gv, ov, none⟩) m cv, .int .i64 (rM : Int)]
 go_enter Tryz.func13, Tryz.ntmps13
 go_upto_region 1 with (fail)
 obtain ⟨gb, hgb⟩ : ∃ x, w.heap.size = x := ⟨_, rfl⟩
 have HGB := Lib.hid hgb
 have HB1 := Lib.hid hb1
 generalize ((w.alloc (.cells #[.slice (some ⟨g, o, none⟩) n c, .int .i64 (r : Int)] 26)).alloc (.cells #[.int .i64 op, .slice A mp cp, .slice (some ⟨gv, ov, none⟩) m cv, .int .i64 (rM : Int)] 28)) = W at *
 rw [hgb] at h2 h3 hz1 HB1 ⊢
 clear hgb hb1
 have hgl := h3.out.lt
 have x0 := h2.out.cell' (i := 0) rfl
 have x1 := h2.out.cell' (i := 1) rfl
 have y0 := h3.out.cell' (i := 0) rfl
 have y1 := h3.out.cell' (i := 1) rfl
 have y2 := h3.out.cell' (i := 2) rfl
 have y3 := h3.out.cell' (i := 3) rfl
 go_wp2_with (go_at_call 20; ((with_reducible refine (D.out _ (by rw [HGB.out]; exact HB1.out)).mono ?_)); rintro e w3 ⟨A3, q3, q3', i3, rfl, hb3⟩)
 go_ret
 exact ⟨rfl, by rw [HGB.out]; exact HB1.out.trans ((hb3.mono (by omega)).trans (((Below.refl _ _).alloc (Nat.le_refl _) _).mono (by have := hb3.size; omega)))⟩
def ApS (i : Nat) (N N1 N3 : List GNode) (q n1 n3 : Nat) : Prop := (i = 0 → N = N1 ∧ q = n1) ∧ (i = 1 → N = N3 ∧ q = n3)
def Ap (wr : World) (b6 i : Nat) (N1 N3 : List GNode) (n1 n3 : Nat) : Prop := ∃ om N q, Arr wr b6 26 [.slice (some ⟨om, 0, none⟩) q q, .int .i64 0] ∧ GK wr om N ∧ N.length = q ∧ ApS i N N1 N3 q n1 n3
structure ApplyC (N0 N M : List GNode) (r0 rM x0 x1 i0 i1 : Nat) (l : List Int) (N3 : List GNode) : Prop where
 ok : NormOK N0
 ck : ChkOK N0 (r0 : Int)
 zk : chkV N0 (r0 : Int) = 0
 rt : r0 < N0.length
 nv : NormV N0 r0 N
 pf : PerfC N M 0 rM x0 x1 i0 i1 l N3
def ApplyE (w : World) (n : Nat) (N3 : List GNode) (e : Ending) (w' : World) : Prop := ∃ om, e = .returned (.tuple #[.agg #[.slice (some ⟨om, 0, none⟩) n n, .int .i64 0], .int .i64 0]) ∧ Below w.heap.size w w' ∧ GK w' om N3 ∧ N3.length = n
set_option maxRecDepth 20000 in
set_option maxHeartbeats 16000000 in
theorem capply_any {B g o c r0 n gv ov cv rM m x0 x1 i0 i1 cp lb : Nat} {N0 N M N3 : List GNode} {l : List Int} {A : Option Addr} (hcp : 2 ≤ cp) (hC : ApplyC N0 N M r0 rM x0 x1 i0 i1 l N3) (hn : N0.length = n) (hm : M.length = m) (w : World) (hw : LibE w) (hG : GRd w B g o N0) (hV : GRd w B gv ov M) (hA : PRd w A (ixP [i0, i1])) (hL : Arr w lb 28 [.int .i64 1, .slice A 2 cp, .slice (some ⟨gv, ov, none⟩) m cv, .int .i64 (rM : Int)]) :
  Calls Tryz.prog 9 #[.agg #[.slice (some ⟨g, o, none⟩) n c, .int .i64 (r0 : Int)], .slice (some ⟨lb, 0, none⟩) 1 1] w (ApplyE w l.length N3) := by
 have HC := Lib.hid hC
 have HM := Lib.hid hm
 have HW := Lib.hid hw
 have hBw := hG.2.1
 have HG := Lib.hid hG
 have HV := Lib.hid hV
 have HA := Lib.hid hA
 have HL := Lib.hid hL
 have D1 := Lib.hid (fun (w' : World) (h : LibE w') (h1 : GRd w' B g o N0) => Normal_w (c := c) (r := r0) hn hC.ok hC.ck hC.zk hC.rt hC.nv w' h h1)
 have D2 := Lib.hid (fun (om q : Nat) (hq : N.length = q) (w' : World) (h : LibE w') (h1 : GRd w' w'.heap.size om 0 N) (h2 : GRd w' w'.heap.size gv ov M) (h3 : PRd w' A (ixP [i0, i1])) => perform_set (c := q) (cv := cv) hcp hC.pf hq hm w' h h1 h2 h3)
 rw [show ((0 : Nat) : Int) = 0 from rfl] at D2
 unfold chV at D2
 clear hC hn hm hw hG hV hA hL
 obtain ⟨h2, h4, hb1, hz1⟩ := box2 w 26 26 [.slice (some ⟨g, o, none⟩) n c, .int .i64 (r0 : Int)] [.slice none 0 0, .int .i64 0]
 go_enter Tryz.func9, Tryz.ntmps9
 go_upto_region 1 with (fail)
 obtain ⟨gb, hgb⟩ : ∃ x, w.heap.size = x := ⟨_, rfl⟩
 have HGB := Lib.hid hgb
 have HB1 := Lib.hid hb1
 generalize ((w.alloc (.cells #[.slice (some ⟨g, o, none⟩) n c, .int .i64 (r0 : Int)] 26)).alloc (.cells #[.slice none 0 0, .int .i64 0] 26)) = W at *
 rw [hgb] at h2 h4 hz1 HB1 hBw ⊢
 clear hgb hb1
 have hG1 := Lib.hid (HG.out.below HB1.out hBw)
 have hW1 := Lib.hid (HW.out.keep (by rw [HGB.out]; exact HB1.out))
 have hgl := h4.out.lt
 have x0' := h2.out.cell' (i := 0) rfl
 have x1' := h2.out.cell' (i := 1) rfl
 go_upto_region 2 with (go_at_call 19; ((with_reducible refine (D1.out _ hW1.out hG1.out).mono ?_)); rintro e w2 ⟨om, ncs, rfl, hb2, hom, hA2, hN2, hl2⟩)
 clear x0' x1' h2 hG1 hW1 D1 hz1
 have hb3 : Below w2.heap.size w2 (w2.alloc (.cells #[.slice (some ⟨om, 0, none⟩) n n, .int .i64 0] 26)) := (Below.refl _ _).alloc (Nat.le_refl _) _
 have h6 := Lib.hid (Arr.new w2 26 [.slice (some ⟨om, 0, none⟩) n n, .int .i64 0])
 have hK3 := Lib.hid ((gk_arr hA2 hN2).step (KFr.below hb3))
 have h4b := Lib.hid ((h4.out.keep hb2).keep hb3)
 have hs2 := hb2.size
 have HB3 := Lib.hid ((HB1.out.trans (hb2.mono (by omega))).trans (hb3.mono (by omega)))
 obtain ⟨b6, hb6⟩ : ∃ x, w2.heap.size = x := ⟨_, rfl⟩
 generalize (w2.alloc (.cells #[.slice (some ⟨om, 0, none⟩) n n, .int .i64 0] 26)) = w3 at *
 rw [hb6] at h6 hs2 ⊢
 have l6 : b6 < w3.heap.size := h6.out.lt
 clear hb6 hb2 hb3 hA2 hN2 h4 HB1 hom
 obtain ⟨q3, hq3⟩ : ∃ q, l.length = q := ⟨_, rfl⟩
 have HQ3 := Lib.hid hq3
 rw [hq3] at D2
 clear hq3
 have hAp0 : Hid (Ap w3 b6 0 N N3 n q3) := ⟨om, N, n, h6.out, hK3.out, hl2, fun _ => ⟨rfl, rfl⟩, fun h => absurd h (by decide)⟩
 go_upto_region 5 with (fail)
 go_loopw [7, 20] (fun ev v wr => ∃ i : Nat, i ≤ 1 ∧ ev = .int .i64 0 ∧ v = .int .i64 (i : Int) ∧ Hid (Ap wr b6 i N N3 n q3) ∧ Hid (Below b6 w3 wr)) (fun _ v _ => 1 - (intOf v).toNat)
 case atStart => exact ⟨0, by omega, rfl, rfl, hAp0, Below.refl _ _⟩
 case round =>
  obtain ⟨i, hi, rfl, rfl, hAp, hBr⟩ := hrel
  clear hAp0 h6 hK3
  obtain ⟨om', N', q, ha6, hk6, hql, hap⟩ := hAp.out
  have HA6 := Lib.hid ha6
  have HK6 := Lib.hid hk6
  have h4r := Lib.hid (h4b.out.below hBr.out (by omega))
  have HBr := Lib.hid (HB3.out.trans (hBr.out.mono (by omega)))
  have hrs := hBr.out.size
  clear hAp ha6 hk6
  by_cases hi1 : i < 1
  ·obtain rfl : i = 0 := by omega
   obtain ⟨hN', hqn⟩ := hap.1 rfl
   rw [hN'] at HK6 hql
   clear hap hN' hqn
   have HLr := Lib.hid (HL.out.keep (by rw [HGB.out]; exact HBr.out))
   have c0 := HLr.out.cell' (i := 0) rfl
   have c1 := HLr.out.cell' (i := 1) rfl
   have c2 := HLr.out.cell' (i := 2) rfl
   have c3 := HLr.out.cell' (i := 3) rfl
   have hb9 : Below wr.heap.size wr (wr.alloc (.cells #[.int .i64 1, .slice A 2 cp, .slice (some ⟨gv, ov, none⟩) m cv, .int .i64 (rM : Int)] 28)) := (Below.refl _ _).alloc (Nat.le_refl _) _
   have h9 := Lib.hid (Arr.new wr 28 [.int .i64 1, .slice A 2 cp, .slice (some ⟨gv, ov, none⟩) m cv, .int .i64 (rM : Int)])
   go_upto_region 7 with (fail)
   clear c0 c1 c2 c3
   have HA6b := Lib.hid (HA6.out.keep hb9)
   have HK6b := Lib.hid (HK6.out.step (KFr.below hb9))
   have h4s := Lib.hid (h4r.out.keep hb9)
   have HBs := Lib.hid (HBr.out.trans (hb9.mono (by omega)))
   have hBrs := Lib.hid (hBr.out.trans (hb9.mono (by omega)))
   have hs9 := hb9.size
   generalize (wr.alloc (.cells #[.int .i64 1, .slice A 2 cp, .slice (some ⟨gv, ov, none⟩) m cv, .int .i64 (rM : Int)] 28)) = w5 at *
   clear hb9 HA6 HK6 h4r HBr HLr
   have d0 := h9.out.cell' (i := 0) rfl
   have d1 := h9.out.cell' (i := 1) rfl
   have d2 := h9.out.cell' (i := 2) rfl
   have d3 := h9.out.cell' (i := 3) rfl
   have e0 := HA6b.out.cell' (i := 0) rfl
   have e1 := HA6b.out.cell' (i := 1) rfl
   have hW5 := Lib.hid (HW.out.keep (by rw [HGB.out]; exact HBs.out))
   have hV5 := Lib.hid ((HV.out.below HBs.out hBw).up (show B ≤ w5.heap.size by omega) (Nat.le_refl _))
   have hA5 := Lib.hid (HA.out.keep (by rw [HGB.out]; exact HBs.out))
   have hg5 := Lib.hid HK6b.out.rd
   have hs5 : b6 ≤ w5.heap.size := by omega
   go_upto_region 8 with (go_at_call 20; ((with_reducible refine (D2.out om' q hql w5 hW5.out hg5.out hV5.out hA5.out).mono ?_)); rintro e w6 ⟨om2, rfl, hb6, hK7, hl7⟩; have hR9 := Lib.hid (HA6b.out.keep hb6); have a0 := hR9.out.cell' (i := 0) rfl; have a1 := hR9.out.cell' (i := 1) rfl; have f0 := hR9.out.frozen 0; have f1 := hR9.out.frozen 1)
   have hRF := Lib.hid ((hR9.out.store 0 (.slice (some ⟨om2, 0, none⟩) q3 q3)).store 1 (.int .i64 0))
   have hKF := Lib.hid ((hK7.step (KFr.set hR9.out (by decide) (by decide) 0 (.slice (some ⟨om2, 0, none⟩) q3 q3))).step (KFr.set (hR9.out.store 0 (.slice (some ⟨om2, 0, none⟩) q3 q3)) (by decide) (by decide) 1 (.int .i64 0)))
   have hBF := Lib.hid (((hBrs.out.trans (hb6.mono hs5)).setCell (p := ⟨b6, 0, none⟩) (Nat.le_refl _) (.slice (some ⟨om2, 0, none⟩) q3 q3)).setCell (p := ⟨b6, 1, none⟩) (Nat.le_refl _) (.int .i64 0))
   have hAp1 : Hid (Ap ((w6.setCell ⟨b6, 0, none⟩ (.slice (some ⟨om2, 0, none⟩) q3 q3)).setCell ⟨b6, 1, none⟩ (.int .i64 0)) b6 1 N N3 n q3) := ⟨om2, N3, q3, hRF.out, hKF.out, hl7, fun h => absurd h (by decide), fun _ => ⟨rfl, rfl⟩⟩
   generalize ((w6.setCell ⟨b6, 0, none⟩ (.slice (some ⟨om2, 0, none⟩) q3 q3)).setCell ⟨b6, 1, none⟩ (.int .i64 0)) = wf at *
   clear hRF hKF hR9 a0 a1 f0 f1 hb6 hK7 d0 d1 d2 d3 e0 e1 h9 HA6b HK6b h4s HBs hBrs hW5 hV5 hA5 hg5
   go_wp2_with (fail)
   go_roundw
   case rel => exact ⟨1, by omega, rfl, rfl, hAp1, hBF⟩
   case measure => simp [intOf]
  ·obtain rfl : i = 1 := by omega
   obtain ⟨hN', hqn⟩ := hap.2 rfl
   rw [hN'] at HK6 hql
   rw [hqn] at HA6 hql
   clear hap hN' hqn
   have c0 := HA6.out.cell' (i := 0) rfl
   have c1 := HA6.out.cell' (i := 1) rfl
   have a0 := h4r.out.cell' (i := 0) rfl
   have a1 := h4r.out.cell' (i := 1) rfl
   have f0 := h4r.out.frozen 0
   have f1 := h4r.out.frozen 1
   have hRF := Lib.hid ((h4r.out.store 0 (.slice (some ⟨om', 0, none⟩) q3 q3)).store 1 (.int .i64 0))
   have hKF := Lib.hid ((HK6.out.step (KFr.set h4r.out (by decide) (by decide) 0 (.slice (some ⟨om', 0, none⟩) q3 q3))).step (KFr.set (h4r.out.store 0 (.slice (some ⟨om', 0, none⟩) q3 q3)) (by decide) (by decide) 1 (.int .i64 0)))
   have hBF := Lib.hid ((HBr.out.setCell (p := ⟨gb + 1, 0, none⟩) (by show gb ≤ gb + 1; omega) (.slice (some ⟨om', 0, none⟩) q3 q3)).setCell (p := ⟨gb + 1, 1, none⟩) (by show gb ≤ gb + 1; omega) (.int .i64 0))
   go_upto_region 12 with (fail)
   generalize ((wr.setCell ⟨gb + 1, 0, none⟩ (.slice (some ⟨om', 0, none⟩) q3 q3)).setCell ⟨gb + 1, 1, none⟩ (.int .i64 0)) = wf at *
   have hsz : (Tryz.prog.info? 26).map (·.size) = some 2 := by kernel_rfl
   rw [HQ3.out]
   exact bodyPost_ret (results_row_tmp Tryz.results9 _ _ _ _ #[.slice (some ⟨om', 0, none⟩) q3 q3, .int .i64 0] (0, 0) _ _ rfl rfl hRF.out Tryz.underlying26 rfl hsz) rfl ⟨om', rfl, by rw [HGB.out]; exact hBF.out, hKF.out, hql⟩
end Go.Proofs.YtoppncpmfajbcaaGreatDoor
