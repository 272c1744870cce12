/- The walk of change.valueAt. -/
import Derived.Test.YtoppncpmfajbcaaGreatDoorMBt
set_option linter.unusedVariables false
set_option linter.unusedSimpArgs false
set_option linter.defProp false
set_option linter.constructorNameAsVariable false
namespace Go.Proofs.YtoppncpmfajbcaaGreatDoor
open Go.RowKit
structure ValC (N : List GNode) (r x0 x1 x2 i0 i1 : Nat) (N' : List GNode) (r' : Nat) (N2 : List GNode) : Prop where
 idx : Idx N
 nl : NL 65536 N
 len : N.length ≤ 4096
 rt : r < N.length
 lead : LeadOK N r [i0, i1]
 ll : leadL N r [i0, i1] 2 = [(x0 : Int), (x1 : Int), (x2 : Int)]
 sub : SubC N r x2 N' (r' : Int)
 ok : NormOK N'
 ck : ChkOK N' (r' : Int)
 zk : chkV N' (r' : Int) = 0
 r0 : r' < N'.length
 nv : NormV N' r' N2
def ValE (w : World) (N2 : List GNode) (e : Ending) (w' : World) : Prop := ∃ om, e = .returned (.agg #[.slice (some ⟨om, 0, none⟩) N2.length N2.length, .int .i64 0]) ∧ Below w.heap.size w w' ∧ GK w' om N2
set_option maxRecDepth 20000 in
set_option maxHeartbeats 16000000 in
theorem valueAt_any {B g o c r n x0 x1 x2 i0 i1 cp r' : Nat} {N N' N2 : List GNode} {A : Option Addr} (hC : ValC N r x0 x1 x2 i0 i1 N' r' N2) (hn : N.length = n) (w : World) (hw : LibE w) (hG : GRd w B g o N) (hA : PRd w A (ixP [i0, i1])) :
  Calls Tryz.prog 26 #[.agg #[.slice (some ⟨g, o, none⟩) n c, .int .i64 (r : Int)], .slice A 2 cp] w (ValE w N2) := by
 have HC := Lib.hid hC
 have HW := Lib.hid hw
 have hBw := hG.2.1
 have HG := Lib.hid hG
 have HA := Lib.hid hA
 have D1 := Lib.hid (fun (w' : World) (h1 : GRd w' B g o N) (h2 : PRd w' A (ixP [i0, i1])) => lead_any (c := c) (cp := cp) (m := 2) A hC.idx hC.nl hC.len hC.lead rfl (by omega) hC.rt w' h1 h2)
 have D2 := Lib.hid (fun (w' : World) (h : LibE w') (h1 : GRd w' B g o N) => csub_any (c := c) hC.sub w' h h1)
 have D3 := Lib.hid (fun (ob q B' : Nat) (w' : World) (h : LibE w') (h1 : GRd w' B' ob 0 N') => Normal_w (c := q) (r := r') rfl hC.ok hC.ck hC.zk hC.r0 hC.nv w' h h1)
 rw [hC.ll] at D1
 rw [hn] at D1 D2
 clear hC hn hw hG hA
 obtain ⟨h2, h4, hb1, hz1⟩ := box2 w 26 26 [.slice (some ⟨g, o, none⟩) n c, .int .i64 (r : Int)] [.slice none 0 0, .int .i64 0]
 go_enter Tryz.func26, Tryz.ntmps26
 go_upto_region 1 with (fail)
 obtain ⟨gb, hgb⟩ : ∃ x, w.heap.size = x := ⟨_, rfl⟩
 have HGB := Lib.hid hgb
 have HB1 := Lib.hid hb1
 generalize ((w.alloc (.cells #[.slice (some ⟨g, o, none⟩) n c, .int .i64 (r : Int)] 26)).alloc (.cells #[.slice none 0 0, .int .i64 0] 26)) = W at *
 rw [hgb] at h2 h4 hz1 HB1 hBw ⊢
 clear hgb hb1
 have hG1 := Lib.hid (HG.out.below HB1.out hBw)
 have hA1 := Lib.hid (HA.out.keep (by rw [HGB.out]; exact HB1.out))
 have hgl := h4.out.lt
 have x0' := h2.out.cell' (i := 0) rfl
 have x1' := h2.out.cell' (i := 1) rfl
 go_upto_region 4 with (go_at_call 27; ((with_reducible refine (D1.out _ hG1.out hA1.out).mono ?_)); rintro e w2 ⟨lv, rfl, hrow2, hb2⟩)
 have hrow3 : w2.ownsRow 0 3 1 lv 3 (I64 [(x0 : Int), (x1 : Int), (x2 : Int)]) := own_lo hrow2 (Nat.zero_le _)
 obtain ⟨lb, cl, hlv, _, _⟩ := own_some hrow3 (by omega)
 subst hlv
 have hlbz := (hrow3.lt lb rfl).2
 have l2 := (own_cell1 hrow3 (i := 2) rfl).1
 have h2b := Lib.hid (h2.out.keep hb2)
 have h4b := Lib.hid (h4.out.keep hb2)
 have HB2 := Lib.hid (HB1.out.trans (hb2.mono (by omega)))
 have hs2 := hb2.size
 clear x0' x1' h2 h4 HB1 hb2 hG1 hA1 D1 hrow2 hrow3 hz1
 obtain ⟨z, hz⟩ : ∃ z, w2.heap.size = z := ⟨_, rfl⟩
 have HZ := Lib.hid hz
 have hg2 := Lib.hid (HG.out.below HB2.out hBw)
 have hW2 := Lib.hid (HW.out.keep (by rw [HGB.out]; exact HB2.out))
 have r0 : ∀ w', Below z w2 w' → w'.cell? ⟨gb, 0, none⟩ = some (.slice (some ⟨g, o, none⟩) n c) := fun w' h => (h2b.out.below h (by omega)).cell' (i := 0) rfl
 have r1 : ∀ w', Below z w2 w' → w'.cell? ⟨gb, 1, none⟩ = some (.int .i64 (r : Int)) := fun w' h => (h2b.out.below h (by omega)).cell' (i := 1) rfl
 have r2 : ∀ w', Below z w2 w' → w'.cell? ⟨lb, 2, none⟩ = some (.int .i64 (x2 : Int)) := fun w' h => (h.cell (by show lb < z; omega)).trans l2
 have DS := Lib.hid (fun w' (h : Below z w2 w') => D2.out w' (hW2.out.keep (by rw [HZ.out]; exact h)) (hg2.out.below h (by omega)))
 have DN := Lib.hid (fun (ob q : Nat) w' (h : Below z w2 w') (hk : GK w' ob N') => D3.out ob q _ w' (hW2.out.keep (by rw [HZ.out]; exact h)) hk.rd)
 have hS2 : Below z w2 w2 := Below.refl _ _
 have hS2d : Below z w2 w2.drew := (Below.refl _ _).drew
 have hzs : z ≤ w2.heap.size := by omega
 have hzs2 : z ≤ w2.drew.heap.size := hzs
 have hw3 : IntKind.i64.wrap 2 = 2 := rfl
 have hzg : gb + 1 < z := by omega
 clear hz l2
 have hle : ∀ {X : World}, Below z w2 X → z ≤ X.heap.size := fun h => Nat.le_trans hzs h.size
 go_region_held3 (fun w' => Below z w2 w') (first | assumption | exact Below.alloc (by assumption) (hle (by assumption)) _ | exact Below.setCell (by assumption) (by dsimp only; first | assumption | exact hle (by assumption)) _ | exact Below.setCell (Below.setCell (by assumption) (by dsimp only; first | assumption | exact hle (by assumption)) _) (by dsimp only; first | assumption | exact hle (by assumption)) _)
  (first
   | (go_at_call 40; ((with_reducible refine (DS.out _ (by first | assumption)).mono ?_)); rintro e w5 ⟨ob, cq, rfl, hb5, hk5⟩; have hS5 : Below z w2 w5 := Below.trans (by first | assumption) (hb5.mono (hle (by first | assumption))); try (have hNa : Arr w5 w2.heap.size 26 [.slice none 0 0, .int .i64 0] := Arr.keep (w := (w2.alloc (.cells #[.slice none 0 0, .int .i64 0] 26)).drew) (Arr.new w2 26 [.slice none 0 0, .int .i64 0]) hb5))
   | (go_at_call 19; ((with_reducible refine (DN.out _ _ _ (by first | assumption) (by first | assumption | exact GK.step (by assumption) (KFr.below ((Below.refl _ _).alloc (Nat.le_refl _) _)))).mono ?_)); rintro e w7 ⟨om, ncs7, rfl, hb7, hom7, ha7, hn7, hl7⟩; have hS7 : Below z w2 w7 := Below.trans (by first | assumption) (hb7.mono (hle (by first | assumption))); have hk7 := gk_arr ha7 hn7; try (first | (have hNb : Arr w7 w2.heap.size 26 [.slice none 0 0, .int .i64 0] := Arr.keep hNa hb7; have na0 := hNb.cell' (i := 0) rfl; have na1 := hNb.cell' (i := 1) rfl; have nf0 := hNb.frozen 0; have nf1 := hNb.frozen 1) | (have hNc : Arr w7 w5.heap.size 26 [.slice none 0 0, .int .i64 0] := Arr.keep (Arr.new w5 26 [.slice none 0 0, .int .i64 0]) hb7; have na0 := hNc.cell' (i := 0) rfl; have na1 := hNc.cell' (i := 1) rfl; have nf0 := hNc.frozen 0; have nf1 := hNc.frozen 1))))
 all_goals
  first
   | (obtain ⟨a, wl, hwl, hae, ha, hSl, hkl⟩ : ∃ a wl, wl = w7.alloc (.cells #[.slice (some ⟨om, 0, none⟩) N'.length N'.length, .int .i64 0] 26) ∧ a = w7.heap.size ∧ Arr wl a 26 [.slice (some ⟨om, 0, none⟩) N'.length N'.length, .int .i64 0] ∧ Below z w2 wl ∧ GK wl om N2 := ⟨_, _, rfl, rfl, Arr.new w7 _ _, hS7.alloc (hle hS7) _, hk7.step (KFr.below ((Below.refl _ _).alloc (Nat.le_refl _) _))⟩; rw [← hwl, ← hae])
   | (obtain ⟨a, wl, hwl, hae, ha, hSl, hkl⟩ : ∃ a wl, wl = (w7.setCell ⟨w5.heap.size, 0, none⟩ (.slice (some ⟨om, 0, none⟩) N'.length N'.length)).setCell ⟨w5.heap.size, 1, none⟩ (.int .i64 0) ∧ a = w5.heap.size ∧ Arr wl a 26 [.slice (some ⟨om, 0, none⟩) N'.length N'.length, .int .i64 0] ∧ Below z w2 wl ∧ GK wl om N2 := ⟨_, _, rfl, rfl, (hNc.store 0 (.slice (some ⟨om, 0, none⟩) N'.length N'.length)).store 1 (.int .i64 0), (hS7.setCell (p := ⟨w5.heap.size, 0, none⟩) (hle (by first | assumption)) _).setCell (p := ⟨w5.heap.size, 1, none⟩) (hle (by first | assumption)) _, (hk7.step (KFr.set hNc (by decide) (by decide) 0 (.slice (some ⟨om, 0, none⟩) N'.length N'.length))).step (KFr.set (hNc.store 0 (.slice (some ⟨om, 0, none⟩) N'.length N'.length)) (by decide) (by decide) 1 (.int .i64 0))⟩; rw [← hwl, ← hae])
   | (obtain ⟨a, wl, hwl, hae, ha, hSl, hkl⟩ : ∃ a wl, wl = (w7.setCell ⟨w2.heap.size, 0, none⟩ (.slice (some ⟨om, 0, none⟩) N'.length N'.length)).setCell ⟨w2.heap.size, 1, none⟩ (.int .i64 0) ∧ a = w2.heap.size ∧ Arr wl a 26 [.slice (some ⟨om, 0, none⟩) N'.length N'.length, .int .i64 0] ∧ Below z w2 wl ∧ GK wl om N2 := ⟨_, _, rfl, rfl, (hNb.store 0 (.slice (some ⟨om, 0, none⟩) N'.length N'.length)).store 1 (.int .i64 0), (hS7.setCell (p := ⟨w2.heap.size, 0, none⟩) (hle (by first | assumption)) _).setCell (p := ⟨w2.heap.size, 1, none⟩) (hle (by first | assumption)) _, (hk7.step (KFr.set hNb (by decide) (by decide) 0 (.slice (some ⟨om, 0, none⟩) N'.length N'.length))).step (KFr.set (hNb.store 0 (.slice (some ⟨om, 0, none⟩) N'.length N'.length)) (by decide) (by decide) 1 (.int .i64 0))⟩; rw [← hwl, ← hae])
  clear hwl hae
  have HA' := Lib.hid ha
  have HK' := Lib.hid hkl
  have h4l := Lib.hid (h4b.out.below hSl (by omega))
  have HBl := Lib.hid (HB2.out.trans (hSl.mono (by omega)))
  have t0 := ha.cell' (i := 0) rfl
  have t1 := ha.cell' (i := 1) rfl
  have c0 := h4l.out.cell' (i := 0) rfl
  have c1 := h4l.out.cell' (i := 1) rfl
  have f0 := h4l.out.frozen 0
  have f1 := h4l.out.frozen 1
  have hKF := Lib.hid ((HK'.out.step (KFr.set h4l.out (by decide) (by decide) 0 (.slice (some ⟨om, 0, none⟩) N'.length N'.length))).step (KFr.set (h4l.out.store 0 (.slice (some ⟨om, 0, none⟩) N'.length N'.length)) (by decide) (by decide) 1 (.int .i64 0)))
  have hRF := Lib.hid ((h4l.out.store 0 (.slice (some ⟨om, 0, none⟩) N'.length N'.length)).store 1 (.int .i64 0))
  have hBF := Lib.hid ((HBl.out.setCell (p := ⟨gb + 1, 0, none⟩) (by show gb ≤ gb + 1; omega) (.slice (some ⟨om, 0, none⟩) N'.length N'.length)).setCell (p := ⟨gb + 1, 1, none⟩) (by show gb ≤ gb + 1; omega) (.int .i64 0))
  have HL7 := Lib.hid hl7
  clear r0 r1 r2 DS DN hS2 hS2d hle hSl ha hkl
  go_upto_region 6 with (fail)
  generalize ((wl.setCell ⟨gb + 1, 0, none⟩ (.slice (some ⟨om, 0, none⟩) N'.length N'.length)).setCell ⟨gb + 1, 1, none⟩ (.int .i64 0)) = wf at *
  have u0 := hRF.out.cell' (i := 0) rfl
  have u1 := hRF.out.cell' (i := 1) rfl
  exact bodyPost_ret (v := .agg #[.slice (some ⟨om, 0, none⟩) N'.length N'.length, .int .i64 0]) (by simp [results, Tryz.results26, go_sem, u0, u1]) rfl ⟨om, by rw [HL7.out], by rw [HGB.out]; exact hBF.out, hKF.out⟩
end Go.Proofs.YtoppncpmfajbcaaGreatDoor
namespace Go.Proofs.YtoppncpmfajbcaaGreatDoor
open Go.RowKit
theorem infoStep : (Tryz.prog.info? 36).map (fun i => (i.zero, i.size, i.bytes)) = some (some (.agg #[.int .i64 0, .string ⟨#[]⟩]), 2, 24) := by kernel_rfl
def InvE (w : World) (i0 i1 : Nat) (N2 : List GNode) (e : Ending) (w' : World) : Prop := ∃ om pb pc, e = .returned (.tuple #[.agg #[.int .i64 1, .slice (some ⟨pb, 0, none⟩) 2 pc, .slice (some ⟨om, 0, none⟩) N2.length N2.length, .int .i64 0], .int .i64 0]) ∧ Below w.heap.size w w' ∧ GK w' om N2 ∧ w'.ownsRow 0 36 2 (.slice (some ⟨pb, 0, none⟩) 2 pc) 2 [.int .i64 (i0 : Int), .string (mks []), .int .i64 (i1 : Int), .string (mks [])]
set_option maxRecDepth 20000 in
set_option maxHeartbeats 16000000 in
theorem invert_any {B g o c r n gv ov cv rM m y0 y1 x0 x1 x2 i0 i1 cp r' : Nat} {N M N3 N' N2 : List GNode} {l : List Int} {A : Option Addr} (hcp : 2 ≤ cp) (hP : PerfC N M r rM y0 y1 i0 i1 l N3) (hC : ValC N r x0 x1 x2 i0 i1 N' r' N2) (hn : N.length = n) (hm : M.length = m) (w : World) (hw : LibE w) (hG : GRd w B g o N) (hV : GRd w B gv ov M) (hA : PRd w A (ixP [i0, i1])) :
  Calls Tryz.prog 11 #[.agg #[.slice (some ⟨g, o, none⟩) n c, .int .i64 (r : Int)], chV 1 A 2 cp gv ov m cv rM] w (InvE w i0 i1 N2) := by
 have HW := Lib.hid hw
 have hBw := hG.2.1
 have HG := Lib.hid hG
 have HV := Lib.hid hV
 have HA := Lib.hid hA
 have D1 := Lib.hid (fun (w' : World) (h : LibE w') (h1 : GRd w' B g o N) (h2 : GRd w' B gv ov M) (h3 : PRd w' A (ixP [i0, i1])) => ccheck_any (g := g) (o := o) (c := c) (r := r) (n := n) (gv := gv) (ov := ov) (cv := cv) (rM := rM) (m := m) (mp := 2) (cp := cp) (op := 1) (k := 0) (A := A) w' (fun w2 hb => (perform_set hcp hP hn hm w2 (h.keep hb) (h1.below hb h1.2.1) (h2.below hb h2.2.1) (h3.keep hb)).mono (fun _ _ h => h.err)))
 have D2 := Lib.hid (fun (A' : Option Addr) (cp' : Nat) (w' : World) (h : LibE w') (h1 : GRd w' B g o N) (h2 : PRd w' A' (ixP [i0, i1])) => valueAt_any (c := c) (cp := cp') hC hn w' h h1 h2)
 unfold chV at D1 ⊢
 obtain ⟨_, ad, hAd, _, _⟩ := hA 0 _ rfl
 subst hAd
 clear hP hC hn hm hw hG hV hA
 obtain ⟨h2, h3, h4, hb1, hz1⟩ := box3 w 26 28 28 [.slice (some ⟨g, o, none⟩) n c, .int .i64 (r : Int)] [.int .i64 1, .slice (some ad) 2 cp, .slice (some ⟨gv, ov, none⟩) m cv, .int .i64 (rM : Int)] [.int .i64 0, .slice none 0 0, .slice none 0 0, .int .i64 0]
 go_enter Tryz.func11, Tryz.ntmps11
 go_upto_region 1 with (fail)
 obtain ⟨gb, hgb⟩ : ∃ x, w.heap.size = x := ⟨_, rfl⟩
 have HGB := Lib.hid hgb
 have HB1 := Lib.hid hb1
 generalize (((w.alloc (.cells #[.slice (some ⟨g, o, none⟩) n c, .int .i64 (r : Int)] 26)).alloc (.cells #[.int .i64 1, .slice (some ad) 2 cp, .slice (some ⟨gv, ov, none⟩) m cv, .int .i64 (rM : Int)] 28)).alloc (.cells #[.int .i64 0, .slice none 0 0, .slice none 0 0, .int .i64 0] 28)) = W at *
 rw [hgb] at h2 h3 h4 hz1 HB1 hBw ⊢
 clear hgb hb1
 have h4' : Hid (Arr W (gb + 1 + 1) 28 [.int .i64 0, .slice none 0 0, .slice none 0 0, .int .i64 0]) := h4
 obtain ⟨b4, hb4⟩ : ∃ x, gb + 1 + 1 = x := ⟨_, rfl⟩
 rw [hb4] at h4' ⊢
 have o4 : gb + 1 < b4 := by omega
 have hgl : b4 < W.heap.size := h4'.out.lt
 clear hb4 h4 hz1
 have hG1 := Lib.hid (HG.out.below HB1.out hBw)
 have hV1 := Lib.hid (HV.out.below HB1.out hBw)
 have hW1 := Lib.hid (HW.out.keep (by rw [HGB.out]; exact HB1.out))
 have hA1 := Lib.hid (HA.out.keep (by rw [HGB.out]; exact HB1.out))
 have a0 := h2.out.cell' (i := 0) rfl
 have a1 := h2.out.cell' (i := 1) rfl
 have b0 := h3.out.cell' (i := 0) rfl
 have b1 := h3.out.cell' (i := 1) rfl
 have b2 := h3.out.cell' (i := 2) rfl
 have b3 := h3.out.cell' (i := 3) rfl
 go_upto_region 4 with (go_at_call 13; ((with_reducible refine (D1.out _ hW1.out hG1.out hV1.out hA1.out).mono ?_)); rintro e w2 ⟨rfl, hb2⟩)
 have h2b := Lib.hid (h2.out.keep hb2)
 have h3b := Lib.hid (h3.out.keep hb2)
 have h4b := Lib.hid (h4'.out.keep hb2)
 have HB2 := Lib.hid (HB1.out.trans (hb2.mono (by omega)))
 have hs2 := hb2.size
 clear a0 a1 b0 b1 b2 b3 h2 h3 h4' HB1 hb2 hG1 hV1 hW1 hA1 D1
 have hbE : Below w2.heap.size w2 (w2.alloc (.cells #[] 36)) := (Below.refl _ _).alloc (Nat.le_refl _) _
 have hown0 : Hid ((w2.alloc (.cells #[] 36)).ownsRow w2.heap.size 36 2 (.slice (some ⟨w2.heap.size, 0, none⟩) 0 0) 0 []) := ⟨rfl, .inr ⟨w2.heap.size, 0, #[], rfl, Nat.le_refl _, Arr.new w2 36 [], Nat.le_refl _, Nat.zero_le _, rfl, rfl⟩⟩
 have h2e := Lib.hid (h2b.out.keep hbE)
 have h3e := Lib.hid (h3b.out.keep hbE)
 have h4e := Lib.hid (h4b.out.keep hbE)
 have HBe := Lib.hid (HB2.out.trans (hbE.mono (by omega)))
 have hse := hbE.size
 have hAe := Lib.hid (HA.out.keep (by rw [HGB.out]; exact HBe.out))
 have b1 := h3e.out.cell' (i := 1) rfl
 have hnews : ∀ j u, [Value.int .i64 (i0 : Int), .string (mks []), .int .i64 (i1 : Int), .string (mks [])][j]? = some u → (w2.alloc (.cells #[] 36)).cell? (ad.add j) = some u := by
  intro j u hj
  obtain ⟨_, ad0, e0, q0, q1⟩ := hAe.out 0 _ (ixP_get (idxs := [i0, i1]) (i := 0) (by simp))
  obtain rfl := Option.some.inj e0
  obtain ⟨_, ad1, e1, q2, q3⟩ := hAe.out 1 _ (ixP_get (idxs := [i0, i1]) (i := 1) (by simp))
  obtain rfl := Option.some.inj e1
  match j, hj with
  | 0, hj => obtain rfl := Option.some.inj hj; exact q0
  | 1, hj => obtain rfl := Option.some.inj hj; exact q1
  | 2, hj => obtain rfl := Option.some.inj hj; exact q2
  | 3, hj => obtain rfl := Option.some.inj hj; exact q3
 have HNW := Lib.hid hnews
 obtain ⟨inf, hi1, hi2, hi3, hi4⟩ := info_parts infoStep
 have HI := Lib.hid (show (_ ∧ _ ∧ _ ∧ _) from ⟨hi1, hi2, hi3, hi4⟩)
 clear hbE hnews hi1 hi2 hi3 hi4
 go_upto_region 5 with (at_builtin; go_loud (refine wpList_append_own _ rfl (.tmp 20) (.tmp 22) 23 rfl w2.heap.size 36 inf (.agg #[.int .i64 0, .string ⟨#[]⟩]) 2 24 Tryz.underlying23 HI.out.1 HI.out.2.1 HI.out.2.2.1 HI.out.2.2.2 rfl (by decide) _ 0 [] rfl hown0.out ad 2 cp [.int .i64 (i0 : Int), .string (mks []), .int .i64 (i1 : Int), .string (mks [])] rfl rfl HNW.out (by simp [Value.oneCell']) (by unfold maxLen; omega) (by omega) hse ?_; intro v5 w5 hown5 hgr5 _))
 have hrow0 := own_lo hown5 (Nat.zero_le _)
 rw [Nat.zero_add, List.nil_append] at hrow0
 obtain ⟨pb, pc, hv5, _, _⟩ := own_some hrow0 (by omega)
 subst hv5
 have hg5 : (w2.alloc (.cells #[] 36)).grownBy w5 (some w2.heap.size) := hgr5
 have h2f := Lib.hid (h2e.out.grown hg5 (some_ne (by omega)))
 have h3f := Lib.hid (h3e.out.grown hg5 (some_ne (by omega)))
 have h4f := Lib.hid (h4e.out.grown hg5 (some_ne (by omega)))
 have HB5 := Lib.hid (below_row HBe.out hg5 (by omega) (by omega))
 have hW5 := Lib.hid (HW.out.keep (by rw [HGB.out]; exact HB5.out))
 have hG5 := Lib.hid (HG.out.below HB5.out hBw)
 have hPR : Hid (PRd w5 (some ⟨pb, 0, none⟩) (ixP [i0, i1])) := by
  intro i p hi
  have q0 := (own_cell1 hrow0 (i := 0) rfl).1
  have q1 := (own_cell1 hrow0 (i := 1) rfl).1
  have q2 := (own_cell1 hrow0 (i := 2) rfl).1
  have q3 := (own_cell1 hrow0 (i := 3) rfl).1
  match i, hi with
  | 0, hi => obtain rfl := Option.some.inj hi; exact ⟨By.nil, _, rfl, q0, q1⟩
  | 1, hi => obtain rfl := Option.some.inj hi; exact ⟨By.nil, _, rfl, q2, q3⟩
 have hs5 := h4f.out.lt
 have HR0 := Lib.hid hrow0
 clear hgr5 hown5 hg5 hown0 HNW HI h2b h3b h4b h2e h3e h4e HBe hAe b1 hrow0 HB2
 have b0 := h3f.out.cell' (i := 0) rfl
 have a0 := h2f.out.cell' (i := 0) rfl
 have a1 := h2f.out.cell' (i := 1) rfl
 go_wp2_with (go_at_call 26; ((with_reducible refine (D2.out _ _ _ hW5.out hG5.out hPR.out).mono ?_)); rintro e w6 ⟨om, rfl, hb6, hK6⟩; have hR6 := Lib.hid (h4f.out.keep hb6); have c0 := hR6.out.cell' (i := 0) rfl; have c1 := hR6.out.cell' (i := 1) rfl; have c2 := hR6.out.cell' (i := 2) rfl; have c3 := hR6.out.cell' (i := 3) rfl; have f0 := hR6.out.frozen 0; have f1 := hR6.out.frozen 1; have f2 := hR6.out.frozen 2; have f3 := hR6.out.frozen 3)
 have hrow6 := own_below HR0.out hb6
 have hnb : (Value.slice (some ⟨pb, 0, none⟩) 2 pc).ownBlock ≠ some b4 := fun e => by
  obtain ⟨C, fz, hk⟩ := own_kind hrow6 e
  exact absurd (cells_kind hR6.out hk) (by decide)
 have HB6 := Lib.hid (HB5.out.trans (hb6.mono (by omega)))
 have hRF := Lib.hid ((((hR6.out.store 0 (.int .i64 1)).store 1 (.slice (some ⟨pb, 0, none⟩) 2 pc)).store 2 (.slice (some ⟨om, 0, none⟩) N2.length N2.length)).store 3 (.int .i64 0))
 have hKF := Lib.hid ((((hK6.step (KFr.set hR6.out (by decide) (by decide) 0 (.int .i64 1))).step (KFr.set (hR6.out.store 0 (.int .i64 1)) (by decide) (by decide) 1 (.slice (some ⟨pb, 0, none⟩) 2 pc))).step (KFr.set ((hR6.out.store 0 (.int .i64 1)).store 1 (.slice (some ⟨pb, 0, none⟩) 2 pc)) (by decide) (by decide) 2 (.slice (some ⟨om, 0, none⟩) N2.length N2.length))).step (KFr.set (((hR6.out.store 0 (.int .i64 1)).store 1 (.slice (some ⟨pb, 0, none⟩) 2 pc)).store 2 (.slice (some ⟨om, 0, none⟩) N2.length N2.length)) (by decide) (by decide) 3 (.int .i64 0)))
 have hBF := Lib.hid ((((HB6.out.setCell (p := ⟨b4, 0, none⟩) (by show gb ≤ b4; omega) (.int .i64 1)).setCell (p := ⟨b4, 1, none⟩) (by show gb ≤ b4; omega) (.slice (some ⟨pb, 0, none⟩) 2 pc)).setCell (p := ⟨b4, 2, none⟩) (by show gb ≤ b4; omega) (.slice (some ⟨om, 0, none⟩) N2.length N2.length)).setCell (p := ⟨b4, 3, none⟩) (by show gb ≤ b4; omega) (.int .i64 0))
 have hOF := Lib.hid (own_far (p := ⟨b4, 3, none⟩) (own_far (p := ⟨b4, 2, none⟩) (own_far (p := ⟨b4, 1, none⟩) (own_far (p := ⟨b4, 0, none⟩) hrow6 hnb (.int .i64 1)) hnb (.slice (some ⟨pb, 0, none⟩) 2 pc)) hnb (.slice (some ⟨om, 0, none⟩) N2.length N2.length)) hnb (.int .i64 0))
 generalize ((((w6.setCell ⟨b4, 0, none⟩ (.int .i64 1)).setCell ⟨b4, 1, none⟩ (.slice (some ⟨pb, 0, none⟩) 2 pc)).setCell ⟨b4, 2, none⟩ (.slice (some ⟨om, 0, none⟩) N2.length N2.length)).setCell ⟨b4, 3, none⟩ (.int .i64 0)) = wf at *
 have hsz : (Tryz.prog.info? 28).map (·.size) = some 4 := by kernel_rfl
 exact bodyPost_ret (results_row_tmp Tryz.results11 _ _ _ _ #[.int .i64 1, .slice (some ⟨pb, 0, none⟩) 2 pc, .slice (some ⟨om, 0, none⟩) N2.length N2.length, .int .i64 0] (0, 0) _ _ rfl rfl hRF.out Tryz.underlying28 rfl hsz) rfl ⟨om, pb, pc, rfl, by rw [HGB.out]; exact hBF.out, hKF.out, hOF.out⟩
end Go.Proofs.YtoppncpmfajbcaaGreatDoor
