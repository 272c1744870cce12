/- The walks of graph.Sub and change.sub. -/
import Derived.Test.YtoppncpmfajbcaaGreatDoorMBl
import Derived.Test.YtoppncpmfajbcaaGreatDoorMBe
import Derived.Test.YtoppncpmfajbcaaGreatDoorMAi
import Derived.Test.YtoppncpmfajbcaaGreatDoorMAe
import Derived.Lib.FrozenHead2
set_option linter.unusedVariables false
set_option linter.unusedSimpArgs false
set_option linter.defProp false
set_option linter.constructorNameAsVariable false
namespace Go.Proofs.YtoppncpmfajbcaaGreatDoor
open Go.RowKit
structure SubC (nodes : List GNode) (r k : Nat) (N' : List GNode) (r' : Int) : Prop where
 ok : ChkOK nodes (r : Int)
 zero : chkV nodes (r : Int) = 0
 kept : KeptC nodes k N' r'
def SubE (w : World) (N' : List GNode) (r' : Int) (e : Ending) (w' : World) : Prop := ∃ ob cq, e = .returned (.tuple #[.agg #[.slice (some ⟨ob, 0, none⟩) N'.length cq, .int .i64 r'], .int .i64 0]) ∧ Below w.heap.size w w' ∧ GK w' ob N'
set_option maxRecDepth 20000 in
set_option maxHeartbeats 8000000 in
theorem gsub_any {B g o c r k : Nat} {nodes N' : List GNode} {r' : Int} (hC : SubC nodes r k N' r') (w : World) (hw : LibE w) (hG : GRd w B g o nodes) :
  Calls Tryz.prog 66 #[.agg #[.slice (some ⟨g, o, none⟩) nodes.length c, .int .i64 (r : Int)], .int .i64 (k : Int)] w (SubE w N' r') := by
 obtain ⟨n, hn⟩ : ∃ n, nodes.length = n := ⟨_, rfl⟩
 have HG := Lib.hid hG
 have HW := Lib.hid hw
 have hBw := hG.2.1
 have hk := hC.kept.root
 have D1 := Lib.hid (fun (w' : World) (h : LibE w') (h' : GRd w' B g o nodes) => gcheck_any (c := c) hC.ok w' h h')
 have D2 := Lib.hid (fun (w' : World) (h' : GRd w' B g o nodes) => kept_any (c := c) hC.kept w' h')
 rw [hC.zero] at D1
 have hn4 := hC.kept.len
 rw [hn] at D1 D2 hk hn4 ⊢
 clear hC hG hw hn
 obtain ⟨h2, h4, hb1, hz1⟩ := box2 w 26 26 [.slice (some ⟨g, o, none⟩) n c, .int .i64 (r : Int)] [.slice none 0 0, .int .i64 0]
 go_enter Tryz.func66, Tryz.ntmps66
 go_upto_region 1 with (fail)
 obtain ⟨gb, hgb⟩ : ∃ x, w.heap.size = x := ⟨_, rfl⟩
 have HGB := Lib.hid hgb
 have HB1 := Lib.hid hb1
 generalize ((w.alloc (.cells #[.slice (some ⟨g, o, none⟩) n c, .int .i64 (r : Int)] 26)).alloc (.cells #[.slice none 0 0, .int .i64 0] 26)) = W at *
 rw [hgb] at h2 h4 hz1 HB1 hBw ⊢
 clear hgb hb1
 have hG1 := Lib.hid (HG.out.below HB1.out hBw)
 have hW1 := Lib.hid (HW.out.keep (by rw [HGB.out]; exact HB1.out))
 have hgl := h4.out.lt
 have x0 := h2.out.cell' (i := 0) rfl
 have x1 := h2.out.cell' (i := 1) rfl
 go_upto_region 3 with (go_at_call 30; ((with_reducible refine (D1.out _ hW1.out hG1.out).mono ?_)); rintro e w2 ⟨rfl, hb2⟩)
 have h2b := Lib.hid (h2.out.keep hb2)
 have h4b := Lib.hid (h4.out.keep hb2)
 have HB2 := Lib.hid (HB1.out.trans (hb2.mono (by omega)))
 have hG2 := Lib.hid (hG1.out.below hb2 (by omega))
 have hs2 := hb2.size
 clear x0 x1 h2 h4 HB1 hb2 hG1 hW1 D1 hz1
 have x0 := h2b.out.cell' (i := 0) rfl
 have hk2' : ¬ ((n : Int) ≤ k) := by omega
 have hk0 : (0 : Int) ≤ k := by omega
 go_wp2_with (go_at_call 78; ((with_reducible refine (D2.out _ hG2.out).mono ?_)); rintro e w3 ⟨ob, cq, rfl, hb3, hK3⟩; have h43 := Lib.hid (h4b.out.keep hb3); have c0 := h43.out.cell' (i := 0) rfl; have c1 := h43.out.cell' (i := 1) rfl; have f0 := h43.out.frozen 0; have f1 := h43.out.frozen 1)
 have hs3 := hb3.size
 have HB3 := Lib.hid (HB2.out.trans (hb3.mono (by omega)))
 have hK4 := Lib.hid ((hK3.step (KFr.set h43.out (by decide) (by decide) 0 (.slice (some ⟨ob, 0, none⟩) N'.length cq))).step (KFr.set (h43.out.store 0 (.slice (some ⟨ob, 0, none⟩) N'.length cq)) (by decide) (by decide) 1 (.int .i64 r')))
 have hRF := Lib.hid ((h43.out.store 0 (.slice (some ⟨ob, 0, none⟩) N'.length cq)).store 1 (.int .i64 r'))
 have hBF := Lib.hid ((HB3.out.setCell (p := ⟨gb + 1, 0, none⟩) (by show gb ≤ gb + 1; omega) (.slice (some ⟨ob, 0, none⟩) N'.length cq)).setCell (p := ⟨gb + 1, 1, none⟩) (by show gb ≤ gb + 1; omega) (.int .i64 r'))
 generalize ((w3.setCell ⟨gb + 1, 0, none⟩ (.slice (some ⟨ob, 0, none⟩) N'.length cq)).setCell ⟨gb + 1, 1, none⟩ (.int .i64 r')) = wf at *
 have hsz : (Tryz.prog.info? 26).map (·.size) = some 2 := by kernel_rfl
 exact bodyPost_ret (results_row_tmp Tryz.results66 _ _ _ _ #[.slice (some ⟨ob, 0, none⟩) N'.length cq, .int .i64 r'] (0, 0) _ _ rfl rfl hRF.out Tryz.underlying26 rfl hsz) rfl ⟨ob, cq, rfl, by rw [HGB.out]; exact hBF.out, hK4.out⟩
def SubE1 (w : World) (N' : List GNode) (r' : Int) (e : Ending) (w' : World) : Prop := ∃ ob cq, e = .returned (.agg #[.slice (some ⟨ob, 0, none⟩) N'.length cq, .int .i64 r']) ∧ Below w.heap.size w w' ∧ GK w' ob N'
set_option maxRecDepth 20000 in
set_option maxHeartbeats 8000000 in
theorem csub_any {B g o c r k : Nat} {nodes N' : List GNode} {r' : Int} (hC : SubC nodes r k N' r') (w : World) (hw : LibE w) (hG : GRd w B g o nodes) :
  Calls Tryz.prog 40 #[.agg #[.slice (some ⟨g, o, none⟩) nodes.length c, .int .i64 (r : Int)], .int .i64 (k : Int)] w (SubE1 w N' r') := by
 obtain ⟨n, hn⟩ : ∃ n, nodes.length = n := ⟨_, rfl⟩
 have HG := Lib.hid hG
 have HW := Lib.hid hw
 have hBw := hG.2.1
 have D1 := Lib.hid (fun (w' : World) (h : LibE w') (h' : GRd w' B g o nodes) => gsub_any (c := c) hC w' h h')
 rw [hn] at D1 ⊢
 clear hC hG hw hn
 obtain ⟨h2, h4, hb1, hz1⟩ := box2 w 26 26 [.slice (some ⟨g, o, none⟩) n c, .int .i64 (r : Int)] [.slice none 0 0, .int .i64 0]
 go_enter Tryz.func40, Tryz.ntmps40
 go_upto_region 1 with (fail)
 obtain ⟨gb, hgb⟩ : ∃ x, w.heap.size = x := ⟨_, rfl⟩
 have HGB := Lib.hid hgb
 have HB1 := Lib.hid hb1
 generalize ((w.alloc (.cells #[.slice (some ⟨g, o, none⟩) n c, .int .i64 (r : Int)] 26)).alloc (.cells #[.slice none 0 0, .int .i64 0] 26)) = W at *
 rw [hgb] at h2 h4 hz1 HB1 hBw ⊢
 clear hgb hb1
 have hG1 := Lib.hid (HG.out.below HB1.out hBw)
 have hW1 := Lib.hid (HW.out.keep (by rw [HGB.out]; exact HB1.out))
 have hgl := h4.out.lt
 have x0 := h2.out.cell' (i := 0) rfl
 have x1 := h2.out.cell' (i := 1) rfl
 go_upto_region 2 with (go_at_call 66; ((with_reducible refine (D1.out _ hW1.out hG1.out).mono ?_)); rintro e w3 ⟨ob, cq, rfl, hb3, hK3⟩)
 have hbn : Below w3.heap.size w3 (w3.alloc (.cells #[.slice (some ⟨ob, 0, none⟩) N'.length cq, .int .i64 r'] 26)) := (Below.refl _ _).alloc (Nat.le_refl _) _
 have hN := Lib.hid (Arr.new w3 26 [.slice (some ⟨ob, 0, none⟩) N'.length cq, .int .i64 r'])
 have h43 := Lib.hid ((h4.out.keep hb3).keep hbn)
 have hK4 := hK3.step (KFr.below hbn)
 have hs3 := hb3.size
 have HB3 := Lib.hid ((HB1.out.trans (hb3.mono (by omega))).trans (hbn.mono (by omega)))
 generalize hw4 : (w3.alloc (.cells #[.slice (some ⟨ob, 0, none⟩) N'.length cq, .int .i64 r'] 26)) = w4 at *
 clear hw4
 have d0 := hN.out.cell' (i := 0) rfl
 have d1 := hN.out.cell' (i := 1) rfl
 have c0 := h43.out.cell' (i := 0) rfl
 have c1 := h43.out.cell' (i := 1) rfl
 have f0 := h43.out.frozen 0
 have f1 := h43.out.frozen 1
 have hKF := Lib.hid ((hK4.step (KFr.set h43.out (by decide) (by decide) 0 (.slice (some ⟨ob, 0, none⟩) N'.length cq))).step (KFr.set (h43.out.store 0 (.slice (some ⟨ob, 0, none⟩) N'.length cq)) (by decide) (by decide) 1 (.int .i64 r')))
 have hRF := Lib.hid ((h43.out.store 0 (.slice (some ⟨ob, 0, none⟩) N'.length cq)).store 1 (.int .i64 r'))
 have hBF := Lib.hid ((HB3.out.setCell (p := ⟨gb + 1, 0, none⟩) (by show gb ≤ gb + 1; omega) (.slice (some ⟨ob, 0, none⟩) N'.length cq)).setCell (p := ⟨gb + 1, 1, none⟩) (by show gb ≤ gb + 1; omega) (.int .i64 r'))
 go_upto_region 3 with (fail)
 generalize ((w4.setCell ⟨gb + 1, 0, none⟩ (.slice (some ⟨ob, 0, none⟩) N'.length cq)).setCell ⟨gb + 1, 1, none⟩ (.int .i64 r')) = wf at *
 have r0 := hRF.out.cell' (i := 0) rfl
 have r1 := hRF.out.cell' (i := 1) rfl
 exact bodyPost_ret (v := .agg #[.slice (some ⟨ob, 0, none⟩) N'.length cq, .int .i64 r']) (by simp [results, Tryz.results40, go_sem, r0, r1]) rfl ⟨ob, cq, rfl, by rw [HGB.out]; exact hBF.out, hKF.out⟩
end Go.Proofs.YtoppncpmfajbcaaGreatDoor
namespace Go.Proofs.YtoppncpmfajbcaaGreatDoor
open Go.RowKit
set_option maxRecDepth 20000 in
set_option maxHeartbeats 4000000 in
theorem cleaf_int {g p : Nat} {t : List Nat} (w : World) (h0 : w.cell? ⟨g, p, none⟩ = some (.int .i64 2)) (h1 : w.cell? ⟨g, p + 1, none⟩ = some (.string (mks t))) :
  Calls Tryz.prog 36 #[.pointer (some ⟨g, p, none⟩)] w fun e w' => e = .returned (.string (mks t)) ∧ w' = w := by
 go_enter Tryz.func36, Tryz.ntmps36
 go_wp2
 go_ret
 exact ⟨rfl, rfl⟩
def lenV (nodes : List GNode) : Nat → Int → List Int → Option (List Int)
 | 0, _, _ => none
 | f + 1, x, kn =>
  if kn.length = nodes.length ∧ 0 ≤ x ∧ x < (nodes.length : Int) then
   if 0 ≤ atG kn x then some kn
   else if (ndAt nodes x.toNat).kind = 2 ∧ (ndAt nodes x.toNat).items = [] ∧ (ndAt nodes x.toNat).text.length ≤ 65537 then some (kn.set x.toNat ((ndAt nodes x.toNat).text.length : Int))
   else if (ndAt nodes x.toNat).kind = 9 ∧ 0 < (ndAt nodes x.toNat).items.length then
    match runG (fun y (s : Int × List Int) => match lenV nodes f y s.2 with
     | none => none
     | some kn' => if kn'.length = nodes.length ∧ 0 ≤ atG kn' y ∧ s.1 + atG kn' y ≤ 65537 then some (s.1 + atG kn' y, kn') else none) (ndAt nodes x.toNat).items (1 + ((ndAt nodes x.toNat).items.length : Int), kn) with
    | none => none
    | some (sum, kn') => some (kn'.set x.toNat sum)
   else none
  else none
def LenR (w : World) (kb k : Nat) (kn' : List Int) (e : Ending) (w' : World) : Prop := e = .returned (.int .i64 (atG kn' (k : Int))) ∧ w.grownBy w' (some kb) ∧ Hid (Arr w' kb 3 (I64 kn'))
set_option maxRecDepth 20000 in
set_option maxHeartbeats 16000000 in
theorem clen_any {B g o c tb sb kb n : Nat} {nodes : List GNode} {root : Int} (hI : Idx nodes) (hL : NL 65536 nodes) (hn4 : n ≤ 4096) (hn : nodes.length = n) (hBk : B ≤ kb) (f : Nat) : ∀ (k : Nat) (kn kn' : List Int) (w : World), lenV nodes f (k : Int) kn = some kn' → GRd w B g o nodes → Arr w tb 75 [.slice (some ⟨g, o, none⟩) n c, .int .i64 root, .slice (some ⟨sb, 0, none⟩) n n] → Arr w kb 3 (I64 kn) →
  Calls Tryz.prog 23 #[.pointer (some ⟨tb, 0, none⟩), .int .i64 (k : Int), .slice (some ⟨kb, 0, none⟩) n n] w (LenR w kb k kn') := by
 induction f with
 | zero => intro k kn kn' w h; cases h
 | succ f ih =>
  intro k kn kn' w h hG hT hA
  rw [lenV] at h
  split at h
  ·rename_i hin
   obtain ⟨hkl, _, hkx⟩ := hin
   have hkn : k < n := by omega
   have hkn' : (k : Int) < n := by omega
   have hk0 : (0 : Int) ≤ k := by omega
   obtain ⟨v, hv⟩ : ∃ v, kn[k]? = some v := ⟨_, List.getElem?_eq_getElem (by omega)⟩
   have hat : atG kn (k : Int) = v := by unfold atG; rw [Int.toNat_natCast, List.getD_eq_getElem?_getD, hv]; rfl
   rw [hat, Int.toNat_natCast] at h
   have ck := hA.cell' (I64_get hv)
   have ht := hT.cell' (i := 0) rfl
   split at h
   ·rename_i hv0
    obtain rfl := Option.some.inj h
    go_enter Tryz.func23, Tryz.ntmps23
    go_wp2
    go_ret
    exact ⟨by rw [hat]; rfl, World.grownBy.refl _ _, hA⟩
   ·rename_i hv0
    have hv1 : ¬ v ≥ 0 := hv0
    obtain ⟨K, ckk, I, ci, d0, d1, d2, d3, d4, _, hI1, hI2⟩ := hG.of_at (show k < nodes.length by omega)
    have hnl := (hL k (by omega)).2
    generalize hnd : ndAt nodes k = nd at *
    split at h
    ·rename_i hk2
     obtain ⟨hk2, hi2, htl⟩ := hk2
     obtain rfl := Option.some.inj h
     rw [hk2] at d0
     rw [hi2] at d4
     have hA2 := Lib.hid (hA.store k (.int .i64 (nd.text.length : Int)))
     have fk := hA.frozen k
     have D := Lib.hid (cleaf_int w d0 d1)
     go_enter Tryz.func23, Tryz.ntmps23
     go_upto_region 12 with (go_at_call 36; ((with_reducible refine D.out.mono ?_)); rintro e w2 ⟨rfl, hw2⟩; subst hw2)
     go_upto_region 13 with (fail)
     obtain ⟨tl, htl2⟩ : ∃ tl : Int, (nd.text.length : Int) = tl := ⟨_, rfl⟩
     have htl3 : tl ≤ 65537 := by omega
     have hmin : min tl 65537 = tl := by omega
     have hak : atG (kn.set k tl) (k : Int) = tl := by unfold atG; rw [Int.toNat_natCast, List.getD_eq_getElem?_getD, List.getElem?_set_self (by omega)]; rfl
     rw [htl2] at hA2 ⊢
     go_loopw [8, 58] (fun s u wr => s = .int .i64 tl ∧ u = .int .i64 0 ∧ wr = w2) (fun _ _ _ => 0)
     case atStart => exact ⟨rfl, rfl, rfl⟩
     case round =>
      obtain ⟨rfl, rfl, rfl⟩ := hrel
      go_wp2
      go_ret
      rw [htl2]
      exact ⟨by rw [hak]; rfl, grown_set wr ⟨kb, k, none⟩ _, by have h := hA2.out; rw [I64_set] at h; exact h⟩
    ·rename_i hk2
     split at h
     ·rename_i hk9
      obtain ⟨hk9, hni0⟩ := hk9
      rw [hk9] at d0
      split at h
      ·cases h
      ·rename_i sum KN hrun
       obtain rfl := Option.some.inj h
       obtain ⟨ni, hni⟩ : ∃ ni, nd.items.length = ni := ⟨_, rfl⟩
       have HNI := Lib.hid hni
       have HI1 := Lib.hid hI1
       have HI2 := Lib.hid hI2
       have HG := Lib.hid hG
       have HT := Lib.hid hT
       have HND := Lib.hid hnd
       have hidx := hI k (by omega)
       rw [hnd] at hidx
       have HIX := Lib.hid (fun x (hx : x ∈ nd.items) => (show 0 ≤ x ∧ x < (n : Int) by have := hidx x (by unfold refs; exact List.mem_append.2 (.inr hx)); omega))
       have hne : Hid (tb ≠ kb) := hT.ne hA (by decide)
       have hrun0 := Lib.hid hrun
       have hA0 := Lib.hid hA
       have hkl0 : Hid (kn.length = n) := by show _ = _; omega
       rw [hni] at d4 hni0 hnl hrun0
       have hmx : (2 : Int) + max 0 ((ni : Int) - 1) = 1 + (ni : Int) := by omega
       clear h hrun hG hT hA hidx hnd hkl hI1 hI2 hI
       go_enter Tryz.func23, Tryz.ntmps23
       go_upto_region 13 with (fail)
       have hst : Hid (0 ≤ 1 + (ni : Int) ∧ 1 + (ni : Int) ≤ 65537) := by show _ ∧ _; omega
       have hgr0 : w.grownBy w (some kb) := World.grownBy.refl _ _
       go_loopw [8, 58] (fun sv u wr => ∃ (i : Nat) (sm : Int) (knr : List Int), i ≤ ni ∧ u = .int .i64 (i : Int) ∧ sv = .int .i64 sm ∧ Hid (runG (fun y (s : Int × List Int) => match lenV nodes f y s.2 with
     | none => none
     | some kn' => if kn'.length = nodes.length ∧ 0 ≤ atG kn' y ∧ s.1 + atG kn' y ≤ 65537 then some (s.1 + atG kn' y, kn') else none) (nd.items.drop i) (sm, knr) = some (sum, KN)) ∧ Hid (0 ≤ sm ∧ sm ≤ 65537) ∧ Hid (knr.length = n) ∧ Hid (Arr wr kb 3 (I64 knr)) ∧ Hid (w.grownBy wr (some kb))) (fun _ u _ => ni - (intOf u).toNat)
       case atStart => exact ⟨0, _, kn, Nat.zero_le _, rfl, rfl, hrun0, hst, hkl0, hA0, hgr0⟩
       case round =>
        obtain ⟨i, sm, knr, hi, rfl, rfl, hr, hsm, hkl, hA, hgr⟩ := hrel
        clear hrun0 hst hkl0 hA0 hgr0
        have hr' := hr.out
        obtain ⟨hsm0, hsm1⟩ := hsm.out
        by_cases hin : i < ni
        ·have hin' : (i : Int) < ni := by omega
         obtain ⟨y, hy⟩ : ∃ y, nd.items[i]? = some y := ⟨_, List.getElem?_eq_getElem (by have := HNI.out; omega)⟩
         obtain ⟨hy0, hy1⟩ := HIX.out y (List.mem_of_getElem? hy)
         obtain ⟨ky, rfl⟩ : ∃ ky : Nat, y = (ky : Int) := ⟨y.toNat, by omega⟩
         rw [drop_cons_at hy, runG] at hr'
         split at hr'
         ·cases hr'
         ·rename_i st hst
          dsimp only at hst
          split at hst
          ·cases hst
          ·rename_i kn2 hlv
           split at hst
           ·rename_i hb
            obtain ⟨hb1, hb2, hb3⟩ := hb
            obtain rfl := Option.some.inj hst
            have hGr := HG.out.grown hgr.out hBk
            have hTr := HT.out.grown hgr.out (some_ne hne.out)
            obtain ⟨ad, hAd, cy⟩ := (HI1.out.grown hgr.out (fun ad e e2 => by have h1 := HI2.out ad e; have h2 := Option.some.inj e2; omega)) i _ (I64_get hy)
            subst hAd
            have D := Lib.hid (ih ky knr kn2 wr hlv hGr hTr hA.out)
            have hr2 := Lib.hid hr'
            have dk := d0
            have gk := hGr.of_at (show k < nodes.length by omega)
            rw [HND.out] at gk
            obtain ⟨_, _, _, _, g0, _, _, _, _, _, _⟩ := gk
            rw [hk9] at g0
            have hs1 : Hid (0 ≤ sm + atG kn2 (ky : Int) ∧ sm + atG kn2 (ky : Int) ≤ 65537) := by show _ ∧ _; omega
            have hl1 : Hid (kn2.length = n) := by show _ = _; omega
            have hi0 : (0 : Int) ≤ i := by omega
            clear hr hr' hsm hkl hA hy hy0 hy1 hlv hGr hTr dk
            go_wp2_with (go_at_call 23; ((with_reducible refine D.out.mono ?_)); rintro e w5 ⟨rfl, hg5, hA5⟩)
            go_roundw
            case rel => exact ⟨i + 1, _, kn2, by omega, i64e (by omega), rfl, hr2, hs1, hl1, hA5, grown_trans hgr.out hg5⟩
            case measure => simp [intOf]; omega
           ·cases hst
        ·obtain rfl : ni = i := by omega
         have hin' : ¬ (ni : Int) < ni := by omega
         rw [List.drop_of_length_le (by have := HNI.out; omega), runG] at hr'
         have hr2 := Option.some.inj hr'
         have e1 : sm = sum := congrArg Prod.fst hr2
         have e2 : knr = KN := congrArg Prod.snd hr2
         subst e1
         subst e2
         have hmin : min sm 65537 = sm := by omega
         obtain ⟨v2, hv2⟩ : ∃ v2, knr[k]? = some v2 := ⟨_, List.getElem?_eq_getElem (by have := hkl.out; omega)⟩
         have ck2 := hA.out.cell' (I64_get hv2)
         have fk2 := hA.out.frozen k
         have hak : atG (knr.set k sm) (k : Int) = sm := by unfold atG; rw [Int.toNat_natCast, List.getD_eq_getElem?_getD, List.getElem?_set_self (by have := hkl.out; omega)]; rfl
         have hA2 := Lib.hid (hA.out.store k (.int .i64 sm))
         clear hr hr' hr2 hsm hA hv2
         go_wp2
         go_ret
         exact ⟨by rw [hak]; rfl, grown_trans hgr.out (grown_set wr ⟨kb, k, none⟩ _), by have h := hA2.out; rw [I64_set] at h; exact h⟩
     ·cases h
  ·cases h
end Go.Proofs.YtoppncpmfajbcaaGreatDoor
namespace Go.Proofs.YtoppncpmfajbcaaGreatDoor
open Go.RowKit
set_option maxHeartbeats 2000000 in
set_option maxRecDepth 100000 in
theorem kb_byte (B b : Nat) (bs : List Value) (c : Int) (w : World) (h : BldF B b bs w) (hlen : bs.length + 1 ≤ 140737488355328) (hBw : B ≤ w.heap.size) :
  Calls Tryz.prog 38 #[.pointer (some ⟨b, 0, none⟩), .int .u8 c] w fun e w' => e = .returned .nilIface ∧ BldU B b (bs ++ [.int .u8 c]) w' ∧ Below B w w' ∧ Others b w w' := by
 obtain ⟨i0, hi, hz0, hz1, hz2⟩ := info_parts Tryz.info5
 go_enter Tryz.func38, Tryz.ntmps38
 go_wp2_with (go_at_call 62; refine (copyCheck_any B b bs _ h).mono ?_)
 rintro e w1 ⟨rfl, h1, hb1, hk1⟩
 obtain ⟨hB, v, hbk, hown, hne⟩ := h1
 have c0 : w1.cell? ⟨b, 0, none⟩ = some (.pointer (some ⟨b, 0, none⟩)) := by rw [Lib.cell_of_heap hbk]; rfl
 have c1 : w1.cell? ⟨b, 1, none⟩ = some v := by rw [Lib.cell_of_heap hbk]; rfl
 go_wp2_with (at_builtin; refine wpList_append_ownF _ rfl _ _ 57 rfl B 5 i0 (.int .u8 0) 1 1 Tryz.underlying57 hi hz0 hz1 hz2 rfl (by decide) _ _ _ rfl (hown.alloc _) ⟨w1.heap.size, 0, none⟩ 1 1 [.int .u8 c] rfl rfl ?c1 ?c2 ?c3 ?c4 ?c5 ?_)
 case c1 =>
  intro j u hj
  match j, hj with
  | 0, hj => simp at hj; subst hj; simp [Addr.add]
 case c2 => intro u hu; simp at hu; subst hu; rfl
 case c3 => unfold maxLen; omega
 case c4 => omega
 case c5 => have := hb1.size; simp; omega
 intro v' w2 hown' hgrow _
 have hlt : b < w1.heap.size := (Array.getElem?_eq_some_iff.1 hbk).1
 have hb2 : w2.heap[b]? = some (.cells #[.pointer (some ⟨b, 0, none⟩), v] 59 (0, 0)) := by
  rw [hgrow.block b (by simp; omega) (fun e => hne e.symm), Lib.alloc_old w1 _ b hlt]
  exact hbk
 have d0 : w2.cell? ⟨b, 0, none⟩ = some (.pointer (some ⟨b, 0, none⟩)) := by rw [Lib.cell_of_heap hb2]; rfl
 have d1 : w2.cell? ⟨b, 1, none⟩ = some v := by rw [Lib.cell_of_heap hb2]; rfl
 have f1 : w2.frozen? ⟨b, 1, none⟩ = false := Lib.frozen_of_heap hb2 1
 obtain ⟨g, cap, rfl⟩ : ∃ g cap, v' = .slice (some ⟨g, 0, none⟩) (bs.length + 1) cap := by
  rcases hown'.2 with ⟨_, h0⟩ | ⟨g, cap, cur, fz, hv, _⟩
  ·omega
  ·exact ⟨g, cap, hv⟩
 go_wp2
 go_ret
 refine ⟨rfl, ?_, ?_, ((hk1.alloc _).grown hgrow (Lib.ownsRowF_kind (hown.alloc _))).setCell ⟨b, 1, none⟩ rfl _⟩
 ·exact Lib.BuilderAtF.put hB hb2 (bs' := bs ++ [.int .u8 c]) (by simpa using hown') (by decide)
 ·exact ((hb1.alloc (by have := hb1.size; omega) _).grown hgrow (by have := hb1.size; simp; omega) (fun k hk => (hown.lt k hk).1)).setCell (p := ⟨b, 1, none⟩) hB _
set_option maxHeartbeats 2000000 in
set_option maxRecDepth 100000 in
theorem kb_string (B b : Nat) (bs : List Value) (s : ByteArray) (w : World) (h : BldF B b bs w) (hlen : bs.length + s.size ≤ 140737488355328) (hBw : B ≤ w.heap.size) :
  Calls Tryz.prog 37 #[.pointer (some ⟨b, 0, none⟩), .string s] w fun e w' => e = .returned (.tuple #[.int .i64 s.size, .nilIface]) ∧ BldU B b (bs ++ Lib.strCells s) w' ∧ Below B w w' ∧ Others b w w' := by
 obtain ⟨i0, hi, hz0, hz1, hz2⟩ := info_parts Tryz.info5
 go_enter Tryz.func37, Tryz.ntmps37
 go_wp2_with (go_at_call 62; refine (copyCheck_any B b bs _ h).mono ?_)
 rintro e w1 ⟨rfl, h1, hb1, hk1⟩
 obtain ⟨hB, v, hbk, hown, hne⟩ := h1
 have c0 : w1.cell? ⟨b, 0, none⟩ = some (.pointer (some ⟨b, 0, none⟩)) := by rw [Lib.cell_of_heap hbk]; rfl
 have c1 : w1.cell? ⟨b, 1, none⟩ = some v := by rw [Lib.cell_of_heap hbk]; rfl
 go_wp2_with (at_builtin; refine Lib.wpList_append_own_stringF _ rfl _ _ 57 9 rfl B 5 i0 Tryz.underlying57 Tryz.underlying9 hi hz0 hz1 hz2 _ _ _ rfl hown s rfl ?c3 ?c4 ?c5 ?_)
 case c3 => unfold maxLen; omega
 case c4 => omega
 case c5 => have := hb1.size; omega
 intro v' w2 hown' hgrow _
 have hlt : b < w1.heap.size := (Array.getElem?_eq_some_iff.1 hbk).1
 have hb2 : w2.heap[b]? = some (.cells #[.pointer (some ⟨b, 0, none⟩), v] 59 (0, 0)) := by
  rw [hgrow.block b hlt (fun e => hne e.symm)]
  exact hbk
 have d0 : w2.cell? ⟨b, 0, none⟩ = some (.pointer (some ⟨b, 0, none⟩)) := by rw [Lib.cell_of_heap hb2]; rfl
 have d1 : w2.cell? ⟨b, 1, none⟩ = some v := by rw [Lib.cell_of_heap hb2]; rfl
 have f1 : w2.frozen? ⟨b, 1, none⟩ = false := Lib.frozen_of_heap hb2 1
 obtain ⟨ao, n', cap, rfl⟩ : ∃ ao n' cap, v' = .slice ao n' cap := by
  rcases hown'.2 with ⟨hv, _⟩ | ⟨g, cap, cur, fz, hv, _⟩
  ·exact ⟨_, _, _, hv⟩
  ·exact ⟨_, _, _, hv⟩
 go_wp2
 go_ret2
 refine ⟨rfl, ?_, ?_, (hk1.grown hgrow (Lib.ownsRowF_kind hown)).setCell ⟨b, 1, none⟩ rfl _⟩
 ·exact Lib.BuilderAtF.put hB hb2 (bs' := bs ++ Lib.strCells s) (by simpa [Lib.strCells_length] using hown') (by decide)
 ·exact (hb1.grown hgrow (by have := hb1.size; omega) (fun k hk => (hown.lt k hk).1)).setCell (p := ⟨b, 1, none⟩) hB _
end Go.Proofs.YtoppncpmfajbcaaGreatDoor
