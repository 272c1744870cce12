/- The walk of the table's entries at a list, its row told by its block. -/
import Derived.Test.YtoppncpmfajbcaaGreatDoorMBm
import Derived.Test.YtoppncpmfajbcaaGreatDoorMAy
set_option linter.unusedVariables false
set_option linter.unusedSimpArgs false
set_option linter.defProp false
set_option linter.constructorNameAsVariable false
namespace Go.Proofs.YtoppncpmfajbcaaGreatDoor
open Go.RowKit
def KentR (w : World) (sb : Nat) (nodes : List GNode) (k : Nat) (es : List Value) (e : Ending) (w' : World) : Prop :=
 ∃ ob, e = .returned (.slice (some ⟨ob, 0, none⟩) (ndAt nodes k).items.length (ndAt nodes k).items.length) ∧ w.heap.size ≤ ob ∧ ob < w'.heap.size ∧ Hid (w.grownBy w' (some sb)) ∧ Hid (Arr w' sb 32 (es.set k (.slice (some ⟨ob, 0, none⟩) (ndAt nodes k).items.length (ndAt nodes k).items.length))) ∧ Hid (Arr w' ob 3 (I64 (rngI (ndAt nodes k).items.length)))
set_option maxRecDepth 20000 in
set_option maxHeartbeats 16000000 in
theorem kent_any {B g o c tb sb k : Nat} {nodes : List GNode} {root : Int} {es : List Value} (hL : NL 65536 nodes) (hk : k < nodes.length) (h9 : (ndAt nodes k).kind = 9) (w : World) (hG : GRd w B g o nodes) (hT : TabN w tb sb g o c nodes.length root es) (hes : es[k]? = some (.slice none 0 0)) (hB : B ≤ sb) :
  Calls Tryz.prog 39 #[.pointer (some ⟨tb, 0, none⟩), .int .i64 (k : Int)] w (KentR w sb nodes k es) := by
 have h1 : Hid (Arr (w.alloc (.cells #[.pointer (some ⟨tb, 0, none⟩)] 53)) w.heap.size 53 [.pointer (some ⟨tb, 0, none⟩)]) := Arr.new w _ _
 have hB1 : Hid (Below w.heap.size w (w.alloc (.cells #[.pointer (some ⟨tb, 0, none⟩)] 53))) := (Below.refl _ _).alloc (Nat.le_refl _) _
 have HG := Lib.hid hG
 have HT := Lib.hid (hT.keep hB1.out)
 have htl := hT.tab.lt
 have hsl := hT.srt.lt
 have hts : tb ≠ sb := Arr.ne hT.tab hT.srt (by decide)
 have HES := Lib.hid hes
 have HL := Lib.hid (hL k hk)
 have HNL := Lib.hid hL
 have hmf : ∀ (fn : Fn) (first cap : Array Value) (w : World), (Instr.makeFunc fn first cap).run Tryz.prog w = .ok (.func fn first cap) w := fun _ _ _ _ => rfl
 have k0 : (0 : Int) ≤ k := by omega
 have k1 : (k : Int) < nodes.length := by omega
 clear hG hT hes hL
 go_enter Tryz.func39, Tryz.ntmps39
 go_upto_region 1 with (fail)
 generalize w.alloc (.cells #[.pointer (some ⟨tb, 0, none⟩)] 53) = W at *
 obtain ⟨pb, hpb⟩ : ∃ b, w.heap.size = b := ⟨_, rfl⟩
 rw [hpb] at h1 hB1 htl hsl
 have HPB := Lib.hid hpb
 rw [hpb]
 clear hpb
 obtain ⟨n, hn⟩ : ∃ n, nodes.length = n := ⟨_, rfl⟩
 rw [hn] at HT k1 hk
 have HN := Lib.hid hn
 clear hn
 have hGW := Lib.hid (HG.out.below hB1.out (by have := HG.out.2.1; have := HPB.out; omega))
 have x0 := h1.out.cell' (i := 0) rfl
 have t0 := HT.out.tab.cell' (i := 0) rfl
 have t2 := HT.out.tab.cell' (i := 2) rfl
 have s0 := HT.out.srt.cell' HES.out
 have hn5 : Hid (Arr (W.alloc (.cells #[.pointer (some ⟨g, o + k * 5, none⟩)] 76)) W.heap.size 76 [.pointer (some ⟨g, o + k * 5, none⟩)]) := Arr.new W _ _
 have hb5 : Hid (Below W.heap.size W (W.alloc (.cells #[.pointer (some ⟨g, o + k * 5, none⟩)] 76))) := (Below.refl _ _).alloc (Nat.le_refl _) _
 go_upto_region 2 with (fail)
 clear x0 t0
 generalize (W.alloc (.cells #[.pointer (some ⟨g, o + k * 5, none⟩)] 76)) = w5 at *
 obtain ⟨qb, hqb⟩ : ∃ b, W.heap.size = b := ⟨_, rfl⟩
 have hs1 := hB1.out.size
 have hpl := h1.out.lt
 rw [hqb] at hn5 hpl ⊢
 have HP5 := Lib.hid (h1.out.keep hb5.out)
 have HT5 := Lib.hid (HT.out.keep hb5.out)
 have hG5 := Lib.hid (hGW.out.below hb5.out (by exact hGW.out.2.1))
 have hB5 : Hid (Below w.heap.size w w5) := by have h := hB1.out; rw [← HPB.out] at h; exact h.trans (hb5.out.mono h.size)
 have hql := hn5.out.lt
 clear hqb t2 s0 h1 hB1 HT hGW hb5 hs1
 obtain ⟨K, ck, I, ci, c0, c1, c2, c3, c4, _, _⟩ := hG5.out.of_at (i := k) (by rw [HN.out]; exact hk)
 obtain ⟨m, hm⟩ : ∃ m, (ndAt nodes k).items.length = m := ⟨_, rfl⟩
 have HM := Lib.hid hm
 rw [hm] at c4
 have hml : m ≤ 65536 := by have := HL.out.2; omega
 clear hm
 have x0 := HP5.out.cell' (i := 0) rfl
 have n0 := hn5.out.cell' (i := 0) rfl
 have t2 := HT5.out.tab.cell' (i := 2) rfl
 have s0 := HT5.out.srt.cell' HES.out
 go_upto_region 5 with (at_make; go_loud (refine wpList_mk rfl _ _ 32 rfl 3 _ _ Tryz.underlying32 infoInt rfl _ _ _ _ rfl rfl m m (by omega) (by omega) (by omega) (by omega) (by unfold maxLen; omega) ?_; intro ob w6 hob hO hb6 hz6))
 have hOz : Hid (Arr w6 ob 3 (I64 (rngI 0 ++ List.replicate (m - 0) 0))) := by rw [Nat.sub_zero]; show Hid (Arr w6 ob 3 (I64 (List.replicate m 0))); rw [← I64_rep]; exact hO
 have hB6 := Lib.hid (hB5.out.trans (hb6.mono hB5.out.size))
 have HP6 := Lib.hid (HP5.out.keep hb6)
 have HN6 := Lib.hid (hn5.out.keep hb6)
 have HT6 := Lib.hid (HT5.out.keep hb6)
 have hG6 := Lib.hid (hG5.out.below hb6 hG5.out.2.1)
 have lo : qb < ob := by have := hob.out; omega
 have lsb : sb < ob := by omega
 have ltb : tb < ob := by omega
 have lpb : pb < ob := by omega
 have lgB : B ≤ ob := by omega
 have hwo : w.heap.size ≤ ob := by have := hB5.out.size; have := hob.out; omega
 clear x0 n0 t2 s0 c0 c1 c2 c3 c4 hob hO hb6 hz6 HP5 hn5 HT5 hG5 hB5
 go_upto_region 6 with (fail)
 go_loopw [38] (fun v wr => ∃ (i : Nat), i ≤ m ∧ v = .int .i64 (i : Int) ∧ Hid (Arr wr ob 3 (I64 (rngI i ++ List.replicate (m - i) 0))) ∧ Hid (w6.grownBy wr (some ob))) (fun v _ => m - (intOf v).toNat)
 case atStart => exact ⟨0, Nat.zero_le _, rfl, hOz, World.grownBy.refl _ _⟩
 case round =>
  obtain ⟨i, hi, rfl, hLr, hgr⟩ := hrel
  by_cases him : i = m
  ·have hi' : ¬ (i : Int) < m := by omega
   have hL7 : Hid (Arr wr ob 3 (I64 (rngI m))) := by
    have := hLr.out
    rw [him, Nat.sub_self, List.replicate_zero, List.append_nil] at this
    exact this
   obtain ⟨w7, hw7⟩ : ∃ x : World, x = wr := ⟨_, rfl⟩
   subst hw7
   have HP7 := Lib.hid (HP6.out.grown hgr.out (some_ne (by omega)))
   have HN7 := Lib.hid (HN6.out.grown hgr.out (some_ne (by omega)))
   have HTt7 := Lib.hid (HT6.out.tab.grown hgr.out (some_ne (by omega)))
   have HTs7 := Lib.hid (HT6.out.srt.grown hgr.out (some_ne (by omega)))
   have hG7 := Lib.hid (hG6.out.grown hgr.out lgB)
   have hwq : Hid (w.grownBy w7 (some sb)) := by
    have h : w.grownBy w6 (some sb) := ⟨hB6.out.os, hB6.out.tape, hB6.out.output, hB6.out.size, fun j hj _ => hB6.out.block j hj⟩
    exact ⟨hgr.out.os.trans h.os, hgr.out.tape.trans h.tape, hgr.out.output.trans h.output, Nat.le_trans h.size hgr.out.size, fun j hj hne => (hgr.out.block j (Nat.lt_of_lt_of_le hj h.size) (fun e => by have := Option.some.inj e; omega)).trans (h.block j hj hne)⟩
   have hol : ob < w7.heap.size := hL7.out.lt
   clear hLr hgr him hi hOz HP6 HN6 HT6 hG6 hB6
   obtain ⟨K, ck, I, ci, c0, c1, c2, c3, c4, _, _⟩ := hG7.out.of_at (i := k) (by rw [HN.out]; exact hk)
   have x0 := HP7.out.cell' (i := 0) rfl
   have n0 := HN7.out.cell' (i := 0) rfl
   have t0 := HTt7.out.cell' (i := 0) rfl
   have t2 := HTt7.out.cell' (i := 2) rfl
   have s0 := HTs7.out.cell' HES.out
   have sf := HTs7.out.frozen k
   clear c1 c3 c4
   have hk2 : ((ndAt nodes k).kind == 10) = false := by rw [h9]; rfl
   have hF : Hid (KentR w sb nodes k es (.returned (.slice (some ⟨ob, 0, none⟩) m m)) (w7.setCell ⟨sb, k, none⟩ (.slice (some ⟨ob, 0, none⟩) m m))) := by
    have h := HM.out
    unfold KentR
    rw [h]
    exact ⟨ob, rfl, hwo, by simp [World.setCell]; exact hol, grown_trans hwq.out (grown_set w7 ⟨sb, k, none⟩ _), HTs7.out.store k _, hL7.out.far (p := ⟨sb, k, none⟩) (show ob ≠ sb by omega) _⟩
   clear HTs7 HTt7 HP7 hwq hL7 hG7 HN7 t0
   go_wp2_with (fail)
   go_ret
   exact hF.out
  ·have hi' : (i : Int) < m := by omega
   have i0 : (0 : Int) ≤ i := by omega
   have p0 : wr.cell? ⟨ob, i, none⟩ = some (.int .i64 0) := hLr.out.cell' (i := i) (by
    unfold I64
    rw [List.getElem?_map, List.getElem?_append_right (by rw [rngI_len]; exact Nat.le_refl _), rngI_len, Nat.sub_self, List.getElem?_replicate, if_pos (by omega)]; rfl)
   have pf := hLr.out.frozen i
   have hL5 : Hid (Arr (wr.setCell ⟨ob, i, none⟩ (.int .i64 (i : Int))) ob 3 (I64 (rngI (i + 1) ++ List.replicate (m - (i + 1)) 0))) := by
    have h := hLr.out.store i (.int .i64 (i : Int))
    rw [I64_set, rng_set (by omega)] at h
    exact h
   have hg5 := Lib.hid (grown_trans hgr.out (grown_set wr ⟨ob, i, none⟩ (.int .i64 (i : Int))))
   clear hLr hgr
   go_wp2_with (fail)
   go_roundw
   case rel => exact ⟨i + 1, by omega, i64e (by omega), hL5, hg5⟩
   case measure => simp [intOf]; omega
end Go.Proofs.YtoppncpmfajbcaaGreatDoor
namespace Go.Proofs.YtoppncpmfajbcaaGreatDoor
open Go.RowKit
def WFr (b sb : Nat) (w w' : World) : Prop := w.heap.size ≤ w'.heap.size ∧ ∀ q C t fz, w.heap[q]? = some (.cells C t fz) → q ≠ b → q ≠ sb → t ≠ 5 → w'.heap[q]? = some (.cells C t fz)
theorem WFr.refl (b sb : Nat) (w : World) : WFr b sb w w := ⟨Nat.le_refl _, fun _ _ _ _ h _ _ _ => h⟩
theorem WFr.trans {b sb : Nat} {u v w : World} (h : WFr b sb u v) (k : WFr b sb v w) : WFr b sb u w := ⟨Nat.le_trans h.1 k.1, fun q C t fz hq h1 h2 h3 => k.2 q C t fz (h.2 q C t fz hq h1 h2 h3) h1 h2 h3⟩
theorem WFr.bld {b sb z : Nat} {w w' : World} (h : Others b w w') (hb : Below z w w') : WFr b sb w w' := ⟨hb.size, fun q C t fz hq h1 _ h3 => h q _ hq (fun e => h1 (Option.some.inj e)) (fun c f e => by
 injection e with _ e2 _
 exact h3 e2)⟩
theorem WFr.row {b sb : Nat} {w w' : World} (h : w.grownBy w' (some sb)) : WFr b sb w w' := ⟨h.size, fun q C t fz hq _ h2 _ => (h.block q (Array.getElem?_eq_some_iff.1 hq).1 (fun e => h2 (Option.some.inj e))).trans hq⟩
theorem WFr.arr {b sb q : Nat} {w w' : World} {t : TypeId} {xs : List Value} (h : WFr b sb w w') (ha : Arr w q t xs) (h1 : q ≠ b) (h2 : q ≠ sb) (h3 : t ≠ 5) : Arr w' q t xs := h.2 q _ t _ ha h1 h2 h3
theorem strB8 {ys : List Nat} (h : By ys) : Lib.strCells (mks ys) = B8 ys := by
 unfold Lib.strCells mks B8
 rw [List.map_map]
 refine List.map_congr_left (fun c hc => ?_)
 have := h c hc
 show Value.int .u8 (((UInt8.ofNat c).toNat : Nat) : Int) = _
 have e : (UInt8.ofNat c).toNat = c := by simp; omega
 rw [e]
theorem B8_app (a c : List Nat) : B8 (a ++ c) = B8 a ++ B8 c := by simp [B8]
theorem bldU_row {z b sb : Nat} {bs : List Value} {w w' : World} {es : List Value} (h : BldU z b bs w) (hg : w.grownBy w' (some sb)) (hs : Arr w sb 32 es) (hne : sb ≠ b) : BldU z b bs w' := by
 have hlt := h.lt
 obtain ⟨hB, v, hk, hown, hvn⟩ := h
 refine ⟨hB, v, (hg.block b hlt (fun e => hne (Option.some.inj e).symm)).trans hk, hown.kept hg (.inr fun e => ?_), hvn⟩
 obtain ⟨c, fz, hc⟩ := Lib.ownsRowF_kind hown sb e
 exact absurd (cells_kind hs hc) (by decide)
def writeV (nodes : List GNode) : Nat → Int → List Bool × List Nat → Option (List Bool × List Nat)
 | 0, _, _ => none
 | f + 1, x, s =>
  if s.1.length = nodes.length ∧ 0 ≤ x ∧ x < (nodes.length : Int) ∧ s.2.length ≤ 60000 then
   if (ndAt nodes x.toNat).kind = 2 ∧ (ndAt nodes x.toNat).text.length ≤ 1000 then some (s.1, s.2 ++ (ndAt nodes x.toNat).text)
   else if (ndAt nodes x.toNat).kind = 9 ∧ s.1.getD x.toNat false = false then
    match runG (fun y (st : Nat × List Bool × List Nat) => if st.2.2.length ≤ 60000 then
      match writeV nodes f y (st.2.1, if st.1 = 0 then st.2.2 else st.2.2 ++ [44]) with
      | none => none
      | some r => some (st.1 + 1, r.1, r.2)
     else none) (ndAt nodes x.toNat).items (0, s.1.set x.toNat true, s.2 ++ [91]) with
    | none => none
    | some st => if st.2.2.length ≤ 60000 then some (st.2.1, st.2.2 ++ [93]) else none
   else none
  else none
def MemW (n : Nat) (m : List Bool) (es : List Value) : Prop := es.length = n ∧ ∀ j, j < n → m.getD j false = false → es[j]? = some (.slice none 0 0)
def WrR (w : World) (z b sb n : Nat) (s' : List Bool × List Nat) (e : Ending) (w' : World) : Prop := e = .returned (.tuple #[]) ∧ Below z w w' ∧ WFr b sb w w' ∧ Hid (BldF z b (B8 s'.2) w') ∧ ∃ es', Hid (Arr w' sb 32 es') ∧ Hid (MemW n s'.1 es')
set_option maxRecDepth 20000 in
set_option maxHeartbeats 16000000 in
theorem cwrite_any {B g o c tb sb b n z : Nat} {nodes : List GNode} {root : Int} (hI : Idx nodes) (hL : NL 65536 nodes) (hBy : ∀ k, By (ndAt nodes k).text) (hn4 : n ≤ 4096) (hn : nodes.length = n) (hBz : B ≤ z) (hzs : z ≤ sb) (hts : tb ≠ b) (hsb : sb ≠ b) (f : Nat) : ∀ (k : Nat) (s s' : List Bool × List Nat) (es : List Value) (w : World), writeV nodes f (k : Int) s = some s' → GRd w B g o nodes → TabN w tb sb g o c n root es → MemW n s.1 es → BldF z b (B8 s.2) w → z ≤ w.heap.size →
  Calls Tryz.prog 24 #[.pointer (some ⟨tb, 0, none⟩), .pointer (some ⟨b, 0, none⟩), .int .i64 (k : Int)] w (WrR w z b sb n s') := by
 induction f with
 | zero => intro k s s' es w h; cases h
 | succ f ih =>
  intro k s s' es w h hG hT hM hB hzw
  rw [writeV] at h
  split at h
  ·rename_i hin
   obtain ⟨hsl, _, hkx, hlen⟩ := hin
   have hkn : k < n := by omega
   have hkn' : (k : Int) < n := by omega
   have hk0 : (0 : Int) ≤ k := by omega
   rw [Int.toNat_natCast] at h
   have ht := hT.tab.cell' (i := 0) rfl
   obtain ⟨K, ckk, I, ci, d0, d1, d2, d3, d4, _, hI1, hI2⟩ := hG.of_at (show k < nodes.length by omega)
   have hby := hBy k
   generalize hnd : ndAt nodes k = nd at *
   split at h
   ·rename_i hk2
    obtain ⟨hk2, htl⟩ := hk2
    obtain rfl := Option.some.inj h
    rw [hk2] at d0
    have D := Lib.hid (cleaf_int w d0 d1)
    have D2 := Lib.hid (kb_string z b (B8 s.2) (mks nd.text) w hB (by rw [length_B8, size_mks]; omega) hzw)
    have HS := Lib.hid (strB8 hby)
    have HT := Lib.hid hT.srt
    have HM := Lib.hid hM
    clear hT hM hB hG
    go_enter Tryz.func24, Tryz.ntmps24
    go_wp2_with (first | (go_at_call 36; ((with_reducible refine D.out.mono ?_)); rintro e w2 ⟨rfl, hw2⟩; subst hw2) | (go_at_call 37; ((with_reducible refine D2.out.mono ?_)); rintro e w3 ⟨rfl, hbl3, hb3, ho3⟩))
    go_end0
    refine ⟨rfl, hb3, WFr.bld ho3 hb3, ?_, es, ho3 sb _ HT.out (fun e => hsb (Option.some.inj e)) (fun c fz e => by injection e with _ e2 _; exact absurd e2 (by decide)), HM.out⟩
    have h := hbl3
    rw [HS.out, ← B8_app] at h
    exact .inr h
   ·rename_i hk2
    split at h
    ·rename_i hk9
     obtain ⟨hk9, hmk⟩ := hk9
     rw [hk9] at d0
     split at h
     ·cases h
     ·rename_i st hrun
      split at h
      ·rename_i hst
       obtain rfl := Option.some.inj h
       have hes := hM.2 k hkn hmk
       have D1 := Lib.hid (kb_byte z b (B8 s.2) 91 w hB (by rw [length_B8]; omega) hzw)
       have HI1 := Lib.hid hI1
       have HI2 := Lib.hid hI2
       have HG := Lib.hid hG
       have HT := Lib.hid hT
       have HM := Lib.hid hM
       have HND := Lib.hid hnd
       have HRUN := Lib.hid hrun
       have HES := Lib.hid hes
       obtain ⟨ni, hni⟩ : ∃ ni, nd.items.length = ni := ⟨_, rfl⟩
       have HNI := Lib.hid hni
       rw [hni] at d4
       have e91 : (mks [91, 93]).toList = [91, 93] := by simp [toList_mks]
       clear h hrun hG hT hM hB hI1 hI2 hnd hes hni
       go_enter Tryz.func24, Tryz.ntmps24
       go_upto_region 13 with (go_at_call 38; (refine D1.out.mono ?_); rintro e w1 ⟨rfl, hbl1, hb1, ho1⟩)
       have hw1 := WFr.bld ho1 hb1 (sb := sb)
       have hG1 := Lib.hid (HG.out.below hb1 hBz)
       have hT1 : Hid (TabN w1 tb sb g o c n root es) := ⟨ho1 tb _ HT.out.tab (fun e => hts (Option.some.inj e)) (fun c fz e => by injection e with _ e2 _; exact absurd e2 (by decide)), ho1 sb _ HT.out.srt (fun e => hsb (Option.some.inj e)) (fun c fz e => by injection e with _ e2 _; exact absurd e2 (by decide))⟩
       have D2 := Lib.hid (kent_any (c := c) (B := B) hL (show k < nodes.length by omega) (by rw [HND.out]; exact hk9) w1 hG1.out (by rw [hn]; exact hT1.out) HES.out (by omega))
       have hs1 := hb1.size
       have hblt : b < w1.heap.size := (Array.getElem?_eq_some_iff.1 hbl1.2.choose_spec.1).1
       go_upto_region 14 with (go_at_call 39; ((with_reducible refine D2.out.mono ?_)); rintro e w2 ⟨ob, rfl, hob, hobl, hg2, hsr2, hA2⟩; rw [HND.out, HNI.out])
       have hU2 := bldU_row hbl1 hg2.out hT1.out.srt hsb
       rw [HND.out, HNI.out] at hsr2 hA2
       have hbA : BldF z b (B8 (s.2 ++ [91])) w2 := by rw [B8_app]; exact .inr hU2
       have hBB := Lib.hid hbA
       have hB2 : Hid (Below z w w2) := below_row hb1 hg2.out (by omega) hzs
       have hW2 := Lib.hid (hw1.trans (WFr.row hg2.out))
       have hM2 : Hid (MemW n (s.1.set k true) (es.set k (.slice (some ⟨ob, 0, none⟩) ni ni))) := by
        refine ⟨by rw [List.length_set]; exact HM.out.1, fun j hj hm => ?_⟩
        have hjk : k ≠ j := by
         rintro rfl
         rw [List.getD_eq_getElem?_getD, List.getElem?_set_self (by omega)] at hm
         cases hm
        rw [List.getElem?_set_ne hjk]
        rw [List.getD_eq_getElem?_getD, List.getElem?_set_ne hjk, ← List.getD_eq_getElem?_getD] at hm
        exact HM.out.2 j hj hm
       have htb2 : Hid (Arr w2 tb 75 [.slice (some ⟨g, o, none⟩) n c, .int .i64 root, .slice (some ⟨sb, 0, none⟩) n n]) := (WFr.row hg2.out).arr (b := b) hT1.out.tab hts (Arr.ne hT1.out.tab hT1.out.srt (by decide)) (by decide)
       have HS2 := Lib.hid hsr2.out
       have hni6 : ni ≤ 65536 := by
        have := (hL k (by omega)).2
        rw [HND.out, HNI.out] at this
        exact this
       have lob : ob ≠ b ∧ ob ≠ sb := by have := hT1.out.srt.lt; omega
       have hr0 : Hid (runG (fun y (st : Nat × List Bool × List Nat) => if st.2.2.length ≤ 60000 then
      match writeV nodes f y (st.2.1, if st.1 = 0 then st.2.2 else st.2.2 ++ [44]) with
      | none => none
      | some r => some (st.1 + 1, r.1, r.2)
     else none) (nd.items.drop 0) (0, s.1.set k true, s.2 ++ [91]) = some st) := by show _ = _; rw [List.drop_zero]; exact HRUN.out
       clear hU2 hbA hg2 hbl1 hb1 ho1 hw1 hG1 hT1 D1 D2
       go_loopw [69] (fun v wr => ∃ (i : Nat) (mk : List Bool) (out : List Nat) (es' : List Value), i ≤ ni ∧ v = .int .i64 (i : Int) ∧ Hid (runG (fun y (st : Nat × List Bool × List Nat) => if st.2.2.length ≤ 60000 then
      match writeV nodes f y (st.2.1, if st.1 = 0 then st.2.2 else st.2.2 ++ [44]) with
      | none => none
      | some r => some (st.1 + 1, r.1, r.2)
     else none) (nd.items.drop i) (i, mk, out) = some st) ∧ Hid (BldF z b (B8 out) wr) ∧ Hid (Arr wr sb 32 es') ∧ Hid (MemW n mk es') ∧ Hid (Below z w wr) ∧ Hid (WFr b sb w wr) ∧ Hid (WFr b sb w2 wr)) (fun v _ => ni - (intOf v).toNat)
       case atStart => exact ⟨0, _, _, _, Nat.zero_le _, rfl, hr0, hBB, hsr2, hM2, hB2, hW2, WFr.refl _ _ _⟩
       case round =>
        obtain ⟨i, mk, out, es', hi, rfl, hr, hbr, hsr, hmr, hBr, hWr, hVr⟩ := hrel
        clear hr0 hBB hsr2 hM2 hB2 hW2
        have hr' := hr.out
        have hoB := hVr.out.arr hA2.out lob.1 lob.2 (by decide)
        have htr := hVr.out.arr htb2.out hts (Arr.ne htb2.out (show Arr w2 sb 32 _ from HS2.out) (by decide)) (by decide)
        have hGr := HG.out.below hBr.out hBz
        have hzr : z ≤ wr.heap.size := Nat.le_trans hzw hBr.out.size
        obtain ⟨_, _, Ir, cir, g0, _, _, _, g4, _, hqr, _⟩ := hGr.of_at (show k < nodes.length by omega)
        rw [HND.out] at g0 g4 hqr
        rw [hk9] at g0
        rw [HNI.out] at g4
        by_cases hin : i < ni
        ·have hin' : (i : Int) < ni := by omega
         have hi0 : (0 : Int) ≤ i := by omega
         have ci := hoB.cell' (I64_get (show (rngI ni)[i]? = some (i : Int) by simp [rngI, hin]))
         obtain ⟨y, hy⟩ : ∃ y, nd.items[i]? = some y := ⟨_, List.getElem?_eq_getElem (by have := HNI.out; omega)⟩
         obtain ⟨adr, hAdr, cyr⟩ := hqr i _ (I64_get hy)
         subst hAdr
         have hidx := hI k (by omega)
         rw [HND.out] at hidx
         obtain ⟨hy0, hy1⟩ := hidx y (by unfold refs; exact List.mem_append.2 (.inr (List.mem_of_getElem? hy)))
         obtain ⟨ky, rfl⟩ : ∃ ky : Nat, y = (ky : Int) := ⟨y.toNat, by omega⟩
         have hyk := Lib.hid hy
         rw [drop_cons_at hy, runG] at hr'
         split at hr'
         ·cases hr'
         ·rename_i st2 hst2
          dsimp only at hst2
          split at hst2
          ·rename_i hol
           split at hst2
           ·cases hst2
           ·rename_i r hwv
            obtain rfl := Option.some.inj hst2
            have hr2 := Lib.hid hr'
            have hsrr := hsr
            by_cases hi00 : i = 0
            ·subst hi00
             rw [if_pos rfl] at hwv
             have D := Lib.hid (ih ky (mk, out) r es' wr hwv hGr ⟨htr, hsr.out⟩ hmr.out hbr.out hzr)
             rw [show adr.add 0 = adr from by unfold Addr.add; split <;> simp_all] at cyr
             clear hr hr' hbr hoB htr hGr hwv hy hidx
             go_wp2_with (go_at_call 24; ((with_reducible refine D.out.mono ?_)); rintro e w7 ⟨rfl, hb7, hw7, hbl7, es7, hs7, hm7⟩)
             go_roundw
             case rel => exact ⟨1, r.1, r.2, es7, by omega, rfl, hr2, hbl7, hs7, hm7, hBr.out.trans hb7, hWr.out.trans hw7, hVr.out.trans hw7⟩
             case measure => simp [intOf]; omega
            ·rw [if_neg hi00] at hwv
             have hip : (0 : Int) < i := by omega
             have D0 := Lib.hid (kb_byte z b (B8 out) 44 wr hbr.out (by rw [length_B8]; have : out.length ≤ 60000 := hol; omega) hzr)
             have htr' := Lib.hid htr
             have hGr' := Lib.hid hGr
             clear hr hr' hbr hoB htr hGr hy hidx
             go_upto_region 18 with (go_at_call 38; (refine D0.out.mono ?_); rintro e w5 ⟨rfl, hbl5, hb5, ho5⟩)
             have hG5 := hGr'.out.below hb5 hBz
             have hT5 : TabN w5 tb sb g o c n root es' := ⟨ho5 tb _ htr'.out (fun e => hts (Option.some.inj e)) (fun c fz e => by injection e with _ e2 _; exact absurd e2 (by decide)), ho5 sb _ hsr.out (fun e => hsb (Option.some.inj e)) (fun c fz e => by injection e with _ e2 _; exact absurd e2 (by decide))⟩
             have hb5' : BldF z b (B8 (out ++ [44])) w5 := by rw [B8_app]; exact .inr hbl5
             have D := Lib.hid (ih ky (mk, out ++ [44]) r es' w5 hwv hG5 hT5 hmr.out hb5' (Nat.le_trans hzr hb5.size))
             have hwf5 := Lib.hid (WFr.bld ho5 hb5 (sb := sb))
             have hB5 := Lib.hid hb5
             obtain ⟨_, _, I5, ci5, q0, _, _, _, q4, _, hq5, _⟩ := hG5.of_at (show k < nodes.length by omega)
             rw [HND.out] at q0 q4 hq5
             rw [hk9] at q0
             rw [HNI.out] at q4
             obtain ⟨ad5, hAd5, cy5⟩ := hq5 i _ (I64_get hyk.out)
             subst hAd5
             clear hG5 hT5 hb5' hwv hbl5 ho5 hq5 g0 g4
             go_wp2_with (go_at_call 24; ((with_reducible refine D.out.mono ?_)); rintro e w7 ⟨rfl, hb7, hw7, hbl7, es7, hs7, hm7⟩)
             go_roundw
             case rel => exact ⟨i + 1, r.1, r.2, es7, by omega, i64e (by omega), hr2, hbl7, hs7, hm7, (hBr.out.trans hB5.out).trans hb7, (hWr.out.trans hwf5.out).trans hw7, (hVr.out.trans hwf5.out).trans hw7⟩
             case measure => simp [intOf]; omega
          ·cases hst2
        ·obtain rfl : ni = i := by omega
         have hin' : ¬ (ni : Int) < ni := by omega
         rw [List.drop_of_length_le (by have := HNI.out; omega), runG] at hr'
         obtain rfl := Option.some.inj hr'
         have D3 := Lib.hid (kb_byte z b (B8 out) 93 wr hbr.out (by rw [length_B8]; have : out.length ≤ 60000 := hst; omega) hzr)
         have hsrr := hsr.out
         clear hr hr' hbr hoB htr hGr
         go_wp2_with (go_at_call 38; (refine D3.out.mono ?_); rintro e w5 ⟨rfl, hbl5, hb5, ho5⟩)
         go_end0
         refine ⟨rfl, hBr.out.trans hb5, hWr.out.trans (WFr.bld ho5 hb5), ?_, es', ho5 sb _ hsrr (fun e => hsb (Option.some.inj e)) (fun c fz e => by injection e with _ e2 _; exact absurd e2 (by decide)), hmr.out⟩
         have h := hbl5
         show BldF z b (B8 (out ++ [93])) w5
         rw [B8_app]
         exact .inr h
      ·cases h
    ·cases h
  ·cases h
end Go.Proofs.YtoppncpmfajbcaaGreatDoor
namespace Go.Proofs.YtoppncpmfajbcaaGreatDoor
open Go.RowKit
set_option maxRecDepth 20000 in
set_option maxHeartbeats 8000000 in
theorem cacyclic_any {B g o c : Nat} {nodes : List GNode} {r : Int} (hO : ChkOK nodes r) (hz : chkV nodes r = 0) (hd : (depthR nodes r).2 = true) (w : World) (hw : LibE w) (hG : GRd w B g o nodes) :
  Calls Tryz.prog 21 #[.agg #[.slice (some ⟨g, o, none⟩) nodes.length c, .int .i64 r]] w fun e w' => e = .returned (.int .i64 0) ∧ Below w.heap.size w w' := by
 obtain ⟨n, hn⟩ : ∃ n, nodes.length = n := ⟨_, rfl⟩
 have HG := Lib.hid hG
 have HW := Lib.hid hw
 have hBw := hG.2.1
 have D1 := Lib.hid (fun (w' : World) (h : LibE w') (h' : GRd w' B g o nodes) => gcheck_any (c := c) hO w' h h')
 have D2 := Lib.hid (fun (w' : World) (h : LibE w') (h' : GRd w' B g o nodes) => gdepth_any (c := c) hO w' h h')
 rw [hz] at D1
 rw [hd] at D2
 rw [hn] at D1 D2 ⊢
 clear hO hz hd hG hw hn
 have h1 : Hid (Arr (w.alloc (.cells #[.slice (some ⟨g, o, none⟩) n c, .int .i64 r] 26)) w.heap.size 26 [.slice (some ⟨g, o, none⟩) n c, .int .i64 r]) := Arr.new w _ _
 have hb1 : Below w.heap.size w (w.alloc (.cells #[.slice (some ⟨g, o, none⟩) n c, .int .i64 r] 26)) := (Below.refl _ _).alloc (Nat.le_refl _) _
 go_enter Tryz.func21, Tryz.ntmps21
 go_upto_region 1 with (fail)
 obtain ⟨gb, hgb⟩ : ∃ x, w.heap.size = x := ⟨_, rfl⟩
 have HGB := Lib.hid hgb
 have HB1 := Lib.hid hb1
 generalize (w.alloc (.cells #[.slice (some ⟨g, o, none⟩) n c, .int .i64 r] 26)) = W at *
 rw [hgb] at h1 HB1 hBw ⊢
 clear hgb hb1
 have hG1 := Lib.hid (HG.out.below HB1.out hBw)
 have hW1 := Lib.hid (HW.out.keep (by rw [HGB.out]; exact HB1.out))
 have hgl := h1.out.lt
 have x0 := h1.out.cell' (i := 0) rfl
 have x1 := h1.out.cell' (i := 1) rfl
 go_upto_region 3 with (go_at_call 30; ((with_reducible refine (D1.out _ hW1.out hG1.out).mono ?_)); rintro e w2 ⟨rfl, hb2⟩)
 have h1b := Lib.hid (h1.out.keep hb2)
 have HB2 := Lib.hid (HB1.out.trans (hb2.mono (by omega)))
 have hG2 := Lib.hid (hG1.out.below hb2 (by omega))
 have hW2 := Lib.hid (hW1.out.keep hb2)
 have hs2 := hb2.size
 clear x0 x1 h1 HB1 hb2 hG1 hW1 D1
 have x0 := h1b.out.cell' (i := 0) rfl
 have x1 := h1b.out.cell' (i := 1) rfl
 go_wp2_with (go_at_call 35; ((with_reducible refine (D2.out _ hW2.out hG2.out).mono ?_)); rintro e w3 ⟨rfl, hb3⟩)
 go_ret
 exact ⟨rfl, by rw [HGB.out]; exact HB2.out.trans (hb3.mono (by omega))⟩
end Go.Proofs.YtoppncpmfajbcaaGreatDoor
