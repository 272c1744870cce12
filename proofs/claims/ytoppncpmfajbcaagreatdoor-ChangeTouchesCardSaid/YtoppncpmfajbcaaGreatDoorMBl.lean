/- The walk of graph.kept. -/
import Derived.Test.YtoppncpmfajbcaaGreatDoorMBk
import Derived.Test.YtoppncpmfajbcaaGreatDoorMAl
set_option linter.unusedVariables false
set_option linter.unusedSimpArgs false
set_option linter.defProp false
set_option linter.constructorNameAsVariable false
namespace Go.Proofs.YtoppncpmfajbcaaGreatDoor
open Go.RowKit
def cntG (M : List Bool) (y : Int) : Int := ((M.take y.toNat).count true : Nat)
def ixs (n : Nat) : List Int := (List.range n).map fun (i : Nat) => (i : Int)
def keptA (M : List Bool) : List Int := (ixs M.length).map (cntG M)
def keptN (nodes : List GNode) (M : List Bool) (a : List Int) (i : Nat) : List GNode := ((List.range i).filter fun x => M.getD x false).map fun x => remapN a (ndAt nodes x)
theorem keptN_succ (nodes : List GNode) (M : List Bool) (a : List Int) (i : Nat) : keptN nodes M a (i + 1) = keptN nodes M a i ++ if M.getD i false = true then [remapN a (ndAt nodes i)] else [] := by
 unfold keptN
 rw [List.range_succ, List.filter_append, List.map_append]
 congr 1
 by_cases h : M.getD i false = true <;> simp_all [List.filter]
theorem ixs_get {n i : Nat} (h : i < n) : (ixs n)[i]? = some (i : Int) := by simp [ixs, h]
theorem len_ixs (n : Nat) : (ixs n).length = n := by simp [ixs]
theorem cntG_succ {M : List Bool} {i : Nat} {b : Bool} (h : M[i]? = some b) : cntG M ((i + 1 : Nat) : Int) = cntG M (i : Int) + if b then 1 else 0 := by
 unfold cntG
 rw [Int.toNat_natCast, Int.toNat_natCast, List.take_add_one, h, List.count_append]
 cases b <;> simp
structure KeptC (nodes : List GNode) (r : Nat) (N' : List GNode) (r' : Int) : Prop where
 idx : Idx nodes
 nl : NL 65536 nodes
 len : nodes.length ≤ 4096
 root : r < nodes.length
 eq : keptN nodes (reachedV nodes (r : Int) (noMarks nodes.length)) (keptA (reachedV nodes (r : Int) (noMarks nodes.length))) nodes.length = N'
 pos : 0 < N'.length
 rt : (keptA (reachedV nodes (r : Int) (noMarks nodes.length)))[r]? = some r'
def KeptE (w : World) (N' : List GNode) (r' : Int) (e : Ending) (w' : World) : Prop := ∃ ob cq, e = .returned (.agg #[.slice (some ⟨ob, 0, none⟩) N'.length cq, .int .i64 r']) ∧ Below w.heap.size w w' ∧ GK w' ob N'
set_option maxRecDepth 20000 in
set_option maxHeartbeats 16000000 in
theorem kept_any {B g o c r : Nat} {nodes N' : List GNode} {r' : Int} (hC : KeptC nodes r N' r') (w : World) (hG : GRd w B g o nodes) :
  Calls Tryz.prog 78 #[.agg #[.slice (some ⟨g, o, none⟩) nodes.length c, .int .i64 (r : Int)]] w (KeptE w N' r') := by
 obtain ⟨n, hn⟩ : ∃ n, nodes.length = n := ⟨_, rfl⟩
 have HC := Lib.hid hC
 have HG := Lib.hid hG
 have hBw := hG.2.1
 have hn4 := hC.len
 have hr := hC.root
 have HN := Lib.hid hn
 obtain ⟨M, hM⟩ : ∃ M, reachedV nodes (r : Int) (noMarks nodes.length) = M := ⟨_, rfl⟩
 have HMl : Hid (M.length = n) := by
  show _ = _
  rw [← hM, ← hn]
  exact visitV_len (reachedV_ok hC.idx (at_ := (r : Int)) ⟨by omega, by omega⟩ (by simp [noMarks])).1 (by simp [noMarks])
 have HM := Lib.hid hM
 have D1 := Lib.hid (fun (mb : Nat) (w' : World) (h : GRd w' B g o nodes) (hB : B ≤ mb) (hA : Arr w' mb 4 (Bs (noMarks n))) => reached_any (c := c) (root := (r : Int)) hC.idx hC.nl r hr (noMarks n) w' (by rw [hn]; simp [noMarks]) h hB hA)
 have HE : Hid (keptN nodes M (keptA M) n = N') := by have h := hC.eq; rw [hM, hn] at h; exact h
 have HRT : Hid ((keptA M)[r]? = some r') := by have h := hC.rt; rw [hM] at h; exact h
 rw [hn] at hn4 hr D1 ⊢
 rw [← hn, hM, hn] at D1
 have hmf : ∀ (fn : Fn) (first cap : Array Value) (w : World), (Instr.makeFunc fn first cap).run Tryz.prog w = .ok (.func fn first cap) w := fun _ _ _ _ => rfl
 clear hC hG hn hM
 obtain ⟨h1, h2, hb1, hz1⟩ := box2 w 26 26 [.slice (some ⟨g, o, none⟩) n c, .int .i64 (r : Int)] [.slice none 0 0, .int .i64 0]
 go_enter Tryz.func78, Tryz.ntmps78
 go_upto_region 1 with (fail)
 obtain ⟨gb, hgb⟩ : ∃ x, w.heap.size = x := ⟨_, rfl⟩
 have HGB := Lib.hid hgb
 have HB1 := Lib.hid hb1
 generalize ((w.alloc (.cells #[.slice (some ⟨g, o, none⟩) n c, .int .i64 (r : Int)] 26)).alloc (.cells #[.slice none 0 0, .int .i64 0] 26)) = W1 at *
 rw [hgb] at h1 h2 hz1 HB1 hBw ⊢
 clear hgb hb1
 have x0 := h1.out.cell' (i := 0) rfl
 have x1 := h1.out.cell' (i := 1) rfl
 have l1 : gb + 1 < W1.heap.size := by have := hz1.out; omega
 go_upto_region 2 with (at_make; go_loud (refine wpList_mk rfl _ _ 87 rfl 4 _ _ Tryz.underlying87 infoBool rfl _ _ _ _ rfl rfl n n (by omega) (by omega) (by omega) (by omega) (by unfold maxLen; omega) ?_; intro mb w2 hmb hMk hb2 hz2))
 clear x0 x1
 have l2 : gb + 1 < mb := by have := hmb.out; omega
 have h1b := Lib.hid (h1.out.keep hb2)
 have h2b := Lib.hid (h2.out.keep hb2)
 have HB2 := Lib.hid (HB1.out.trans (hb2.mono (by omega)))
 have hMz : Hid (Arr w2 mb 4 (Bs (noMarks n))) := by rw [← Bs_rep]; exact hMk.out
 have hG2 := Lib.hid (HG.out.below HB2.out hBw)
 have x0 := h1b.out.cell' (i := 0) rfl
 have x1 := h1b.out.cell' (i := 1) rfl
 clear h1 h2 HB1 hb2 hz2 hMk hmb l1 hz1
 have hBmb : B ≤ mb := by omega
 go_upto_region 3 with (go_at_call 43; ((with_reducible refine (D1.out mb w2 hG2.out hBmb hMz.out).mono ?_)); rintro e w3 ⟨rfl, hg3, hM3⟩)
 have h1c := Lib.hid (h1b.out.grown hg3 (some_ne (show gb ≠ mb by omega)))
 have h2c := Lib.hid (h2b.out.grown hg3 (some_ne (show gb + 1 ≠ mb by omega)))
 have HB3 := Lib.hid (below_row HB2.out hg3 (by have := hMz.out.lt; omega) (by omega))
 have l3 : mb < w3.heap.size := hM3.out.lt
 clear x0 x1 h1b h2b HB2 hMz hG2 hg3 D1
 have x0 := h1c.out.cell' (i := 0) rfl
 go_upto_region 4 with (at_make; go_loud (refine wpList_mk rfl _ _ 32 rfl 3 _ _ Tryz.underlying32 infoInt rfl _ _ _ _ rfl rfl n n (by omega) (by omega) (by omega) (by omega) (by unfold maxLen; omega) ?_; intro ab w4 hab hA hb4 hz4))
 clear x0
 have hbc : Below w4.heap.size w4 (w4.alloc (.cells #[.slice (some ⟨ab, 0, none⟩) n n] 32)) := (Below.refl _ _).alloc (Nat.le_refl _) _
 have hCb := Lib.hid (Arr.new w4 32 [.slice (some ⟨ab, 0, none⟩) n n])
 have hb5 := hb4.trans (hbc.mono hb4.size)
 have h1d := Lib.hid (h1c.out.keep hb5)
 have h2d := Lib.hid (h2c.out.keep hb5)
 have hMd := Lib.hid (hM3.out.keep hb5)
 have HB5 := Lib.hid (HB3.out.trans (hb5.mono (by omega)))
 have hA0 : Hid (Arr (w4.alloc (.cells #[.slice (some ⟨ab, 0, none⟩) n n] 32)) ab 3 (I64 (mvF (cntG M) (ixs n) 0))) := by
  have h := hA.out.keep hbc
  rw [mvF_zero, len_ixs]
  show Arr _ _ _ _
  simpa [I64] using h
 have l4 : mb < ab := by have := hab.out; omega
 have l5 : ab < w4.heap.size := hA.out.lt
 obtain ⟨cb, hcb⟩ : ∃ x, w4.heap.size = x := ⟨_, rfl⟩
 generalize (w4.alloc (.cells #[.slice (some ⟨ab, 0, none⟩) n n] 32)) = w5 at *
 rw [hcb] at hCb l5 ⊢
 have l6 : cb < w5.heap.size := hCb.out.lt
 clear hbc hb4 hb5 hz4 hA hab h1c h2c hM3 HB3 hcb
 go_upto_region 6 with (fail)
 have hgr0 : w5.grownBy w5 (some ab) := World.grownBy.refl _ _
 go_loopw [5, 27] (fun cv v wr => ∃ i : Nat, i ≤ n ∧ cv = .int .i64 (cntG M (i : Int)) ∧ v = .int .i64 (i : Int) ∧ Hid (Arr wr ab 3 (I64 (mvF (cntG M) (ixs n) i))) ∧ Hid (w5.grownBy wr (some ab))) (fun _ v _ => n - (intOf v).toNat)
 case atStart => exact ⟨0, Nat.zero_le _, rfl, rfl, hA0, hgr0⟩
 case round =>
  obtain ⟨i, hi, rfl, rfl, hAr, hgr⟩ := hrel
  clear hA0 hgr0
  have hMr := Lib.hid (hMd.out.grown hgr.out (some_ne (show mb ≠ ab by omega)))
  have hCr := Lib.hid (hCb.out.grown hgr.out (some_ne (show cb ≠ ab by omega)))
  by_cases hin : i < n
  ·have hi' : (i : Int) < n := by omega
   have hi0 : (0 : Int) ≤ i := by omega
   obtain ⟨bv, hbv⟩ : ∃ b, M[i]? = some b := ⟨_, List.getElem?_eq_getElem (by have := HMl.out; omega)⟩
   have hBi : (Bs M)[i]? = some (.bool bv) := by simp [Bs, hbv]
   have cm := hMr.out.cell' hBi
   have c0 := hCr.out.cell' (i := 0) rfl
   have hxi := ixs_get hin
   have ca := hAr.out.cell' (I64_get (mvF_get (g := cntG M) hxi))
   have fa := hAr.out.frozen i
   have hA2 : Hid (Arr (wr.setCell ⟨ab, i, none⟩ (.int .i64 (cntG M (i : Int)))) ab 3 (I64 (mvF (cntG M) (ixs n) (i + 1)))) := by
    have h := hAr.out.store i (.int .i64 (cntG M (i : Int)))
    rw [I64_set, mvF_set hxi] at h
    exact h
   have hg2 := Lib.hid (grown_trans hgr.out (grown_set wr ⟨ab, i, none⟩ (.int .i64 (cntG M (i : Int)))))
   have hcs := cntG_succ hbv
   have hc0 : 0 ≤ cntG M (i : Int) ∧ cntG M (i : Int) ≤ 4096 := by
    unfold cntG
    have h1 : (M.take ((i : Int)).toNat).count true ≤ (M.take ((i : Int)).toNat).length := List.count_le_length
    rw [List.length_take] at h1
    have := HMl.out
    omega
   obtain ⟨q, hq⟩ : ∃ q, cntG M (i : Int) = q := ⟨_, rfl⟩
   rw [hq] at hcs hc0 hA2 hg2 ⊢
   obtain ⟨hc0, hc1⟩ := hc0
   clear hAr hgr hMr hCr hbv hBi hxi hq
   cases bv with
   | true =>
    rw [if_pos rfl] at hcs
    go_wp2_with (fail)
    go_roundw
    case rel => exact ⟨i + 1, by omega, by rw [hcs], i64e (by omega), hA2, hg2⟩
    case measure => simp [intOf]; omega
   | false =>
    rw [if_neg (by decide), Int.add_zero] at hcs
    go_wp2_with (fail)
    go_roundw
    case rel => exact ⟨i + 1, by omega, by rw [hcs], i64e (by omega), hA2, hg2⟩
    case measure => simp [intOf]; omega
  ·obtain rfl : n = i := by omega
   have hi' : ¬ (n : Int) < n := by omega
   have hae : mvF (cntG M) (ixs n) n = keptA M := by rw [mvF_all _ _ (len_ixs n)]; unfold keptA; rw [HMl.out]
   have hA6 := hAr.out
   rw [hae] at hA6
   have HA6 := Lib.hid hA6
   have h1e := Lib.hid (h1d.out.grown hgr.out (some_ne (show gb ≠ ab by omega)))
   have h2e := Lib.hid (h2d.out.grown hgr.out (some_ne (show gb + 1 ≠ ab by omega)))
   have HB6 := Lib.hid (below_row HB5.out hgr.out (by have := hCb.out.lt; omega) (by omega))
   have c0 := hCr.out.cell' (i := 0) rfl
   have x1 := h1e.out.cell' (i := 1) rfl
   have l7 := hCr.out.lt
   obtain ⟨a, ha⟩ : ∃ a, keptA M = a := ⟨_, rfl⟩
   have HAL : Hid (a.length = n) := by show _ = _; rw [← ha]; unfold keptA; rw [List.length_map, len_ixs, HMl.out]
   rw [ha] at HA6 HE HRT
   clear ha hae hA6 hAr hgr h1d h2d hMd hCb HB5
   have ca := HA6.out.cell' (I64_get HRT.out)
   go_upto_region 13 with (fail)
   clear x1 c0 ca
   have hb7 : Below wr.heap.size wr (wr.alloc (.cells #[.slice none 0 0, .int .i64 r'] 26)) := (Below.refl _ _).alloc (Nat.le_refl _) _
   have hD7 := Lib.hid (Arr.new wr 26 [.slice none 0 0, .int .i64 r'])
   have l8 : ab < wr.heap.size := HA6.out.lt
   have hX7 := Lib.hid (h1e.out.keep hb7)
   have hR7 := Lib.hid (h2e.out.keep hb7)
   have hM7 := Lib.hid (hMr.out.keep hb7)
   have hC7 := Lib.hid (hCr.out.keep hb7)
   have hA7 := Lib.hid (HA6.out.keep hb7)
   have hB7 := Lib.hid (HB6.out.trans (hb7.mono (by omega)))
   have hG7 := Lib.hid (HG.out.below hB7.out hBw)
   obtain ⟨db, hdb⟩ : ∃ x, wr.heap.size = x := ⟨_, rfl⟩
   generalize (wr.alloc (.cells #[.slice none 0 0, .int .i64 r'] 26)) = w7 at *
   rw [hdb] at hD7 l7 l8 ⊢
   clear hdb hb7 h1e h2e hMr hCr HA6 HB6
   have x0 := hX7.out.cell' (i := 0) rfl
   go_upto_region 15 with (fail)
   clear x0
   have hst0 : Hid (w7.ownsRow db 34 5 (.slice none 0 0) 0 []) := own_nil0 _ _ _ _
   have hnd0 : Hid (NodesRd w7 (fun b => db ≤ b) [] (keptN nodes M a 0)) := NodesRd.nil _ _
   have hq00 : Hid ((keptN nodes M a 0).length = 0 ∧ 0 ≤ 0) := ⟨rfl, Nat.le_refl _⟩
   go_loopw [50] (fun v wr => ∃ (i q : Nat) (ov : Value) (ncs : List Value), i ≤ n ∧ v = .int .i64 (i : Int) ∧ Hid ((keptN nodes M a i).length = q ∧ q ≤ i) ∧ Hid (wr.ownsRow db 34 5 ov q ncs) ∧ Hid (NodesRd wr (fun b => db ≤ b) ncs (keptN nodes M a i)) ∧ Hid (Arr wr db 26 [ov, .int .i64 r']) ∧ Hid (Below db w7 wr)) (fun v _ => n - (intOf v).toNat)
   case atStart => exact ⟨0, 0, _, [], Nat.zero_le _, rfl, hq00, hst0, hnd0, hD7, Below.refl _ _⟩
   case round =>
    obtain ⟨i, q, ov, ncs, hi, rfl, hq0, hrow, hnr, hout, hbr⟩ := hrel
    have hMr := Lib.hid (hM7.out.below hbr.out (by omega))
    have hCr := Lib.hid (hC7.out.below hbr.out l7)
    have hAwr := Lib.hid (hA7.out.below hbr.out l8)
    have hdr : db < wr.heap.size := hout.out.lt
    clear hst0 hnd0 hD7 hq00
    by_cases hiq : i < n
    ·have hiq' : (i : Int) < n := by omega
     have hi0 : (0 : Int) ≤ i := by omega
     have hkl : i < nodes.length := by have := HN.out; omega
     have hGr := hG7.out.below hbr.out (by omega)
     obtain ⟨K, ck, I, ci, d0, d1, d2, d3, d4, ⟨hK, hKb⟩, hI1, hI2⟩ := hGr.of_at hkl
     have HK := Lib.hid hK
     have HI1 := Lib.hid hI1
     obtain ⟨hlk, hli⟩ := HC.out.nl i hkl
     have hIdx := HC.out.idx i hkl
     have hTk0 := keptN_succ nodes M a i
     have hxk : ∀ x ∈ (ndAt nodes i).keys, 0 ≤ x ∧ x < (n : Int) := fun x hx => by have := hIdx x (by unfold refs; exact List.mem_append.2 (.inl hx)); have := HN.out; omega
     have hxi : ∀ x ∈ (ndAt nodes i).items, 0 ≤ x ∧ x < (n : Int) := fun x hx => by have := hIdx x (by unfold refs; exact List.mem_append.2 (.inr hx)); have := HN.out; omega
     have HKX := Lib.hid hxk
     have HIX := Lib.hid hxi
     clear hK hKb hI1 hI2 hIdx hxk hxi hGr
     generalize hnd : ndAt nodes i = nd at *
     clear hnd
     obtain ⟨bv, hbv⟩ : ∃ b, M[i]? = some b := ⟨_, List.getElem?_eq_getElem (by have := HMl.out; omega)⟩
     have hBi : (Bs M)[i]? = some (.bool bv) := by simp [Bs, hbv]
     have hgd : M.getD i false = bv := by rw [List.getD_eq_getElem?_getD, hbv]; rfl
     rw [hgd] at hTk0
     have hND : Hid (Arr (wr.alloc (.cells #[.int .i64 nd.kind, .string (mks nd.text), .bool nd.ord, .slice K nd.keys.length ck, .slice I nd.items.length ci] 34)) wr.heap.size 34 [.int .i64 nd.kind, .string (mks nd.text), .bool nd.ord, .slice K nd.keys.length ck, .slice I nd.items.length ci]) := Arr.new wr _ _
     have hbn : Below wr.heap.size wr (wr.alloc (.cells #[.int .i64 nd.kind, .string (mks nd.text), .bool nd.ord, .slice K nd.keys.length ck, .slice I nd.items.length ci] 34)) := (Below.refl _ _).alloc (Nat.le_refl _) _
     have cm := (hMr.out.keep hbn).cell' hBi
     go_upto_region 17 with (fail)
     clear d0 d1 d2 d3 d4
     have hC2 := Lib.hid (hCr.out.keep hbn)
     have hA2 := Lib.hid (hAwr.out.keep hbn)
     generalize hw2 : (wr.alloc (.cells #[.int .i64 nd.kind, .string (mks nd.text), .bool nd.ord, .slice K nd.keys.length ck, .slice I nd.items.length ci] 34)) = w2 at *
     clear hw2
     cases bv with
     | false =>
      have hTk : Hid (keptN nodes M a (i + 1) = keptN nodes M a i) := by rw [if_neg (by decide), List.append_nil] at hTk0; exact hTk0
      have hq1 : Hid ((keptN nodes M a (i + 1)).length = q ∧ q ≤ i + 1) := by have := hq0.out; refine ⟨by rw [hTk.out]; exact this.1, by omega⟩
      have hrow1 := Lib.hid (own_below hrow.out hbn)
      have hnr1 : Hid (NodesRd w2 (fun b => db ≤ b) ncs (keptN nodes M a (i + 1))) := by rw [hTk.out]; exact hnr.out.over fun b hb hF _ => ⟨hbn.block b hb, hF⟩
      have hout1 := Lib.hid (hout.out.keep hbn)
      have hbr1 := Lib.hid (hbr.out.trans (hbn.mono (Nat.le_of_lt hdr)))
      clear hrow hnr hout hbr hq0 hTk hTk0 hbn hND HK HI1 hMr hCr hAwr hC2 hA2 HKX HIX hbv hBi hgd
      go_wp2_with (fail)
      go_roundw
      case rel => exact ⟨i + 1, q, _, _, by omega, i64e (by omega), hq1, hrow1, hnr1, hout1, hbr1⟩
      case measure => simp [intOf]; omega
     | true =>
      have hTk : Hid (keptN nodes M a (i + 1) = keptN nodes M a i ++ [remapN a nd]) := by rw [if_pos rfl] at hTk0; exact hTk0
      have hq1 : Hid ((keptN nodes M a (i + 1)).length = q + 1 ∧ q + 1 ≤ i + 1) := by
       have := hq0.out
       refine ⟨?_, by omega⟩
       rw [hTk.out, List.length_append, this.1]
       rfl
      have hqn : q < 4096 := by have := hq0.out; omega
      clear hTk0 hbv hBi hgd
      go_upto_region 18 with (fail)
      clear cm
      obtain ⟨nb, hnb⟩ : ∃ b, wr.heap.size = b := ⟨_, rfl⟩
      rw [hnb] at hND ⊢
      have HNB := Lib.hid hnb
      obtain ⟨z, hz⟩ : ∃ z, w2.heap.size = z := ⟨_, rfl⟩
      have HZ := Lib.hid hz
      have HK2 := Lib.hid (HK.out.keep hbn)
      have HI2 := Lib.hid (HI1.out.keep hbn)
      have hnz : nb < z := by have := hND.out.lt; omega
      have habz : ab < z := by have := HNB.out; omega
      have hcbz : cb < z := by have := HNB.out; omega
      have DK := Lib.hid (fun w' (h : Below z w2 w') => kmoved_any K ck nd.keys hlk hn4 HAL.out HKX.out w' (HK2.out.keep (by rw [HZ.out]; exact h)) (hC2.out.below h hcbz) (hA2.out.below h habz))
      have DI := Lib.hid (fun w' (h : Below z w2 w') => kmoved_any I ci nd.items hli hn4 HAL.out HIX.out w' (HI2.out.keep (by rw [HZ.out]; exact h)) (hC2.out.below h hcbz) (hA2.out.below h habz))
      have r3 : ∀ w', Below z w2 w' → w'.cell? ⟨nb, 3, none⟩ = some (.slice K nd.keys.length ck) := fun w' h => (hND.out.below h hnz).cell' (i := 3) rfl
      have r4 : ∀ w', Below z w2 w' → w'.cell? ⟨nb, 4, none⟩ = some (.slice I nd.items.length ci) := fun w' h => (hND.out.below h hnz).cell' (i := 4) rfl
      have q3 : ∀ w', Below z w2 w' → w'.frozen? ⟨nb, 3, none⟩ = false := fun w' h => (hND.out.below h hnz).frozen 3
      have q4 : ∀ w', Below z w2 w' → w'.frozen? ⟨nb, 4, none⟩ = false := fun w' h => (hND.out.below h hnz).frozen 4
      have hS2 : Below z w2 w2.drew := (Below.refl _ _).drew
      have hzs : z ≤ w2.drew.heap.size := by show z ≤ w2.heap.size; omega
      clear hnb hz HK HI1 HK2 HI2
      rw [mload_eq 32 (.tmp 60), mload_eq 32 (.tmp 64)]
      go_region_held3 (fun _ => True) (first | trivial | go_keep)
       (first
        | (go_at_call 100; ((with_reducible refine (DK.out _ (by first | assumption)).mono ?_)); rintro e w5 ⟨ok, rfl, hok, hb5, hA5⟩; have hS5 : Below z w2 w5 := Below.trans (by first | assumption) (hb5.mono (by first | assumption)); have hzs5 : z ≤ w5.heap.size := Nat.le_trans (by first | assumption) hb5.size)
        | (go_at_call 100; ((with_reducible refine (DI.out _ (by first | assumption)).mono ?_)); rintro e w6 ⟨oi, rfl, hoi, hb6, hA6⟩; have hS6 : Below z w2 w6 := Below.trans (by first | assumption) (hb6.mono (by first | assumption)); have hzs6 : z ≤ w6.heap.size := Nat.le_trans (by first | assumption) hb6.size))
      all_goals
       first
        | (obtain ⟨wl, hwl, hSl, hAk, hAi, hok2, hoi2, hne⟩ : ∃ wl, wl = w6 ∧ Below z w2 wl ∧ Hid (Arr wl ok 3 (I64 (nd.keys.map (atG a)))) ∧ Hid (Arr wl oi 3 (I64 (nd.items.map (atG a)))) ∧ z ≤ ok ∧ z ≤ oi ∧ ok ≠ oi := ⟨w6, rfl, hS6, Arr.keep (w := w5) hA5.out hb6, hA6, Nat.le_trans hzs hok, Nat.le_trans hzs5 hoi, Nat.ne_of_lt (Nat.lt_of_lt_of_le hA5.out.lt hoi)⟩)
        | (obtain ⟨wl, hwl, hSl, hAk, hAi, hok2, hoi2, hne⟩ : ∃ wl, wl = w5 ∧ Below z w2 wl ∧ Hid (Arr wl ok 3 (I64 (nd.keys.map (atG a)))) ∧ Hid (Arr wl oi 3 (I64 (nd.items.map (atG a)))) ∧ z ≤ ok ∧ z ≤ oi ∧ ok ≠ oi := ⟨w5, rfl, hS5, hA5, Arr.keep (w := w6) hA6.out hb5, Nat.le_trans hzs6 hok, Nat.le_trans hzs hoi, (Nat.ne_of_lt (Nat.lt_of_lt_of_le hA6.out.lt hok)).symm⟩)
       subst hwl
       have hkn : ok ≠ nb := by omega
       have hin2 : oi ≠ nb := by omega
       have hN7 : Hid (Arr ((wl.setCell ⟨nb, 3, none⟩ (.slice (some ⟨ok, 0, none⟩) nd.keys.length nd.keys.length)).setCell ⟨nb, 4, none⟩ (.slice (some ⟨oi, 0, none⟩) nd.items.length nd.items.length)) nb 34 [.int .i64 nd.kind, .string (mks nd.text), .bool nd.ord, .slice (some ⟨ok, 0, none⟩) nd.keys.length nd.keys.length, .slice (some ⟨oi, 0, none⟩) nd.items.length nd.items.length]) := ((hND.out.below hSl hnz).store 3 _).store 4 _
       have hK7 := Lib.hid ((hAk.out.far (p := ⟨nb, 3, none⟩) hkn (.slice (some ⟨ok, 0, none⟩) nd.keys.length nd.keys.length)).far (p := ⟨nb, 4, none⟩) hkn (.slice (some ⟨oi, 0, none⟩) nd.items.length nd.items.length))
       have hI7 := Lib.hid ((hAi.out.far (p := ⟨nb, 3, none⟩) hin2 (.slice (some ⟨ok, 0, none⟩) nd.keys.length nd.keys.length)).far (p := ⟨nb, 4, none⟩) hin2 (.slice (some ⟨oi, 0, none⟩) nd.items.length nd.items.length))
       have hB7' : Hid (Below wr.heap.size wr ((wl.setCell ⟨nb, 3, none⟩ (.slice (some ⟨ok, 0, none⟩) nd.keys.length nd.keys.length)).setCell ⟨nb, 4, none⟩ (.slice (some ⟨oi, 0, none⟩) nd.items.length nd.items.length))) := ((hbn.trans (hSl.mono (by have := HNB.out; omega))).setCell (p := ⟨nb, 3, none⟩) (Nat.le_of_eq HNB.out) _).setCell (p := ⟨nb, 4, none⟩) (Nat.le_of_eq HNB.out) _
       clear hA5 hA6 hAk hAi hb5 hb6 hS5 hS6 hzs5 hzs6 hok hoi hSl hS2 hzs r3 r4 q3 q4 DK DI hbn hND
       generalize ((wl.setCell ⟨nb, 3, none⟩ (.slice (some ⟨ok, 0, none⟩) nd.keys.length nd.keys.length)).setCell ⟨nb, 4, none⟩ (.slice (some ⟨oi, 0, none⟩) nd.items.length nd.items.length)) = wf at *
       have n0' := hN7.out.cell' (i := 0) rfl
       have n1' := hN7.out.cell' (i := 1) rfl
       have n2' := hN7.out.cell' (i := 2) rfl
       have n3' := hN7.out.cell' (i := 3) rfl
       have n4' := hN7.out.cell' (i := 4) rfl
       have hout7 := Lib.hid (hout.out.keep hB7'.out)
       have o0 := hout7.out.cell' (i := 0) rfl
       have hbN : Below wf.heap.size wf (wf.alloc (.cells #[.int .i64 nd.kind, .string (mks nd.text), .bool nd.ord, .slice (some ⟨ok, 0, none⟩) nd.keys.length nd.keys.length, .slice (some ⟨oi, 0, none⟩) nd.items.length nd.items.length] 34)) := (Below.refl _ _).alloc (Nat.le_refl _) _
       have hrow7 := Lib.hid (own_below hrow.out hB7'.out)
       have hdb8 : db ≤ wf.heap.size := by have := hout7.out.lt; omega
       have hrk := Lib.hid (fun (b : Nat) (e : ov.ownBlock = some b) => own_kind (own_below hrow7.out hbN) e)
       have hoN := Lib.hid (hout7.out.keep hbN)
       have hne : Hid (some db ≠ ov.ownBlock) := fun e => by
        obtain ⟨C, fz, hc⟩ := hrk.out db e.symm
        exact absurd (cells_kind hoN.out hc) (by decide)
       go_upto_region 20 with (at_builtin; go_loud (refine wpList_apS rfl (.tmp 70) (.tmp 72) 24 rfl db 34 _ 5 _ Tryz.underlying24 infoNd rfl (by decide) _ q ncs rfl (hrow7.out.alloc _) ⟨wf.heap.size, 0, none⟩ _ [.int .i64 nd.kind, .string (mks nd.text), .bool nd.ord, .slice (some ⟨ok, 0, none⟩) nd.keys.length nd.keys.length, .slice (some ⟨oi, 0, none⟩) nd.items.length nd.items.length] rfl rfl (cells_new _ _ _) rfl (by unfold maxLen; omega) (by omega) (by simp; omega) ?_; intro v3 w3 hown3 hgr3 hat3; obtain ⟨A3, c3', hv3, hc3, hm3⟩ := own_slice hown3; subst hv3; have a3 := hoN.out.grown hgr3 hne.out; have b3 := a3.cell' (i := 0) rfl; have f3 := a3.frozen 0))
       have hV3 := Lib.hid hown3
       have hin : Hid (∀ b, b < wr.heap.size → db ≤ b → (∃ C fz, wr.heap[b]? = some (.cells C 3 fz)) → (w3.setCell ⟨db, 0, none⟩ (.slice A3 (q + 1) c3')).heap[b]? = wr.heap[b]?) := fun b hb _ ⟨C, fz, hk⟩ => by
        have e1 := hB7'.out.block b hb
        have hb2 := Nat.lt_of_lt_of_le hb hB7'.out.size
        have e2 := hbN.block b hb2
        have e3 : (wf.alloc (.cells #[.int .i64 nd.kind, .string (mks nd.text), .bool nd.ord, .slice (some ⟨ok, 0, none⟩) nd.keys.length nd.keys.length, .slice (some ⟨oi, 0, none⟩) nd.items.length nd.items.length] 34)).heap[b]? = some (.cells C 3 fz) := e2.trans (e1.trans hk)
        have e4 : w3.heap[b]? = _ := hgr3.block b (Nat.lt_of_lt_of_le hb2 hbN.size) (fun e => by
         obtain ⟨C', fz', hk'⟩ := hrk.out b e.symm
         rw [e3] at hk'
         have := Option.some.inj hk'
         injection this with _ ht
         exact absurd ht (by decide))
        refine (setCell_heap_ne _ _ _ ?_).trans (e4.trans (e2.trans e1))
        rintro rfl
        have := hoN.out
        unfold Arr at this
        rw [e3] at this
        have := Option.some.inj this
        injection this with _ ht
        exact absurd ht (by decide)
       have hint : ∀ {b : Nat} {xs : List Int}, Arr wf b 3 (I64 xs) → Arr (w3.setCell ⟨db, 0, none⟩ (.slice A3 (q + 1) c3')) b 3 (I64 xs) := fun {b xs} ha => by
        have h1 := ha.keep hbN
        have h2 := h1.grown hgr3 (fun e => by
         obtain ⟨C', fz', hk'⟩ := hrk.out b e.symm
         exact absurd (cells_kind h1 hk') (by decide))
        exact h2.far (p := ⟨db, 0, none⟩) (h2.ne a3 (by decide)) _
       have hrowF : Hid ((w3.setCell ⟨db, 0, none⟩ (.slice A3 (q + 1) c3')).ownsRow db 34 5 (.slice A3 (q + 1) c3') (q + 1) (ncs ++ [.int .i64 nd.kind, .string (mks nd.text), .bool nd.ord, .slice (some ⟨ok, 0, none⟩) nd.keys.length nd.keys.length, .slice (some ⟨oi, 0, none⟩) nd.items.length nd.items.length])) := own_far (p := ⟨db, 0, none⟩) hV3.out (fun e => by
        obtain ⟨C, fz, hk⟩ := own_kind hV3.out e
        exact absurd (cells_kind a3 hk) (by decide)) _
       have hndF : Hid (NodesRd (w3.setCell ⟨db, 0, none⟩ (.slice A3 (q + 1) c3')) (fun b => db ≤ b) (ncs ++ [.int .i64 nd.kind, .string (mks nd.text), .bool nd.ord, .slice (some ⟨ok, 0, none⟩) nd.keys.length nd.keys.length, .slice (some ⟨oi, 0, none⟩) nd.items.length nd.items.length]) (keptN nodes M a (i + 1))) := by
        show NodesRd _ _ _ _
        rw [hTk.out]
        refine (hnr.out.over fun b hb hF hk => ⟨hin.out b hb hF hk, hF⟩).app (NodesRd.one ⟨some ⟨ok, 0, none⟩, _, _, some ⟨oi, 0, none⟩, _, _, rfl, ⟨by simp [remapN], (hint hK7.out).rd, fun ad e => ?_⟩, by simp [remapN], (hint hI7.out).rd, fun ad e => ?_⟩)
        ·obtain rfl := Option.some.inj e
         exact ⟨by have := HNB.out; show db ≤ ok; omega, _, _, hint hK7.out⟩
        ·obtain rfl := Option.some.inj e
         exact ⟨by have := HNB.out; show db ≤ oi; omega, _, _, hint hI7.out⟩
       have houtF : Hid (Arr (w3.setCell ⟨db, 0, none⟩ (.slice A3 (q + 1) c3')) db 26 [.slice A3 (q + 1) c3', .int .i64 r']) := a3.store 0 _
       have hbrF : Hid (Below db w7 (w3.setCell ⟨db, 0, none⟩ (.slice A3 (q + 1) c3'))) := ((hbr.out.trans (hB7'.out.mono (Nat.le_of_lt hdr))).trans ((hbN.mono hdb8).trans (below_of_grown hgr3 (Nat.le_trans hdb8 hbN.size) (fun b e => (hrow7.out.lt b e).1)))).setCell (p := ⟨db, 0, none⟩) (Nat.le_refl _) _
       clear hV3 hin hint hown3 hgr3 hat3 a3 b3 f3 hrk hoN hne hrow7 hout7 o0 hbN n0' n1' n2' n3' n4' hN7 hK7 hI7 hB7' hrow hnr hout hbr hMr hCr hAwr hq0
       go_wp2_with (fail)
       go_roundw
       case rel => exact ⟨i + 1, q + 1, _, _, by omega, i64e (by omega), hq1, hrowF, hndF, houtF, hbrF⟩
       case measure => simp [intOf]; omega
    ·obtain rfl : n = i := by omega
     have hiq' : ¬ (n : Int) < n := by omega
     have hN'l : N'.length = q := by rw [← HE.out]; exact hq0.out.1
     have hq0' : 0 < q := by have := HC.out.pos; omega
     have hnd2 := hnr.out
     rw [HE.out] at hnd2
     have hrow2 := hrow.out
     obtain ⟨ob, oc, hov2, _, _⟩ := own_some hrow2 hq0'
     subst hov2
     have hR9 := Lib.hid (hR7.out.below hbr.out (by omega))
     have o0 := hout.out.cell' (i := 0) rfl
     have o1 := hout.out.cell' (i := 1) rfl
     have c0 := hR9.out.cell' (i := 0) rfl
     have c1 := hR9.out.cell' (i := 1) rfl
     have f0 := hR9.out.frozen 0
     have f1 := hR9.out.frozen 1
     have hBr := Lib.hid (hB7.out.trans (hbr.out.mono (by omega)))
     have hRF := Lib.hid ((hR9.out.store 0 (.slice (some ⟨ob, 0, none⟩) q oc)).store 1 (.int .i64 r'))
     have hBF := Lib.hid ((hBr.out.setCell (p := ⟨gb + 1, 0, none⟩) (by show gb ≤ gb + 1; omega) (.slice (some ⟨ob, 0, none⟩) q oc)).setCell (p := ⟨gb + 1, 1, none⟩) (by show gb ≤ gb + 1; omega) (.int .i64 r'))
     have hrow3 := own_far (p := ⟨gb + 1, 1, none⟩) (own_far (p := ⟨gb + 1, 0, none⟩) hrow2 (fun e => by
      obtain ⟨C, fz, hk⟩ := own_kind hrow2 e
      exact absurd (cells_kind hR9.out hk) (by decide)) (.slice (some ⟨ob, 0, none⟩) q oc)) (fun e => by
      obtain ⟨C, fz, hk⟩ := own_kind hrow2 e
      exact absurd (cells_kind hR9.out hk) (by decide)) (.int .i64 r')
     have hnd3 : NodesRd ((wr.setCell ⟨gb + 1, 0, none⟩ (.slice (some ⟨ob, 0, none⟩) q oc)).setCell ⟨gb + 1, 1, none⟩ (.int .i64 r')) (fun _ => True) ncs N' := hnd2.over fun b hb hF _ => ⟨(setCell_heap_ne _ _ _ (by show b ≠ gb + 1; omega)).trans (setCell_heap_ne _ _ _ (by show b ≠ gb + 1; omega)), trivial⟩
     have hGF := Lib.hid (gk_own (c := oc) (by rw [hN'l]; exact hrow3) hnd3)
     clear hX7 hR7 hM7 hC7 hA7 hB7 hG7 hMr hCr hAwr hrow hnr hout hbr hq0 hnd2 hrow2 hrow3 hnd3 hBr HG
     go_upto_region 22 with (fail)
     generalize ((wr.setCell ⟨gb + 1, 0, none⟩ (.slice (some ⟨ob, 0, none⟩) q oc)).setCell ⟨gb + 1, 1, none⟩ (.int .i64 r')) = wf at *
     have r0 := hRF.out.cell' (i := 0) rfl
     have r1 := hRF.out.cell' (i := 1) rfl
     refine bodyPost_ret (v := .agg #[.slice (some ⟨ob, 0, none⟩) q oc, .int .i64 r']) (by simp [results, Tryz.results78, go_sem, r0, r1]) rfl ⟨ob, oc, by rw [hN'l], by rw [HGB.out]; exact hBF.out, hGF.out⟩
end Go.Proofs.YtoppncpmfajbcaaGreatDoor
