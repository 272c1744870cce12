/- The walk of canon.Key at lists and whole numbers. -/
import Derived.Test.YtoppncpmfajbcaaGreatDoorMBn
import Derived.Test.YtoppncpmfajbcaaGreatDoorMBh
import Derived.Test.YtoppncpmfajbcaaGreatDoorMBc
import Derived.Test.YtoppncpmfajbcaaGreatDoorMBb
set_option linter.unusedVariables false
set_option linter.unusedSimpArgs false
set_option linter.defProp false
set_option linter.constructorNameAsVariable false
namespace Go.Proofs.YtoppncpmfajbcaaGreatDoor
open Go.RowKit
structure CKeyC (nodes : List GNode) (r : Nat) (kn : List Int) (m : List Bool) (out : List Nat) : Prop where
 idx : Idx nodes
 nl : NL 65536 nodes
 by_ : ∀ k, By (ndAt nodes k).text
 len : nodes.length ≤ 4096
 rt : r < nodes.length
 ck : ChkOK nodes (r : Int)
 zk : chkV nodes (r : Int) = 0
 dk : (depthR nodes (r : Int)).2 = true
 ln : lenV nodes (nodes.length + 1) (r : Int) (List.replicate nodes.length (-1)) = some kn
 lk : atG kn (r : Int) ≤ 65536
 wr : writeV nodes (nodes.length + 1) (r : Int) (List.replicate nodes.length false, []) = some (m, out)
 bo : By out
set_option maxRecDepth 20000 in
set_option maxHeartbeats 16000000 in
theorem ckey_any {B g o c r : Nat} {nodes : List GNode} {kn : List Int} {m : List Bool} {out : List Nat} (hC : CKeyC nodes r kn m out) (w : World) (hw : LibE w) (hG : GRd w B g o nodes) :
  Calls Tryz.prog 10 #[.agg #[.slice (some ⟨g, o, none⟩) nodes.length c, .int .i64 (r : Int)]] w fun e w' => e = .returned (.tuple #[.string (mks out), .int .i64 0]) ∧ Below w.heap.size w w' := by
 obtain ⟨n, hn⟩ : ∃ n, nodes.length = n := ⟨_, rfl⟩
 have HC := Lib.hid hC
 have HN := Lib.hid hn
 have HG := Lib.hid hG
 have HW := Lib.hid hw
 have hBw := hG.2.1
 have hn4 := hC.len
 have D1 := Lib.hid (fun (w' : World) (h : LibE w') (h' : GRd w' B g o nodes) => cacyclic_any (c := c) hC.ck hC.zk hC.dk w' h h')
 rw [hn] at D1 hn4 ⊢
 clear hC hG hw hn
 have h1 : Hid (Arr (w.alloc (.cells #[.slice (some ⟨g, o, none⟩) n c, .int .i64 (r : Int)] 26)) w.heap.size 26 [.slice (some ⟨g, o, none⟩) n c, .int .i64 (r : Int)]) := Arr.new w _ _
 have hb1 : Below w.heap.size w (w.alloc (.cells #[.slice (some ⟨g, o, none⟩) n c, .int .i64 (r : Int)] 26)) := (Below.refl _ _).alloc (Nat.le_refl _) _
 go_enter Tryz.func10, Tryz.ntmps10
 go_upto_region 1 with (fail)
 obtain ⟨gb, hgb⟩ : ∃ x, w.heap.size = x := ⟨_, rfl⟩
 have HGB := Lib.hid hgb
 have HB1 := Lib.hid hb1
 generalize (w.alloc (.cells #[.slice (some ⟨g, o, none⟩) n c, .int .i64 (r : Int)] 26)) = W at *
 rw [hgb] at h1 HB1 hBw ⊢
 clear hgb hb1
 have hG1 := Lib.hid (HG.out.below HB1.out hBw)
 have hW1 := Lib.hid (HW.out.keep (by rw [HGB.out]; exact HB1.out))
 have hgl := h1.out.lt
 have x0 := h1.out.cell' (i := 0) rfl
 have x1 := h1.out.cell' (i := 1) rfl
 go_upto_region 4 with (go_at_call 21; ((with_reducible refine (D1.out _ hW1.out hG1.out).mono ?_)); rintro e w2 ⟨rfl, hb2⟩)
 have h1b := Lib.hid (h1.out.keep hb2)
 have HB2 := Lib.hid (HB1.out.trans (hb2.mono (by omega)))
 have hG2 := Lib.hid (hG1.out.below hb2 (by omega))
 have hs2 := hb2.size
 clear x0 x1 h1 HB1 hb2 hG1 hW1 D1
 have x0 := h1b.out.cell' (i := 0) rfl
 have x1 := h1b.out.cell' (i := 1) rfl
 have D2 := Lib.hid (of_any (g := g) (o := o) (c := c) (root := (r : Int)) hn4 w2)
 go_upto_region 5 with (go_at_call 22; ((with_reducible refine D2.out.mono ?_)); rintro e w3 ⟨tb, sb, rfl, htb, hsb, hb3, hT3⟩)
 have h1c := Lib.hid (h1b.out.keep hb3)
 have HB3 := Lib.hid (HB2.out.trans (hb3.mono (by omega)))
 have hs3 := hb3.size
 clear x0 x1 h1b HB2 hb3 hG2 D2
 have x0 := h1c.out.cell' (i := 0) rfl
 go_upto_region 6 with (at_make; go_loud (refine wpList_mk rfl _ _ 32 rfl 3 _ _ Tryz.underlying32 infoInt rfl _ _ _ _ rfl rfl n n (by omega) (by omega) (by omega) (by omega) (by unfold maxLen; omega) ?_; intro kb w4 hkb hA hb4 hz4))
 clear x0
 have h1d := Lib.hid (h1c.out.keep hb4)
 have hT4 := Lib.hid (hT3.keep hb4)
 have HB4 := Lib.hid (HB3.out.trans (hb4.mono (by omega)))
 have lsb := hT3.srt.lt
 have ltb := hT3.tab.lt
 have lkb : w3.heap.size ≤ kb := by have := hkb.out; omega
 have hA0 : Hid (Arr w4 kb 3 (I64 (List.replicate 0 (-1) ++ List.replicate (n - 0) 0))) := by have h := hA.out; show Arr _ _ _ _; simpa [I64] using h
 have hs4 : gb ≤ w4.heap.size := by have := hb4.size; omega
 clear h1c hT3 HB3 hb4 hz4 hA hkb
 go_upto_region 7 with (fail)
 go_loopw [22] (fun v wr => ∃ (i : Nat), i ≤ n ∧ v = .int .i64 (i : Int) ∧ Hid (Arr wr kb 3 (I64 (List.replicate i (-1) ++ List.replicate (n - i) 0))) ∧ Hid (w4.grownBy wr (some kb))) (fun v _ => n - (intOf v).toNat)
 case atStart => exact ⟨0, Nat.zero_le _, rfl, hA0, World.grownBy.refl _ _⟩
 case round =>
  clear hA0
  obtain ⟨i, hi, rfl, hLr, hgr⟩ := hrel
  by_cases him : i = n
  ·have hi' : ¬ (i : Int) < n := by omega
   have hA5 : Hid (Arr wr kb 3 (I64 (List.replicate n (-1)))) := by
    have := hLr.out
    rw [him, Nat.sub_self, List.replicate_zero, List.append_nil] at this
    exact this
   have h1e := Lib.hid (h1d.out.grown hgr.out (some_ne (by omega)))
   have hT5 : Hid (TabN wr tb sb g o c n (r : Int) (List.replicate n (.slice none 0 0))) := ⟨hT4.out.tab.grown hgr.out (some_ne (by omega)), hT4.out.srt.grown hgr.out (some_ne (by omega))⟩
   have HB5 := Lib.hid (HB4.out.grown hgr.out hs4 (fun k e => by have := Option.some.inj e; omega))
   have hG5 := Lib.hid (HG.out.below HB5.out hBw)
   have D3 := Lib.hid (clen_any (c := c) (root := (r : Int)) HC.out.idx HC.out.nl hn4 HN.out (show B ≤ kb by omega) (n + 1) r _ kn wr (by have h := HC.out.ln; rw [HN.out] at h; exact h) hG5.out hT5.out.tab hA5.out)
   have hlk := HC.out.lk
   have htk : tb ≠ kb := by omega
   have hsk : sb ≠ kb := by omega
   have hlk2 : ¬ atG kn (r : Int) > 65536 := by omega
   have hgs : gb + 1 ≤ wr.heap.size := h1e.out.lt
   clear hLr hgr him hi h1d hT4 HB4
   have x1 := h1e.out.cell' (i := 1) rfl
   go_upto_region 13 with (go_at_call 23; ((with_reducible refine D3.out.mono ?_)); rintro e w6 ⟨rfl, hg6, hA6⟩)
   have h1f := Lib.hid (h1e.out.grown hg6 (some_ne (by omega)))
   have hT6 : TabN w6 tb sb g o c n (r : Int) (List.replicate n (.slice none 0 0)) := ⟨hT5.out.tab.grown hg6 (some_ne htk), hT5.out.srt.grown hg6 (some_ne hsk)⟩
   have HB6 := HB5.out.grown hg6 (by omega) (fun k e => by have := Option.some.inj e; omega)
   have hbn : Below w6.heap.size w6 (w6.alloc (.cells #[.pointer none, .slice none 0 0] 59)) := (Below.refl _ _).alloc (Nat.le_refl _) _
   have hg6s := h1f.out.lt
   have hT7 := Lib.hid (hT6.keep hbn)
   have h1g := Lib.hid (h1f.out.keep hbn)
   have HB7 := Lib.hid (HB6.trans (hbn.mono (by omega)))
   have hG7 := Lib.hid (HG.out.below HB7.out hBw)
   have hbl : Hid (BldF gb w6.heap.size (B8 []) (w6.alloc (.cells #[.pointer none, .slice none 0 0] 59))) := .inl ⟨by omega, .slice none 0 0, Arr.new w6 59 [.pointer none, .slice none 0 0], ⟨by simp [B8], .inl ⟨rfl, rfl⟩⟩, by simp [Value.ownBlock]⟩
   have htb6 := hT6.tab.lt
   have hsb6 := hT6.srt.lt
   have hM7 : MemW n (List.replicate n false) (List.replicate n (.slice none 0 0)) := ⟨List.length_replicate, fun j hj _ => by rw [List.getElem?_replicate, if_pos hj]⟩
   have hs7 := hbn.size
   have D4 := Lib.hid (cwrite_any (c := c) (root := (r : Int)) HC.out.idx HC.out.nl HC.out.by_ hn4 HN.out hBw (show gb ≤ sb by omega) (show tb ≠ w6.heap.size by omega) (show sb ≠ w6.heap.size by omega) (n + 1) r (List.replicate n false, []) (m, out) (List.replicate n (.slice none 0 0)) _ (by have h := HC.out.wr; rw [HN.out] at h; exact h) hG7.out hT7.out hM7 hbl.out (by omega))
   have hgw : gb ≤ (w6.alloc (.cells #[.pointer none, .slice none 0 0] 59)).heap.size := by omega
   clear hT6 HB6 hbn hM7 hg6 hA6 h1f x1 D3
   go_upto_region 14 with (fail)
   generalize (w6.alloc (.cells #[.pointer none, .slice none 0 0] 59)) = w7 at *
   have x1 := h1g.out.cell' (i := 1) rfl
   go_upto_region 15 with (go_at_call 24; ((with_reducible refine D4.out.mono ?_)); rintro e w8 ⟨rfl, hb8, _, hbl8, _⟩)
   have hbF : BldF gb w6.heap.size (Lib.byteCells (out.map UInt8.ofNat)) w8 := by have h := hbl8.out; rw [show B8 out = Lib.byteCells (out.map UInt8.ofNat) from (strB8 HC.out.bo).symm] at h; exact h
   have D5 := Lib.hid (Tryz.Builder_String_any_f gb w6.heap.size (out.map UInt8.ofNat) w8 hbF (Nat.le_trans hgw hb8.size))
   have hout : (⟨(out.map UInt8.ofNat).toArray⟩ : ByteArray) = mks out := rfl
   rw [hout] at D5
   go_wp2_with (go_at_call 25; ((with_reducible refine D5.out.mono ?_)); rintro e w9 ⟨rfl, _, hb9⟩)
   go_ret2
   exact ⟨rfl, by rw [HGB.out]; exact (HB7.out.trans hb8).trans hb9⟩
  ·have hi' : (i : Int) < n := by omega
   have i0 : (0 : Int) ≤ i := by omega
   have p0 : wr.cell? ⟨kb, i, none⟩ = some (.int .i64 0) := hLr.out.cell' (i := i) (by
    unfold I64
    rw [List.getElem?_map, List.getElem?_append_right (by rw [List.length_replicate]; exact Nat.le_refl _), List.length_replicate, Nat.sub_self, List.getElem?_replicate, if_pos (by omega)]; rfl)
   have pf := hLr.out.frozen i
   have hL2 : Hid (Arr (wr.setCell ⟨kb, i, none⟩ (.int .i64 (-1))) kb 3 (I64 (List.replicate (i + 1) (-1) ++ List.replicate (n - (i + 1)) 0))) := by rw [← rep_set n i (by omega)]; exact hLr.out.store i _
   have hg2 := Lib.hid (grown_trans hgr.out (grown_set wr ⟨kb, i, none⟩ (.int .i64 (-1))))
   clear hLr hgr
   go_wp2_with (fail)
   go_roundw
   case rel => exact ⟨i + 1, by omega, i64e (by omega), hL2, hg2⟩
   case measure => simp [intOf]; omega
end Go.Proofs.YtoppncpmfajbcaaGreatDoor
namespace Go.Proofs.YtoppncpmfajbcaaGreatDoor
open Go.RowKit
def nodeC (nd : GNode) (ok oi : Nat) : List Value := [.int .i64 nd.kind, .string (mks nd.text), .bool nd.ord, .slice (some ⟨ok, 0, none⟩) nd.keys.length nd.keys.length, .slice (some ⟨oi, 0, none⟩) nd.items.length nd.items.length]
def TwinE (w : World) (zb tb : Nat) (v : Value) (n : Nat) (ncs : List Value) (nd : GNode) (e : Ending) (w' : World) : Prop :=
 ∃ v' ok oi, e = .returned (.int .i64 (n : Int)) ∧ Arr w' tb 24 [v'] ∧ w'.ownsRow zb 34 5 v' (n + 1) (ncs ++ nodeC nd ok oi) ∧ Arr w' ok 3 (I64 nd.keys) ∧ Arr w' oi 3 (I64 nd.items) ∧ w.heap.size ≤ ok ∧ w.heap.size ≤ oi ∧ ok ≠ oi ∧ Fr w w' tb tb v v'
set_option maxRecDepth 20000 in
set_option maxHeartbeats 16000000 in
theorem twin_any {zb tb bg n k : Nat} {N : List GNode} {ncs : List Value} {v : Value} (hL : NL 65536 N) (hn : N.length = n) (hn4 : n ≤ 65536) (hk : k < n) (hkey : (ndAt N k).keys = []) (w : World) (hT : Arr w tb 24 [v]) (hzt : zb ≤ tb) (hrow : w.ownsRow zb 34 5 v n ncs) (hrd : NodesRd w (fun b => zb ≤ b) ncs N) :
  Calls Tryz.prog 52 #[.int .i64 (k : Int), .pointer (some ⟨tb, 0, none⟩), .pointer (some ⟨bg, 0, none⟩)] w (TwinE w zb tb v n ncs (ndAt N k)) := by
 have HT := Lib.hid hT
 have HR := Lib.hid hrow
 obtain ⟨rb, cv, hv, _, _⟩ := own_some hrow (by omega)
 subst hv
 have hG : GRd w w.heap.size rb 0 N := by
  rw [← hn] at hrow
  exact grd_own hrow (hrd.over fun _ _ _ _ => ⟨rfl, trivial⟩)
 have hkN : k < N.length := by omega
 obtain ⟨K, ck, I, ci, d0, d1, d2, d3, d4, ⟨hK, hKb⟩, hI1, hI2⟩ := hG.of_at hkN
 rw [Nat.zero_add] at d0 d1 d2 d3 d4
 have HK := Lib.hid hK
 have HI1 := Lib.hid hI1
 obtain ⟨hlk, hli⟩ := hL k hkN
 have hk' : (k : Int) < n := by omega
 have hk0 : (0 : Int) ≤ k := by omega
 have hzw : zb ≤ w.heap.size := by have := hT.lt; omega
 have HKY := Lib.hid hkey
 clear hK hKb hI1 hI2 hG hrow hrd hkN hn hL hkey
 generalize hnd : ndAt N k = nd at *
 clear hnd
 go_enter Tryz.func52, Tryz.ntmps52
 have hND : Hid (Arr (w.alloc (.cells #[.int .i64 nd.kind, .string (mks nd.text), .bool nd.ord, .slice K nd.keys.length ck, .slice I nd.items.length ci] 34)) w.heap.size 34 [.int .i64 nd.kind, .string (mks nd.text), .bool nd.ord, .slice K nd.keys.length ck, .slice I nd.items.length ci]) := Arr.new w _ _
 have hbn : Below w.heap.size w (w.alloc (.cells #[.int .i64 nd.kind, .string (mks nd.text), .bool nd.ord, .slice K nd.keys.length ck, .slice I nd.items.length ci] 34)) := (Below.refl _ _).alloc (Nat.le_refl _) _
 have x0 := hT.cell' (i := 0) rfl
 go_upto_region 2 with (fail)
 clear x0 d0 d1 d2 d3 d4
 generalize hw2 : (w.alloc (.cells #[.int .i64 nd.kind, .string (mks nd.text), .bool nd.ord, .slice K nd.keys.length ck, .slice I nd.items.length ci] 34)) = w2 at *
 clear hw2
 obtain ⟨nb, hnb⟩ : ∃ b, w.heap.size = b := ⟨_, rfl⟩
 rw [hnb] at hND ⊢
 have HNB := Lib.hid hnb
 obtain ⟨z, hz⟩ : ∃ z, w2.heap.size = z := ⟨_, rfl⟩
 have HZ := Lib.hid hz
 have hnz : nb < z := by have := hND.out.lt; omega
 have HK2 := Lib.hid (HK.out.keep hbn)
 have HI2 := Lib.hid (HI1.out.keep hbn)
 have DK := Lib.hid (fun w' (h : Below z w2 w') => copied_any K ck nd.keys hlk w' (HK2.out.keep (by rw [HZ.out]; exact h)))
 have DI := Lib.hid (fun w' (h : Below z w2 w') => copied_any I ci nd.items hli w' (HI2.out.keep (by rw [HZ.out]; exact h)))
 have r3 : ∀ w', Below z w2 w' → w'.cell? ⟨nb, 3, none⟩ = some (.slice K nd.keys.length ck) := fun w' h => (hND.out.below h hnz).cell' (i := 3) rfl
 have r4 : ∀ w', Below z w2 w' → w'.cell? ⟨nb, 4, none⟩ = some (.slice I nd.items.length ci) := fun w' h => (hND.out.below h hnz).cell' (i := 4) rfl
 have q3 : ∀ w', Below z w2 w' → w'.frozen? ⟨nb, 3, none⟩ = false := fun w' h => (hND.out.below h hnz).frozen 3
 have q4 : ∀ w', Below z w2 w' → w'.frozen? ⟨nb, 4, none⟩ = false := fun w' h => (hND.out.below h hnz).frozen 4
 have hS2 : Below z w2 w2.drew := (Below.refl _ _).drew
 have hzs : z ≤ w2.drew.heap.size := by show z ≤ w2.heap.size; omega
 clear hnb hz HK HI1 HK2 HI2
 rw [mload_eq 32 (.tmp 14), mload_eq 32 (.tmp 17)]
 go_region_held3 (fun _ => True) (first | trivial | go_keep)
  (first
   | (go_at_call 53; ((with_reducible refine (DK.out _ (by first | assumption)).mono ?_)); rintro e w5 ⟨ok, rfl, hok, hb5, hA5⟩; have hS5 : Below z w2 w5 := Below.trans (by first | assumption) (hb5.mono (by first | assumption)); have hzs5 : z ≤ w5.heap.size := Nat.le_trans (by first | assumption) hb5.size)
   | (go_at_call 53; ((with_reducible refine (DI.out _ (by first | assumption)).mono ?_)); rintro e w6 ⟨oi, rfl, hoi, hb6, hA6⟩; have hS6 : Below z w2 w6 := Below.trans (by first | assumption) (hb6.mono (by first | assumption)); have hzs6 : z ≤ w6.heap.size := Nat.le_trans (by first | assumption) hb6.size))
 all_goals
  first
   | (obtain ⟨wl, hwl, hSl, hAk, hAi, hok2, hoi2, hne⟩ : ∃ wl, wl = w6 ∧ Below z w2 wl ∧ Hid (Arr wl ok 3 (I64 nd.keys)) ∧ Hid (Arr wl oi 3 (I64 nd.items)) ∧ z ≤ ok ∧ z ≤ oi ∧ ok ≠ oi := ⟨w6, rfl, hS6, Arr.keep (w := w5) hA5.out hb6, hA6, Nat.le_trans hzs hok, Nat.le_trans hzs5 hoi, Nat.ne_of_lt (Nat.lt_of_lt_of_le hA5.out.lt hoi)⟩)
   | (obtain ⟨wl, hwl, hSl, hAk, hAi, hok2, hoi2, hne⟩ : ∃ wl, wl = w5 ∧ Below z w2 wl ∧ Hid (Arr wl ok 3 (I64 nd.keys)) ∧ Hid (Arr wl oi 3 (I64 nd.items)) ∧ z ≤ ok ∧ z ≤ oi ∧ ok ≠ oi := ⟨w5, rfl, hS5, hA5, Arr.keep (w := w6) hA6.out hb5, Nat.le_trans hzs6 hok, Nat.le_trans hzs hoi, (Nat.ne_of_lt (Nat.lt_of_lt_of_le hA6.out.lt hok)).symm⟩)
  subst hwl
  have hkn : ok ≠ nb := by omega
  have hin2 : oi ≠ nb := by omega
  have hN7 : Hid (Arr ((wl.setCell ⟨nb, 3, none⟩ (.slice (some ⟨ok, 0, none⟩) nd.keys.length nd.keys.length)).setCell ⟨nb, 4, none⟩ (.slice (some ⟨oi, 0, none⟩) nd.items.length nd.items.length)) nb 34 [.int .i64 nd.kind, .string (mks nd.text), .bool nd.ord, .slice (some ⟨ok, 0, none⟩) nd.keys.length nd.keys.length, .slice (some ⟨oi, 0, none⟩) nd.items.length nd.items.length]) := ((hND.out.below hSl hnz).store 3 _).store 4 _
  have hK7 := Lib.hid ((hAk.out.far (p := ⟨nb, 3, none⟩) hkn (.slice (some ⟨ok, 0, none⟩) nd.keys.length nd.keys.length)).far (p := ⟨nb, 4, none⟩) hkn (.slice (some ⟨oi, 0, none⟩) nd.items.length nd.items.length))
  have hI7 := Lib.hid ((hAi.out.far (p := ⟨nb, 3, none⟩) hin2 (.slice (some ⟨ok, 0, none⟩) nd.keys.length nd.keys.length)).far (p := ⟨nb, 4, none⟩) hin2 (.slice (some ⟨oi, 0, none⟩) nd.items.length nd.items.length))
  have hB7 : Hid (Below w.heap.size w ((wl.setCell ⟨nb, 3, none⟩ (.slice (some ⟨ok, 0, none⟩) nd.keys.length nd.keys.length)).setCell ⟨nb, 4, none⟩ (.slice (some ⟨oi, 0, none⟩) nd.items.length nd.items.length))) := ((hbn.trans (hSl.mono (by have := HNB.out; omega))).setCell (p := ⟨nb, 3, none⟩) (Nat.le_of_eq HNB.out) _).setCell (p := ⟨nb, 4, none⟩) (Nat.le_of_eq HNB.out) _
  clear hA5 hA6 hAk hAi hb5 hb6 hS5 hS6 hzs5 hzs6 hok hoi hSl hS2 hzs r3 r4 q3 q4 DK DI hbn hND
  generalize ((wl.setCell ⟨nb, 3, none⟩ (.slice (some ⟨ok, 0, none⟩) nd.keys.length nd.keys.length)).setCell ⟨nb, 4, none⟩ (.slice (some ⟨oi, 0, none⟩) nd.items.length nd.items.length)) = w70 at *
  have hw70 : w.heap.size ≤ w70.heap.size := hB7.out.size
  have hT7 := Lib.hid (HT.out.keep hB7.out)
  have hR7 := Lib.hid (own_below HR.out hB7.out)
  have hrlt := (HR.out.lt rb rfl)
  have hrlt1 := hrlt.2
  have hkl0 : ¬ (0 : Int) < nd.keys.length := by rw [HKY.out]; simp
  have n0' := hN7.out.cell' (i := 0) rfl
  have n1' := hN7.out.cell' (i := 1) rfl
  have n2' := hN7.out.cell' (i := 2) rfl
  have n3' := hN7.out.cell' (i := 3) rfl
  have n4' := hN7.out.cell' (i := 4) rfl
  have t0 := hT7.out.cell' (i := 0) rfl
  have hbN : Below w70.heap.size w70 (w70.alloc (.cells #[.int .i64 nd.kind, .string (mks nd.text), .bool nd.ord, .slice (some ⟨ok, 0, none⟩) nd.keys.length nd.keys.length, .slice (some ⟨oi, 0, none⟩) nd.items.length nd.items.length] 34)) := (Below.refl _ _).alloc (Nat.le_refl _) _
  have hzb7 : zb ≤ w70.heap.size := by omega
  have hTN := Lib.hid (hT7.out.keep hbN)
  have hrk := Lib.hid (own_kind (own_below hR7.out hbN) (g := rb) rfl)
  have hne2 : Hid (some tb ≠ (Value.slice (some ⟨rb, 0, none⟩) n cv).ownBlock) := fun e => by
   have e := Option.some.inj e
   have e : tb = rb := e
   subst e
   obtain ⟨C, fz, hc⟩ := hrk.out
   exact absurd (cells_kind hTN.out hc) (by decide)
  go_upto_region 5 with (at_builtin; go_loud (refine wpList_apS rfl (.tmp 24) (.tmp 26) 24 rfl zb 34 _ 5 _ Tryz.underlying24 infoNd rfl (by decide) _ n ncs rfl (hR7.out.alloc _) ⟨w70.heap.size, 0, none⟩ _ [.int .i64 nd.kind, .string (mks nd.text), .bool nd.ord, .slice (some ⟨ok, 0, none⟩) nd.keys.length nd.keys.length, .slice (some ⟨oi, 0, none⟩) nd.items.length nd.items.length] rfl rfl (cells_new _ _ _) rfl (by unfold maxLen; omega) (by omega) (by simp; omega) ?_; intro v3 w3 hown3 hgr3 hat3; obtain ⟨A3, c3', hv3, hc3, hm3⟩ := own_slice hown3; subst hv3; have a3 := hTN.out.grown hgr3 hne2.out; have b3 := a3.cell' (i := 0) rfl; have f3 := a3.frozen 0))
  have hV3 := Lib.hid hown3
  have hfar : ∀ {b : Nat} {t : TypeId} {xs : List Value}, Arr w70 b t xs → b ≠ rb → t ≠ 24 → Arr (w3.setCell ⟨tb, 0, none⟩ (.slice A3 (n + 1) c3')) b t xs := fun {b t xs} ha hb ht => by
   have h2 := (ha.keep hbN).grown hgr3 (fun e => hb (Option.some.inj e))
   exact h2.far (p := ⟨tb, 0, none⟩) (h2.ne a3 ht) _
  have hNF := Lib.hid (hfar hN7.out (by have := HNB.out; omega) (by decide))
  have hKF := Lib.hid (hfar hK7.out (by have := HNB.out; omega) (by decide))
  have hIF := Lib.hid (hfar hI7.out (by have := HNB.out; omega) (by decide))
  have hTF : Hid (Arr (w3.setCell ⟨tb, 0, none⟩ (.slice A3 (n + 1) c3')) tb 24 [.slice A3 (n + 1) c3']) := a3.store 0 _
  have hRF : Hid ((w3.setCell ⟨tb, 0, none⟩ (.slice A3 (n + 1) c3')).ownsRow zb 34 5 (.slice A3 (n + 1) c3') (n + 1) (ncs ++ nodeC nd ok oi)) := own_far (p := ⟨tb, 0, none⟩) hV3.out (fun e => by
   obtain ⟨C, fz, hk⟩ := own_kind hV3.out e
   exact absurd (cells_kind a3 hk) (by decide)) _
  have hFF : Hid (Fr w (w3.setCell ⟨tb, 0, none⟩ (.slice A3 (n + 1) c3')) tb tb (.slice (some ⟨rb, 0, none⟩) n cv) (.slice A3 (n + 1) c3')) := by
   have h1 := hB7.out.trans (hbN.mono hw70)
   refine ⟨hgr3.os.trans h1.os, hgr3.tape.trans h1.tape, hgr3.output.trans h1.output, ?_, fun b hb h2 _ h3 => ?_, ?_⟩
   ·have := h1.size
    have := hgr3.size
    simp [World.setCell]
    omega
   ·exact (setCell_heap_ne _ _ _ h2).trans ((hgr3.block b (Nat.lt_of_lt_of_le hb h1.size) (fun e => h3 e.symm)).trans (h1.block b hb))
   ·rcases hat3 with e1 | e1
    ·exact .inl e1
    ·refine .inr ⟨_, e1, ?_⟩
     have := h1.size
     exact this
  clear hV3 hfar hown3 hgr3 hat3 a3 b3 f3 hTN hrk hne2 hbN hT7 hR7 n0' n1' n2' n3' n4' t0 hN7 hK7 hI7 hB7 hT
  generalize (w3.setCell ⟨tb, 0, none⟩ (.slice A3 (n + 1) c3')) = wf at *
  have n3' := hNF.out.cell' (i := 3) rfl
  have hnb1 : w.heap.size ≤ ok := by have := HNB.out; omega
  have hnb2 : w.heap.size ≤ oi := by have := HNB.out; omega
  go_upto_region 6 with (fail)
  go_loop [31] (fun v => v = .int .i64 0) (fun _ => 0)
  case atStart => exact rfl
  case round =>
   subst hrel
   go_wp2_with (fail)
   go_ret
   exact ⟨_, ok, oi, rfl, hTF.out, hRF.out, hKF.out, hIF.out, hnb1, hnb2, hne, hFF.out⟩
end Go.Proofs.YtoppncpmfajbcaaGreatDoor
