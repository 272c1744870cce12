/- The walks of graph's counts, inKeys and indices. -/
import Derived.Test.YtbhigefbihpnlaaGreatDoorMAy
import Derived.Test.YtbhigefbihpnlaaGreatDoorMAg
import Derived.WideKeyEntry
import Derived.Maps.OwnRows
import Derived.Maps.Views
set_option linter.unusedVariables false
set_option linter.unusedSimpArgs false
set_option linter.defProp false
set_option linter.constructorNameAsVariable false
namespace Go.Proofs.YtbhigefbihpnlaaGreatDoor
open Go.RowKit
def CB (l : List Int) (q : Nat) : Prop := ∀ k, 0 ≤ l.getD k 0 ∧ l.getD k 0 ≤ (q : Int)
theorem CB.zero (n : Nat) : CB (List.replicate n 0) 0 := fun k => by
 rw [List.getD_eq_getElem?_getD, List.getElem?_replicate]; split <;> simp
theorem CB.bump {l : List Int} {q : Nat} (h : CB l q) (x : Int) : CB (bump l x) (q + 1) := fun k => by
 unfold Proofs.YtbhigefbihpnlaaGreatDoor.bump
 rw [List.getD_eq_getElem?_getD, List.getElem?_set]
 have h1 := h k
 have h2 := h x.toNat
 split
 ·split
  ·simp only [Option.getD_some]; omega
  ·simp only [Option.getD_none]; omega
 ·rw [← List.getD_eq_getElem?_getD]; omega
theorem flat_drop {nodes : List GNode} {i : Nat} (h : i < nodes.length) : (nodes.drop i).flatMap refs = (ndAt nodes i).keys ++ ((ndAt nodes i).items ++ (nodes.drop (i + 1)).flatMap refs) := by
 rw [List.drop_eq_getElem_cons h, List.flatMap_cons]
 have e : nodes[i] = ndAt nodes i := by have := ndAt_get h; rw [List.getElem?_eq_getElem h] at this; exact Option.some.inj this
 rw [e]
 unfold refs
 rw [List.append_assoc]
theorem infoInt : (Tryz.prog.info? 3).map (fun i => (i.zero, i.size, i.bytes)) = some (some (.int .i64 0), 1, 8) := by kernel_rfl
theorem infoBool : (Tryz.prog.info? 4).map (fun i => (i.zero, i.size, i.bytes)) = some (some (.bool false), 1, 1) := by kernel_rfl
set_option maxRecDepth 20000 in
set_option maxHeartbeats 4000000 in
theorem counts_any {B g o c : Nat} {nodes : List GNode} {root : Int} (hV : indicesV nodes root = true) (hL : NL 65536 nodes) (hN : nodes.length ≤ 65536) (w : World) (hG : GRd w B g o nodes) :
  Calls Tryz.prog 28 #[.agg #[.slice (some ⟨g, o, none⟩) nodes.length c, .int .i64 root]] w fun e w' => ∃ cb, e = .returned (.slice (some ⟨cb, 0, none⟩) nodes.length nodes.length) ∧ w.heap.size ≤ cb ∧ Below w.heap.size w w' ∧ Hid (Arr w' cb 3 (I64 (countsV nodes root))) := by
 obtain ⟨⟨hr1, hr2⟩, hI⟩ := idx_of hV
 obtain ⟨r, rfl⟩ : ∃ r : Nat, root = (r : Int) := ⟨root.toNat, by omega⟩
 have h1 : Hid (Arr (w.alloc (.cells #[.slice (some ⟨g, o, none⟩) nodes.length c, .int .i64 (r : Int)] 26)) w.heap.size 26 [.slice (some ⟨g, o, none⟩) nodes.length c, .int .i64 (r : Int)]) := Arr.new w 26 [.slice (some ⟨g, o, none⟩) nodes.length c, .int .i64 (r : Int)]
 have hB1 : Hid (Below w.heap.size w (w.alloc (.cells #[.slice (some ⟨g, o, none⟩) nodes.length c, .int .i64 (r : Int)] 26))) := (Below.refl _ _).alloc (Nat.le_refl _) _
 have HV := Lib.hid hV
 have HG := Lib.hid hG
 have hI' := Lib.hid hI
 clear hV hG hI
 go_enter Tryz.func28, Tryz.ntmps28
 go_upto_region 1 with (fail)
 generalize w.alloc (.cells #[.slice (some ⟨g, o, none⟩) nodes.length c, .int .i64 (r : Int)] 26) = W at *
 have hGW : Hid (GRd W B g o nodes) := HG.out.below hB1.out (by exact HG.out.2.1)
 obtain ⟨n, hn⟩ : ∃ n, nodes.length = n := ⟨_, rfl⟩
 obtain ⟨gb, hgb⟩ : ∃ b, w.heap.size = b := ⟨_, rfl⟩
 have hgbl := h1.out.lt
 rw [hgb] at h1 hgbl hB1 ⊢
 rw [hn] at h1 hr2 hN ⊢
 have x0 := h1.out.cell' (i := 0) rfl
 have x1 := h1.out.cell' (i := 1) rfl
 have HN := Lib.hid hn
 have HGB := Lib.hid hgb
 clear hn hgb
 go_upto_region 2 with (at_make; go_loud (refine wpList_mk rfl _ _ 44 rfl 3 _ _ Tryz.underlying44 infoInt rfl _ _ _ _ rfl rfl n n (by omega) (by omega) (by omega) (by omega) (by unfold maxLen; omega) ?_; intro cb w2 hcb hC hb2 hz2))
 have hB2 : Hid (Below gb w w2) := hB1.out.trans (hb2.mono (Nat.le_of_lt hgbl))
 have l1 : gb < cb := by have := hcb.out; omega
 have hX := h1.out.keep hb2
 have y0 := hX.cell' (i := 0) rfl
 have y1 := hX.cell' (i := 1) rfl
 have hCz : Hid (Arr w2 cb 3 (I64 (List.replicate n 0))) := by rw [← I64_rep]; exact hC
 have z0 : w2.cell? ⟨cb, r, none⟩ = some (.int .i64 0) := by
  have := hCz.out.cell' (I64_getD (l := List.replicate n 0) (k := r) (by simp; omega))
  rw [this, List.getD_eq_getElem?_getD, List.getElem?_replicate]; split <;> rfl
 have zf := hCz.out.frozen r
 have hC3 : Hid (Arr (w2.setCell ⟨cb, r, none⟩ (.int .i64 1)) cb 3 (I64 (bump (List.replicate n 0) (r : Int)))) := by
  have h := hCz.out.store r (.int .i64 1)
  rw [I64_set] at h
  have e : (List.replicate n (0 : Int)).set r 1 = bump (List.replicate n 0) (r : Int) := by
   unfold bump
   rw [Int.toNat_natCast]
   have : (List.replicate n (0 : Int)).getD r 0 = 0 := by rw [List.getD_eq_getElem?_getD, List.getElem?_replicate]; split <;> rfl
   rw [this]; rfl
  rw [e] at h
  exact h
 have hB3 := Lib.hid (hB2.out.setCell (p := ⟨cb, r, none⟩) (show gb ≤ cb by omega) (.int .i64 1))
 have hX3 := Lib.hid (hX.far (p := ⟨cb, r, none⟩) (show gb ≠ cb by omega) (.int .i64 1))
 clear hC hCz hB2 hb2 hz2 x0 x1 h1 hX
 go_upto_region 3 with (fail)
 clear y0 y1 z0 zf
 generalize w2.setCell ⟨cb, r, none⟩ (.int .i64 1) = w3 at *
 have y0 := hX3.out.cell' (i := 0) rfl
 have HCB : Hid (CB (bump (List.replicate n 0) (r : Int)) 1) := (CB.zero n).bump _
 have HFI : Hid (((nodes.drop 0).flatMap refs).foldl bump (bump (List.replicate n 0) (r : Int)) = countsV nodes (r : Int)) := by
  rw [List.drop_zero, ← HN.out]; exact rfl
 have hlen0 : Hid ((bump (List.replicate n 0) (r : Int)).length = n) := by rw [bump_len]; exact List.length_replicate
 go_wp2_with (fail)
 go_loopw [24] (fun v wr => ∃ (i : Nat) (cur : List Int) (q : Nat), i ≤ n ∧ v = .int .i64 (i : Int) ∧ q ≤ 1 + i * 131072 ∧ Hid (CB cur q) ∧ Hid (cur.length = n) ∧ Hid (((nodes.drop i).flatMap refs).foldl bump cur = countsV nodes (r : Int)) ∧ Hid (Arr wr cb 3 (I64 cur)) ∧ Hid (Below gb w wr) ∧ w3.grownBy wr (some cb)) (fun v _ => n - (intOf v).toNat)
 case atStart => exact ⟨0, _, 1, Nat.zero_le _, rfl, by omega, HCB, hlen0, HFI, hC3, hB3, World.grownBy.refl _ _⟩
 case round =>
  obtain ⟨i, cur, q, hi, rfl, hq, hcb1, hcl, hfi, hCr, hBr, hgr⟩ := hrel
  by_cases hin : i = n
  ·have hin' : ¬ (i : Int) < n := by omega
   have he : cur = countsV nodes (r : Int) := by
    have := hfi.out
    rw [List.drop_of_length_le (by have := HN.out; omega)] at this
    exact this
   subst he
   go_wp2_with (fail)
   go_ret
   exact ⟨cb, by rw [HN.out]; rfl, by have := HGB.out; omega, by rw [HGB.out]; exact hBr, hCr⟩
  ·have hin' : (i : Int) < n := by omega
   have hi2 : i < nodes.length := by have := HN.out; omega
   have hGr := (HG.out.below hBr.out (by have := HG.out.2.1; have := HGB.out; omega)).of_at hi2
   obtain ⟨K, ck, I, ci, c0, c1, c2, c3, c4, ⟨hK, hKb⟩, hIt, hIb⟩ := hGr
   have k0 : (0 : Int) ≤ i := by omega
   have hcbl := hCr.out.lt
   have hND : Hid (Arr (wr.alloc (.cells #[.int .i64 (ndAt nodes i).kind, .string (mks (ndAt nodes i).text), .bool (ndAt nodes i).ord, .slice K (ndAt nodes i).keys.length ck, .slice I (ndAt nodes i).items.length ci] 60)) wr.heap.size 60 [.int .i64 (ndAt nodes i).kind, .string (mks (ndAt nodes i).text), .bool (ndAt nodes i).ord, .slice K (ndAt nodes i).keys.length ck, .slice I (ndAt nodes i).items.length ci]) := Arr.new wr _ _
   have hbn : Hid (Below wr.heap.size wr (wr.alloc (.cells #[.int .i64 (ndAt nodes i).kind, .string (mks (ndAt nodes i).text), .bool (ndAt nodes i).ord, .slice K (ndAt nodes i).keys.length ck, .slice I (ndAt nodes i).items.length ci] 60))) := (Below.refl _ _).alloc (Nat.le_refl _) _
   have HK := Lib.hid hK
   have HI := Lib.hid hIt
   have HKB := Lib.hid hKb
   have HIB := Lib.hid hIb
   clear hK hIt hKb hIb
   go_upto_region 6 with (fail)
   clear c0 c1 c2 c3 c4
   generalize (wr.alloc (.cells #[.int .i64 (ndAt nodes i).kind, .string (mks (ndAt nodes i).text), .bool (ndAt nodes i).ord, .slice K (ndAt nodes i).keys.length ck, .slice I (ndAt nodes i).items.length ci] 60)) = w5 at *
   have hB5 : Hid (Below gb w w5) := hBr.out.trans (hbn.out.mono (by have := hBr.out.size; have := HGB.out; omega))
   have hC5 := Lib.hid (hCr.out.keep hbn.out)
   have hK5 := Lib.hid (HK.out.keep hbn.out)
   have hI5 := Lib.hid (HI.out.keep hbn.out)
   have hg5 : Hid (w3.grownBy w5 (some cb)) := grown_trans hgr ⟨hbn.out.os, hbn.out.tape, hbn.out.output, hbn.out.size, fun j hj _ => hbn.out.block j hj⟩
   have hnbl := hND.out.lt
   obtain ⟨nb, hnb⟩ : ∃ b, wr.heap.size = b := ⟨_, rfl⟩
   rw [hnb] at hND hnbl hcbl ⊢
   have hgbn : gb < nb := by have := hBr.out.size; have := HGB.out; omega
   obtain ⟨hLk, hLi⟩ := hL i hi2
   have hrf := Lib.hid (hI'.out i hi2)
   rw [flat_drop hi2, List.foldl_append, List.foldl_append] at hfi
   clear hnb hBr hCr HK HI hbn hgr
   generalize ndAt nodes i = nd at *
   have n3 := hND.out.cell' (i := 3) rfl
   go_wp2_with (fail)
   go_loopw [31] (fun v ws => ∃ (j : Nat) (cu : List Int) (q' : Nat), j ≤ nd.keys.length ∧ v = .int .i64 (j : Int) ∧ q' ≤ q + j ∧ Hid (CB cu q') ∧ Hid (cu.length = n) ∧ Hid (((nd.keys.drop j)).foldl bump cu = nd.keys.foldl bump cur) ∧ Hid (Arr ws cb 3 (I64 cu)) ∧ Hid (Below gb w ws) ∧ w5.grownBy ws (some cb)) (fun v _ => nd.keys.length - (intOf v).toNat)
   case atStart => exact ⟨0, cur, q, Nat.zero_le _, rfl, by omega, hcb1, hcl, rfl, hC5, hB5, World.grownBy.refl _ _⟩
   case round =>
    obtain ⟨j, cu, q', hj, rfl, hq', hcb2, hcl2, hfk, hCs, hBs, hgs⟩ := hrel
    by_cases hjl : j = nd.keys.length
    ·have hjl' : ¬ (j : Int) < nd.keys.length := by omega
     have he : cu = nd.keys.foldl bump cur := by
      have := hfk.out
      rw [List.drop_of_length_le (by omega)] at this
      exact this
     subst he
     obtain ⟨q6, hq6⟩ : ∃ x, x = q' := ⟨_, rfl⟩
     subst hq6
     obtain ⟨w6, hw6⟩ : ∃ w : World, w = wr := ⟨_, rfl⟩
     subst hw6
     have hg6 := Lib.hid hgs
     have hcb6 := hcb2
     have hcl6 := hcl2
     have hC6 := hCs
     have hB6 := hBs
     have hI6 := Lib.hid (hI5.out.grown hgs (fun ad e h => by have := HIB.out ad e; have := Option.some.inj h; have := HG.out.2.1; have := HGB.out; omega))
     have n4 := (hND.out.grown hgs (by intro e; have e' : nb = cb := Option.some.inj e; omega)).cell' (i := 4) rfl
     clear hfk hcb2 hcl2 hCs hBs hgs n3
     go_wp2_with (fail)
     go_loopw [45] (fun v ws => ∃ (j : Nat) (cu : List Int) (q' : Nat), j ≤ nd.items.length ∧ v = .int .i64 (j : Int) ∧ q' ≤ q6 + j ∧ Hid (CB cu q') ∧ Hid (cu.length = n) ∧ Hid (((nd.items.drop j)).foldl bump cu = nd.items.foldl bump (nd.keys.foldl bump cur)) ∧ Hid (Arr ws cb 3 (I64 cu)) ∧ Hid (Below gb w ws) ∧ w6.grownBy ws (some cb)) (fun v _ => nd.items.length - (intOf v).toNat)
     case atStart => exact ⟨0, _, q6, Nat.zero_le _, rfl, by omega, hcb6, hcl6, rfl, hC6, hB6, World.grownBy.refl _ _⟩
     case round =>
      obtain ⟨j, cu, q', hj, rfl, hq', hcb2, hcl2, hfk, hCs, hBs, hgs⟩ := hrel
      by_cases hjl : j = nd.items.length
      ·have hjl' : ¬ (j : Int) < nd.items.length := by omega
       have he : cu = nd.items.foldl bump (nd.keys.foldl bump cur) := by
        have := hfk.out
        rw [List.drop_of_length_le (by omega)] at this
        exact this
       subst he
       have hgo := Lib.hid (grown_trans hg5.out (grown_trans hg6.out hgs))
       go_wp2_with (fail)
       go_roundw
       case rel => exact ⟨i + 1, _, q', by omega, i64e (by omega), by omega, hcb2, hcl2, hfi, hCs, hBs, hgo.out⟩
       case measure => simp [intOf]; omega
      ·have hjl' : (j : Int) < nd.items.length := by omega
       obtain ⟨x, hx⟩ : ∃ x, nd.items[j]? = some x := ⟨_, List.getElem?_eq_getElem (by omega)⟩
       obtain ⟨ad, rfl, hc⟩ := (hI6.out.grown hgs (fun ad e h => by have := HIB.out ad e; have := Option.some.inj h; have := HG.out.2.1; have := HGB.out; omega)).at_ (I64_get hx)
       have hxr := hrf.out x (by unfold refs; exact List.mem_append.2 (.inr (List.mem_of_getElem? hx)))
       obtain ⟨kx, rfl⟩ : ∃ kx : Nat, x = (kx : Int) := ⟨x.toNat, by omega⟩
       have hkn : (kx : Int) < n := by have := HN.out; omega
       have p0 := hCs.out.cell' (I64_getD (l := cu) (k := kx) (by have := hcl2.out; omega))
       have pf := hCs.out.frozen kx
       obtain ⟨hv1, hv2⟩ := hcb2.out kx
       have hCt : Hid (Arr (wr.setCell ⟨cb, kx, none⟩ (.int .i64 (cu.getD kx 0 + 1))) cb 3 (I64 (bump cu (kx : Int)))) := by
        have h := hCs.out.store kx (.int .i64 (cu.getD kx 0 + 1))
        rw [I64_set] at h
        exact h
       have hgt := Lib.hid (grown_trans hgs (grown_set wr ⟨cb, kx, none⟩ (.int .i64 (cu.getD kx 0 + 1))))
       have hBt := Lib.hid (hBs.out.setCell (p := ⟨cb, kx, none⟩) (show gb ≤ cb by omega) (.int .i64 (cu.getD kx 0 + 1)))
       have hfk2 : Hid ((nd.items.drop (j + 1)).foldl bump (bump cu (kx : Int)) = nd.items.foldl bump (nd.keys.foldl bump cur)) := by
        have := hfk.out
        rw [drop_cons_at hx, List.foldl_cons] at this
        exact this
       have hcl3 : Hid ((bump cu (kx : Int)).length = n) := by rw [bump_len]; exact hcl2.out
       have hcb3 := Lib.hid (hcb2.out.bump (kx : Int))
       clear hfk hx hxr hCs
       generalize cu.getD kx 0 = vx at *
       go_wp2_with (fail)
       go_roundw
       case rel => exact ⟨j + 1, bump cu (kx : Int), q' + 1, by omega, i64e (by omega), by omega, hcb3, hcl3, hfk2, hCt, hBt, hgt.out⟩
       case measure => simp [intOf]; omega
    ·have hjl' : (j : Int) < nd.keys.length := by omega
     obtain ⟨x, hx⟩ : ∃ x, nd.keys[j]? = some x := ⟨_, List.getElem?_eq_getElem (by omega)⟩
     obtain ⟨ad, rfl, hc⟩ := (hK5.out.grown hgs (fun ad e h => by have := HKB.out ad e; have := Option.some.inj h; have := HG.out.2.1; have := HGB.out; omega)).at_ (I64_get hx)
     have hxr := hrf.out x (by unfold refs; exact List.mem_append.2 (.inl (List.mem_of_getElem? hx)))
     obtain ⟨kx, rfl⟩ : ∃ kx : Nat, x = (kx : Int) := ⟨x.toNat, by omega⟩
     have hkn : (kx : Int) < n := by have := HN.out; omega
     have p0 := hCs.out.cell' (I64_getD (l := cu) (k := kx) (by have := hcl2.out; omega))
     have pf := hCs.out.frozen kx
     obtain ⟨hv1, hv2⟩ := hcb2.out kx
     have hCt : Hid (Arr (wr.setCell ⟨cb, kx, none⟩ (.int .i64 (cu.getD kx 0 + 1))) cb 3 (I64 (bump cu (kx : Int)))) := by
      have h := hCs.out.store kx (.int .i64 (cu.getD kx 0 + 1))
      rw [I64_set] at h
      exact h
     have hgt := Lib.hid (grown_trans hgs (grown_set wr ⟨cb, kx, none⟩ (.int .i64 (cu.getD kx 0 + 1))))
     have hBt := Lib.hid (hBs.out.setCell (p := ⟨cb, kx, none⟩) (show gb ≤ cb by omega) (.int .i64 (cu.getD kx 0 + 1)))
     have hfk2 : Hid ((nd.keys.drop (j + 1)).foldl bump (bump cu (kx : Int)) = nd.keys.foldl bump cur) := by
      have := hfk.out
      rw [drop_cons_at hx, List.foldl_cons] at this
      exact this
     have hcl3 : Hid ((bump cu (kx : Int)).length = n) := by rw [bump_len]; exact hcl2.out
     have hcb3 := Lib.hid (hcb2.out.bump (kx : Int))
     clear hfk hx hxr hCs
     generalize cu.getD kx 0 = vx at *
     go_wp2_with (fail)
     go_roundw
     case rel => exact ⟨j + 1, bump cu (kx : Int), q' + 1, by omega, i64e (by omega), by omega, hcb3, hcl3, hfk2, hCt, hBt, hgt.out⟩
     case measure => simp [intOf]; omega
end Go.Proofs.YtbhigefbihpnlaaGreatDoor
namespace Go.Proofs.YtbhigefbihpnlaaGreatDoor
open Go.RowKit Go.Maps Go.WideElems Go.MapKept
open Go.ChangeMaps (setBlock heap_setBlock_same heap_setBlock_other)
open Go.WideMaps (KeyLaw)
section
variable {H : Type} {P : Program} {w w' : World} {t k e E : TypeId} {b n base : Nat} {es : Array MapEntry} {clock : Nat} {R : Value → Option (DataW H × List MemPlace)} {q : IntKind} {D : DataW H}
theorem nodup_at {α β : Type} (f : α → β) : ∀ {l : List α} {i j : Nat} {x y : α}, (l.map f).Nodup → l[i]? = some x → l[j]? = some y → f x = f y → i = j
 | [], _, _, _, _, _, h, _, _ => by simp at h
 | a :: l, 0, 0, _, _, _, _, _, _ => rfl
 | a :: l, 0, j + 1, x, y, hn, h1, h2, he => by
  simp at h1 h2 hn
  subst h1
  exact absurd he.symm (hn.1 y (List.mem_of_getElem? h2))
 | a :: l, i + 1, 0, x, y, hn, h1, h2, he => by
  simp at h1 h2 hn
  subst h2
  exact absurd he (hn.1 x (List.mem_of_getElem? h1))
 | a :: l, i + 1, j + 1, x, y, hn, h1, h2, he => by
  simp at h1 h2
  rw [List.map_cons, List.nodup_cons] at hn
  rw [nodup_at f hn.2 h1 h2 he]
theorem mapUpdate_alike (K : KeyLaw P k) (ht : P.underlying t = some (.map k E)) (hb : w.heap[b]? = some (.map es clock)) (hb' : w'.heap[b]? = some (.map es clock)) (F : Fit P k R es clock)
  {key val : Value} {kl : Lit} (hkey : keyOf P k key = some kl) {es' : Array MapEntry} {clock' : Nat} (h : (Instr.mapUpdate t (.map (some b)) key val).run P w = .ok () (setBlock w b (.map es' clock'))) :
  (Instr.mapUpdate t (.map (some b)) key val).run P w' = .ok () (setBlock w' b (.map es' clock')) := by
 have inj : ∀ {a c : Array MapEntry} {x y : Nat}, setBlock w b (.map a x) = setBlock w b (.map c y) → a = c ∧ x = y := fun {a c x y} h => by
  have h1 := heap_setBlock_same hb (.map a x)
  rw [h, heap_setBlock_same hb] at h1
  cases h1
  exact ⟨rfl, rfl⟩
 rcases K.find w hkey es.toList F.keys with ⟨h1, h2⟩ | ⟨j, e0, h1, h2, h3⟩
 ·rcases K.find w' hkey es.toList F.keys with ⟨g1, _⟩ | ⟨j, e0, _, g2, g3⟩
  ·simp [Instr.mapUpdate, run_underlying ht, MapKept.run_getObj_map hb, K.check w false hkey, h1, MapKept.run_setObj_map _ hb, Result.andThen] at h
   obtain ⟨r1, r2⟩ := inj h
   simp [Instr.mapUpdate, run_underlying ht, MapKept.run_getObj_map hb', K.check w' false hkey, g1, MapKept.run_setObj_map _ hb', Result.andThen, setBlock, r1, r2]
  ·exact absurd g3 (h2 e0 (List.mem_of_getElem? g2))
 ·rcases K.find w' hkey es.toList F.keys with ⟨_, g2⟩ | ⟨j', e0', g1, g2, g3⟩
  ·exact absurd h3 (g2 e0 (List.mem_of_getElem? h2))
  ·have hj : j = j' := nodup_at (·.key) F.stamped.2.2 h2 g2 (h3.trans g3.symm)
   subst hj
   have he : e0 = e0' := Option.some.inj (h2.symm.trans g2)
   subst he
   have hj2 : es[j]? = some e0 := by simpa using h2
   simp [Instr.mapUpdate, run_underlying ht, MapKept.run_getObj_map hb, K.check w false hkey, h1, hj2, K.stays w hkey, h3, MapKept.run_setObj_map _ hb, Result.andThen] at h
   obtain ⟨r1, r2⟩ := inj h
   simp [Instr.mapUpdate, run_underlying ht, MapKept.run_getObj_map hb', K.check w' false hkey, g1, hj2, K.stays w' hkey, g3, MapKept.run_setObj_map _ hb', Result.andThen, setBlock, r1, r2]
theorem setBlock_two (w : World) (b : Nat) (o o' : Obj) : setBlock (setBlock w b o) b o' = setBlock w b o' := by
 unfold setBlock
 simp
def entryBack (w : World) (P : Program) (t k : TypeId) (base : Nat) (e : TypeId) (q : IntKind) (b n : Nat) (D : DataW H) (kl : Lit) (stamp : Value) (v : Value) (wA : World) : Prop :=
 ∀ (w1 : World) (v' : Value) (zs' : List Int), wA.grownBy w1 v.ownBlock → w1.ownsInts base e q v' zs' → zs'.length ≤ n + 1 → (v'.ownBlock = v.ownBlock ∨ ∃ g, v'.ownBlock = some g ∧ w.heap.size ≤ g) →
  ∃ w2, (Instr.entryStore t (.map (some b)) stamp v').run P w1 = .ok () w2 ∧ w2.ownsGroups P k base e q b (n + 1) (D.put kl (rowDatum q v' zs')) ∧ w1.grownBy w2 (some b)
theorem groups_entry (K : KeyLaw P k) (ht : P.underlying t = some (.map k E)) (hz : ∀ u : World, (zeroValue E).run P u = .ok (.slice none 0 0) u) (h : w.ownsGroups P k base e q b n D) (hn : n < maxLen) {key : Value} {kl : Lit} (hkey : keyOf P k key = some kl) :
  ∃ v zs stamp wA, (Instr.mapEntry t (.map (some b)) key).run P w = .ok (.tuple #[v, stamp]) wA ∧ D.atKey kl .nil = rowDatum q v zs ∧ wA.ownsInts base e q v zs ∧ zs.length ≤ n ∧ w.grownBy wA (some b) ∧ wA.heap.size = w.heap.size ∧ entryBack w P t k base e q b n D kl stamp v wA := by
 obtain ⟨v, zs, hrun, hat, ho, hl, hback⟩ := h.at (Keyed.of_law K) ht (hz w) hn hkey
 obtain ⟨es, clock, hb, F, hs, hD, hbb, hlen, hap⟩ := h
 obtain ⟨v0, st, es1, clock1, hE, hcase, hS⟩ := entry_then_store K ht hz hb F hkey
 have hblt : b < w.heap.size := (Array.getElem?_eq_some_iff.1 hb).1
 have hv : v0 = v := by
  rcases fit_look false (Keyed.of_law K) ht (hz w) hb F hkey with ⟨h1, h2, _⟩ | ⟨e0, y, hm0, h3, h1, _, _, _⟩
  ·have hv1 : v = .slice none 0 0 := by rw [hrun] at h1; simpa using h1
   rcases hcase with ⟨e0, hm, hk, _⟩ | ⟨_, rfl⟩
   ·exact absurd hk (h2 e0 hm)
   ·exact hv1.symm
  ·have hv1 : v = e0.val := by rw [hrun] at h1; simpa using h1
   rcases hcase with ⟨e1, hm, hk, rfl⟩ | ⟨hno, _⟩
   ·obtain ⟨i, hi⟩ := List.getElem?_of_mem hm0
    obtain ⟨j, hj⟩ := List.getElem?_of_mem hm
    have := nodup_at (·.key) F.stamped.2.2 hi hj (h3.trans hk.symm)
    subst this
    rw [Option.some.inj (hi.symm.trans hj)] at hv1
    exact hv1.symm
   ·exact absurd h3 (hno e0 hm0)
 subst hv
 have gA : ∀ (u : World) (o : Obj), u.grownBy (setBlock u b o) (some b) := fun u o => ⟨rfl, rfl, rfl, by simp [setBlock], fun j hj hne => by
  have : j ≠ b := fun e => hne (by rw [e])
  simp [setBlock, Ne.symm this]⟩
 have off : ∀ {u : World} {x : Value} {l : List Int}, u.ownsInts base e q x l → x.ownBlock = none ∨ x.ownBlock ≠ some b := fun {u x l} ho => by
  cases hx : x.ownBlock with
  | none => exact .inl rfl
  | some g =>
   refine .inr fun e1 => ?_
   have := (ho.1.lt g hx).1
   have := Option.some.inj e1
   omega
 refine ⟨v0, zs, goInt st, _, hE, hat, ho.kept (gA w _) (off ho), hl, gA w _, by simp [setBlock], fun w1 v' zs' hg ho' hl' hloc => ?_⟩
 have hA1 : (setBlock w b (.map es1 clock1)).heap[b]? = some (.map es1 clock1) := heap_setBlock_same hb _
 have hne : some b ≠ v0.ownBlock := fun e1 => by
  rcases off ho with h | h
  ·rw [h] at e1; cases e1
  ·exact h e1.symm
 have hw1 : w1.heap[b]? = some (.map es1 clock1) := (hg.block b (by simpa [setBlock] using hblt) hne).trans hA1
 obtain ⟨es', clock', hst, hup⟩ := hS w1 v' hw1
 have hw1' : (setBlock w1 b (.map es clock)).heap[b]? = some (.map es clock) := heap_setBlock_same hw1 _
 have hsz := hg.size
 have hgr : w.grownBy (setBlock w1 b (.map es clock)) v0.ownBlock := ⟨hg.os, hg.tape, hg.output, by simpa [setBlock] using hsz, fun j hj hne' => by
  by_cases hjb : j = b
  ·subst hjb; rw [hw1', hb]
  ·rw [heap_setBlock_other hw1 _ hjb, hg.block j (by simpa [setBlock] using hj) hne', heap_setBlock_other hb _ hjb]⟩
 obtain ⟨w2, hr2, ho2, hg2⟩ := hback _ v' zs' hgr (ho'.kept (gA w1 _) (off ho')) hl' hloc
 have hr3 := mapUpdate_alike K ht hb hw1' F hkey hup
 rw [hr2, setBlock_two] at hr3
 have e2 : w2 = setBlock w1 b (.map es' clock') := by simpa using hr3
 subst e2
 exact ⟨_, hst, ho2, gA w1 _⟩
theorem wpList_mapEntry_groups (w : World) {ops : Array Oper} {rest : List Oper} {o : Oper} {a : Act} {Q : Exit → Act → World → Prop}
  (hg : o.guard = none) (m x : Operand) (t : TypeId) (hop : o.op = Op.mapEntry t m x) (k E e : TypeId) (q : IntKind) (K : KeyLaw P k) (ht : P.underlying t = some (.map k E)) (hz : ∀ u : World, (zeroValue E).run P u = .ok (.slice none 0 0) u)
  (base b n : Nat) (D : DataW H) (hm : a.eval m = .map (some b)) (hown : w.ownsGroups P k base e q b n D) (hn : n < maxLen) (key : Value) (kl : Lit) (hx : a.eval x = key) (hkey : keyOf P k key = some kl)
  (hK : ∀ v zs stamp wA, D.atKey kl .nil = rowDatum q v zs → wA.ownsInts base e q v zs → zs.length ≤ n → w.grownBy wA (some b) → wA.heap.size = w.heap.size → entryBack w P t k base e q b n D kl stamp v wA → wpList P ops Q rest (a.put o.dst (.tuple #[v, stamp])) wA) :
  wpList P ops Q (o :: rest) a w := by
 refine wpList_plain hg fun K' hK' => ?_
 obtain ⟨v, zs, stamp, wA, hrun, hat, hoi, hzl, hgr, hsz, hback⟩ := groups_entry K ht hz hown hn hkey
 unfold Oper.wp
 simp [execOp, hop, hm, hx, hrun, Result.andThen]
 exact hK' _ _ (hK v zs stamp wA hat hoi hzl hgr hsz hback)
theorem wpList_entryStore_back (w : World) {ops : Array Oper} {rest : List Oper} {o : Oper} {a : Act} {Q : Exit → Act → World → Prop}
  (hg : o.guard = none) (m x v : Operand) (t : TypeId) (hop : o.op = Op.entryStore t m x v)
  {w0 wA : World} {k : TypeId} {base : Nat} {e : TypeId} {q : IntKind} {b n : Nat} {D : DataW H} {kl : Lit} {stamp u v' : Value} {zs' : List Int}
  (hback : entryBack w0 P t k base e q b n D kl stamp u wA) (hm : a.eval m = .map (some b)) (hx : a.eval x = stamp) (hv : a.eval v = v')
  (hgr : wA.grownBy w u.ownBlock) (hown' : w.ownsInts base e q v' zs') (hl' : zs'.length ≤ n + 1) (hloc : v'.ownBlock = u.ownBlock ∨ ∃ g, v'.ownBlock = some g ∧ w0.heap.size ≤ g)
  (hK : ∀ w2, w2.ownsGroups P k base e q b (n + 1) (D.put kl (rowDatum q v' zs')) → w.grownBy w2 (some b) → wpList P ops Q rest (a.put o.dst undef) w2) :
  wpList P ops Q (o :: rest) a w := by
 refine wpList_plain hg fun K' hK' => ?_
 obtain ⟨w2, hrun, r1, r2⟩ := hback w v' zs' hgr hown' hl' hloc
 unfold Oper.wp
 simp [execOp, hop, hm, hx, hv, hrun, Result.andThen]
 exact hK' _ _ (hK w2 r1 r2)
theorem ints_shape {v : Value} {zs : List Int} (h : w.ownsInts base e q v zs) : ∃ A cap, v = .slice A zs.length cap ∧ Rd w A (zs.map (Value.int q)) ∧ From base A := by
 obtain ⟨h1, ⟨rfl, h2⟩ | ⟨g, cap, cur, rfl, hb, hg, hn, hc, hs, ht⟩⟩ := h.1
 ·have : zs = [] := List.length_eq_zero_iff.1 h2
  subst this
  exact ⟨none, 0, rfl, fun j u hj => by simp at hj, fun ad he => by cases he⟩
 ·refine ⟨some ⟨g, 0, none⟩, cap, rfl, fun j u hj => ⟨_, rfl, ?_⟩, fun ad he => by cases he; exact hb⟩
  have hA : Arr w g e cur.toList := by unfold Arr; rw [hg]
  rw [← ht, List.getElem?_take] at hj
  have hj2 : cur.toList[j]? = some u := by
   split at hj
   ·exact hj
   ·cases hj
  have := hA.cell' (i := j) hj2
  cases j with
  | zero => simpa [Addr.add] using this
  | succ j => simpa [Addr.add] using this
end
end Go.Proofs.YtbhigefbihpnlaaGreatDoor
namespace Go.Proofs.YtbhigefbihpnlaaGreatDoor
open Go.RowKit Go.Maps
open Go.ChangeShapes
def itsOf {H : Type} : DataW H → List Int
 | .slice es _ => es.map fun | .lit (.int _ n) => n | _ => 0
 | _ => []
theorem itsOf_row {H : Type} {w : World} {base : Nat} {e : TypeId} {q : IntKind} {v : Value} {zs : List Int} (h : w.ownsInts base e q v zs) : itsOf (rowDatum (H := H) q v zs) = zs := by
 rcases h.datum (H := H) with ⟨h1, rfl⟩ | h1
 ·rw [h1]; rfl
 ·rw [h1]
  show (ChangeShapes.lits q zs).map _ = zs
  unfold ChangeShapes.lits
  rw [List.map_map]
  conv => rhs; rw [← List.map_id zs]
  exact List.map_congr_left fun a _ => rfl
open Classical in
def GrpR {H : Type} (D : DataW H) (kl : Int → Lit) (seen : List Int) : Prop := IsMap D ∧ ∀ x, itsOf (D.atKey (kl x) .nil) = seen.filter fun s => decide (kl s = kl x)
open Classical in
theorem GrpR.nil {H : Type} (kl : Int → Lit) : GrpR (.map [] : DataW H) kl [] := ⟨isMap_empty, fun _ => rfl⟩
open Classical in
theorem GrpR.put {H : Type} {D : DataW H} {kl : Int → Lit} {seen : List Int} (h : GrpR D kl seen) {s : Int} (hk : WideAt.IsKeyLit (kl s)) {w : World} {base : Nat} {e : TypeId} {q : IntKind} {v : Value} {zs : List Int}
  (ho : w.ownsInts base e q v zs) (hz : zs = (seen.filter fun t => decide (kl t = kl s)) ++ [s]) : GrpR (D.put (kl s) (rowDatum q v zs)) kl (seen ++ [s]) := by
 refine ⟨h.1.put _ _, fun x => ?_⟩
 rw [List.filter_append]
 by_cases hx : kl x = kl s
 ·rw [hx, atKey_put_same h.1 hk, itsOf_row ho, hz]
  simp
 ·rw [atKey_put_other hx, h.2 x]
  have : (List.filter (fun t => decide (kl t = kl x)) [s]) = [] := by simp [Ne.symm hx]
  rw [this, List.append_nil]
def leafSame (a b : GNode) : Bool := decide (a.kind = b.kind) && decide (a.text = b.text) && (a.ord == b.ord)
def dupF (nodes : List GNode) : List Int → List Int → Bool
 | _, [] => false
 | seen, k :: ks => seen.any (fun q => leafSame (ndAt nodes k.toNat) (ndAt nodes q.toNat)) || dupF nodes (seen ++ [k]) ks
def twiceV (nodes : List GNode) : Bool := nodes.any fun nd => dupF nodes [] nd.keys
open Classical in
theorem dup_group {nodes : List GNode} {kl : Int → Lit} {seen : List Int} {k : Int} (h : ∀ q ∈ seen, leafSame (ndAt nodes k.toNat) (ndAt nodes q.toNat) = true → kl q = kl k) :
  (seen.filter fun t => decide (kl t = kl k)).any (fun q => leafSame (ndAt nodes k.toNat) (ndAt nodes q.toNat)) = seen.any fun q => leafSame (ndAt nodes k.toNat) (ndAt nodes q.toNat) := by
 rw [Bool.eq_iff_iff, List.any_eq_true, List.any_eq_true]
 constructor
 ·rintro ⟨q, hq, hs⟩
  exact ⟨q, (List.mem_filter.1 hq).1, hs⟩
 ·rintro ⟨q, hq, hs⟩
  exact ⟨q, List.mem_filter.2 ⟨hq, by simpa using h q hq hs⟩, hs⟩
end Go.Proofs.YtbhigefbihpnlaaGreatDoor
