/- graph's components, plainly: what holds of every state of the search. No program is mentioned here. -/
import Derived.Test.YtbhigefbihpnlaaGreatDoorMAl
import Derived.Test.YtbhigefbihpnlaaGreatDoorMAz
set_option linter.unusedVariables false
set_option linter.unusedSimpArgs false
set_option linter.defProp false
set_option linter.constructorNameAsVariable false
namespace Go.Proofs.YtbhigefbihpnlaaGreatDoor
structure TOK (n : Nat) (s : TS) : Prop where
 li : s.index.length = n
 ll : s.low.length = n
 ln : s.inn.length = n
 lo : s.on.length = n
 cn : s.nx + s.index.count 0 = n
 sz : s.sizes.length + s.stack.length ≤ s.nx
 st : ∀ x ∈ s.stack, InN n x
theorem count_set {l : List Int} {k : Nat} {v : Int} (h : l.getD k 0 = 0) (hk : k < l.length) (hv : v ≠ 0) : (l.set k v).count 0 + 1 = l.count 0 := by
 induction l generalizing k with
 | nil => simp at hk
 | cons a l ih =>
  cases k with
  | zero =>
   have : a = 0 := by simpa using h
   subst this
   simp only [List.set_cons_zero, List.count_cons]
   simp [hv]
  | succ k =>
   have := ih (k := k) (by simpa using h) (by simpa using hk)
   simp only [List.set_cons_succ, List.count_cons]
   omega
theorem TOK.push {n : Nat} {s : TS} {x : Int} (h : TOK n s) (hx : InN n x) (h0 : gI s.index x = 0) : TOK n (pushT x s) ∧ s.nx + 1 ≤ n := by
 obtain ⟨h1, h2⟩ := hx
 have hc := count_set (l := s.index) (k := x.toNat) (v := ((s.nx + 1 : Nat) : Int)) h0 (by have := h.li; omega) (by omega)
 have h3 := h.cn
 refine ⟨⟨by show (sI _ _ _).length = _; rw [len_sI]; exact h.li, by show (sI _ _ _).length = _; rw [len_sI]; exact h.ll, h.ln, by show (List.set _ _ _).length = _; rw [List.length_set]; exact h.lo, ?_, ?_, ?_⟩, by omega⟩
 ·show s.nx + 1 + (s.index.set x.toNat ((s.nx + 1 : Nat) : Int)).count 0 = n
  omega
 ·show s.sizes.length + (s.stack ++ [x]).length ≤ s.nx + 1
  have := h.sz
  rw [List.length_append, List.length_singleton]; omega
 ·intro y hy
  rcases List.mem_append.1 hy with hy | hy
  ·exact h.st y hy
  ·rw [List.mem_singleton.1 hy]; exact ⟨h1, h2⟩
theorem TOK.low {n : Nat} {s : TS} (h : TOK n s) (x v : Int) : TOK n { s with low := sI s.low x v } :=
 ⟨h.li, by show (sI _ _ _).length = _; rw [len_sI]; exact h.ll, h.ln, h.lo, h.cn, h.sz, h.st⟩
def offT (x : Int) (s : TS) : TS := { s with stack := s.stack.dropLast, on := s.on.set x.toNat false, inn := sI s.inn x (s.sizes.length : Nat) }
theorem popT_succ (at_ : Int) (f k : Nat) (s : TS) : popT at_ (f + 1) k s = match s.stack.getLast? with
  | none => none
  | some x => if x = at_ then some { offT x s with sizes := s.sizes ++ [((k + 1 : Nat) : Int)] } else popT at_ f (k + 1) (offT x s) := rfl
theorem TOK.off {n : Nat} {s : TS} {x : Int} (h : TOK n s) (hl : s.stack.getLast? = some x) : TOK n (offT x s) ∧ InN n x ∧ (offT x s).stack.length + 1 = s.stack.length := by
 have hm := List.mem_of_getLast? hl
 have hne : s.stack.length ≠ 0 := by intro e; rw [List.length_eq_zero_iff.1 e] at hm; cases hm
 have hd : (offT x s).stack.length + 1 = s.stack.length := by show s.stack.dropLast.length + 1 = _; rw [List.length_dropLast]; omega
 have hz := h.sz
 refine ⟨⟨h.li, h.ll, by show (sI _ _ _).length = _; rw [len_sI]; exact h.ln, by show (List.set _ _ _).length = _; rw [List.length_set]; exact h.lo, h.cn, ?_, fun y hy => h.st y (List.dropLast_subset _ hy)⟩, h.st x hm, hd⟩
 show s.sizes.length + (offT x s).stack.length ≤ s.nx
 omega
theorem TOK.pop {n : Nat} {at_ : Int} (f : Nat) : ∀ (k : Nat) (s s' : TS), TOK n s → popT at_ f k s = some s' → TOK n s' := by
 induction f with
 | zero => intro k s s' _ h; cases h
 | succ f ih =>
  intro k s s' h e
  rw [popT_succ] at e
  split at e
  ·cases e
  ·rename_i x hx
   obtain ⟨h1, _, h3⟩ := h.off hx
   split at e
   ·rw [← Option.some.inj e]
    refine ⟨h1.li, h1.ll, h1.ln, h1.lo, h1.cn, ?_, h1.st⟩
    show (s.sizes ++ [((k + 1 : Nat) : Int)]).length + (offT x s).stack.length ≤ s.nx
    have := h.sz
    rw [List.length_append, List.length_singleton]; omega
   ·exact ih (k + 1) _ s' h1 e
theorem TOK.done {n : Nat} {at_ : Int} {s s' : TS} (h : TOK n s) (e : doneT at_ s = some s') : TOK n s' := by
 unfold doneT at e
 split at e
 ·exact TOK.pop _ _ _ _ h e
 ·rw [← Option.some.inj e]; exact h
theorem TOK.step {n : Nat} {g : Int → TS → Option TS} {at_ x : Int} {s s' : TS} (hg : ∀ s s', TOK n s → gI s.index x = 0 → g x s = some s' → TOK n s') (h : TOK n s) (e : stepT g at_ x s = some s') : TOK n s' := by
 unfold stepT at e
 split at e
 ·rename_i h0
  split at e
  ·cases e
  ·rename_i s1 e1
   rw [← Option.some.inj e]
   exact (hg s s1 h h0 e1).low _ _
 ·split at e
  ·rw [← Option.some.inj e]; exact h.low _ _
  ·rw [← Option.some.inj e]; exact h
theorem TOK.run {n : Nat} {g : Int → TS → Option TS} (hg : ∀ x s s', InN n x → TOK n s → g x s = some s' → TOK n s') (xs : List Int) (hx : ∀ x ∈ xs, InN n x) (s s' : TS) (h : TOK n s) (e : runG g xs s = some s') : TOK n s' := by
 induction xs generalizing s with
 | nil => rw [← Option.some.inj e]; exact h
 | cons x xs ih =>
  rw [runG] at e
  split at e
  ·cases e
  ·rename_i s1 e1
   exact ih (fun y hy => hx y (by simp [hy])) s1 (hg x s s1 (hx x (by simp)) h e1) e
theorem TOK.visit {nodes : List GNode} (hI : Idx nodes) (f : Nat) : ∀ (x : Int) (s s' : TS), InN nodes.length x → gI s.index x = 0 → TOK nodes.length s → visitT nodes f x s = some s' → TOK nodes.length s' := by
 induction f with
 | zero => intro x s s' _ _ _ h; cases h
 | succ f ih =>
  intro x s s' hx h0 h e
  rw [visitT] at e
  have hst : ∀ y s s', InN nodes.length y → TOK nodes.length s → stepT (visitT nodes f) x y s = some s' → TOK nodes.length s' := fun y s s' hy hs e => TOK.step (fun a b ha h0 hb => ih y a b hy h0 ha hb) hs e
  have hrf := hI x.toNat (by have := hx.1; have := hx.2; omega)
  split at e
  ·cases e
  ·rename_i s1 e1
   split at e
   ·cases e
   ·rename_i s2 e2
    refine TOK.done ?_ e
    refine TOK.run hst _ (fun y hy => hrf y (by unfold refs; exact List.mem_append.2 (.inr hy))) s1 s2 ?_ e2
    exact TOK.run hst _ (fun y hy => hrf y (by unfold refs; exact List.mem_append.2 (.inl hy))) _ s1 (h.push hx h0).1 e1
theorem TOK.start (n : Nat) : TOK n (startT n) := ⟨by simp [startT], by simp [startT], by simp [startT], by simp [startT], by simp [startT], by simp [startT], by simp [startT]⟩
end Go.Proofs.YtbhigefbihpnlaaGreatDoor
namespace Go.Proofs.YtbhigefbihpnlaaGreatDoor
open Go.RowKit
theorem keys_drop {nodes : List GNode} {i : Nat} (h : i < nodes.length) : (nodes.drop i).flatMap GNode.keys = (ndAt nodes i).keys ++ (nodes.drop (i + 1)).flatMap GNode.keys := by
 rw [List.drop_eq_getElem_cons h, List.flatMap_cons]
 have e : nodes[i] = ndAt nodes i := by have := ndAt_get h; rw [List.getElem?_eq_getElem h] at this; exact Option.some.inj this
 rw [e]
def markK (nodes : List GNode) (m : List Bool) (k : Int) : List Bool := reachedV nodes k m
set_option maxRecDepth 20000 in
set_option maxHeartbeats 4000000 in
theorem inKeys_any {B g o c : Nat} {nodes : List GNode} {root : Int} (hI : Idx nodes) (hL : NL 65536 nodes) (hN : nodes.length ≤ 65536) (w : World) (hG : GRd w B g o nodes) :
  Calls Tryz.prog 29 #[.agg #[.slice (some ⟨g, o, none⟩) nodes.length c, .int .i64 root]] w fun e w' => ∃ mb, e = .returned (.slice (some ⟨mb, 0, none⟩) nodes.length nodes.length) ∧ w.heap.size ≤ mb ∧ Below w.heap.size w w' ∧ Hid (Arr w' mb 4 (Bs (inKeysV nodes))) := by
 have h1 : Hid (Arr (w.alloc (.cells #[.slice (some ⟨g, o, none⟩) nodes.length c, .int .i64 root] 26)) w.heap.size 26 [.slice (some ⟨g, o, none⟩) nodes.length c, .int .i64 root]) := Arr.new w 26 [.slice (some ⟨g, o, none⟩) nodes.length c, .int .i64 root]
 have hB1 : Hid (Below w.heap.size w (w.alloc (.cells #[.slice (some ⟨g, o, none⟩) nodes.length c, .int .i64 root] 26))) := (Below.refl _ _).alloc (Nat.le_refl _) _
 have HG := Lib.hid hG
 have hI' := Lib.hid hI
 clear hG
 go_enter Tryz.func29, Tryz.ntmps29
 go_upto_region 1 with (fail)
 generalize w.alloc (.cells #[.slice (some ⟨g, o, none⟩) nodes.length c, .int .i64 root] 26) = W at *
 obtain ⟨n, hn⟩ : ∃ n, nodes.length = n := ⟨_, rfl⟩
 obtain ⟨gb, hgb⟩ : ∃ b, w.heap.size = b := ⟨_, rfl⟩
 have hgbl := h1.out.lt
 rw [hgb] at h1 hgbl hB1 ⊢
 rw [hn] at h1 hN ⊢
 have x0 := h1.out.cell' (i := 0) rfl
 have HN := Lib.hid hn
 have HGB := Lib.hid hgb
 clear hn hgb
 go_upto_region 2 with (at_make; go_loud (refine wpList_mk rfl _ _ 85 rfl 4 _ _ Tryz.underlying85 infoBool rfl _ _ _ _ rfl rfl n n (by omega) (by omega) (by omega) (by omega) (by unfold maxLen; omega) ?_; intro mb w2 hmb hM hb2 hz2))
 have hB2 : Hid (Below gb w w2) := hB1.out.trans (hb2.mono (Nat.le_of_lt hgbl))
 have l1 : gb < mb := by have := hmb.out; omega
 have hX := Lib.hid (h1.out.keep hb2)
 have y0 := hX.out.cell' (i := 0) rfl
 have hMz : Hid (Arr w2 mb 4 (Bs (noMarks n))) := by rw [← Bs_rep]; exact hM
 have HFI : Hid (((nodes.drop 0).flatMap GNode.keys).foldl (markK nodes) (noMarks n) = inKeysV nodes) := by
  rw [List.drop_zero, ← HN.out]; exact rfl
 have hlen0 : Hid ((noMarks n).length = n) := by unfold noMarks; exact List.length_replicate
 clear hM hb2 hz2 h1 x0
 go_wp2_with (fail)
 go_loopw [15] (fun v wr => ∃ (i : Nat) (cur : List Bool), i ≤ n ∧ v = .int .i64 (i : Int) ∧ Hid (cur.length = n) ∧ Hid (((nodes.drop i).flatMap GNode.keys).foldl (markK nodes) cur = inKeysV nodes) ∧ Hid (Arr wr mb 4 (Bs cur)) ∧ Hid (Below gb w wr) ∧ w2.grownBy wr (some mb)) (fun v _ => n - (intOf v).toNat)
 case atStart => exact ⟨0, _, Nat.zero_le _, rfl, hlen0, HFI, hMz, hB2, World.grownBy.refl _ _⟩
 case round =>
  obtain ⟨i, cur, hi, rfl, hcl, hfi, hCr, hBr, hgr⟩ := hrel
  by_cases hin : i = n
  ·have hin' : ¬ (i : Int) < n := by omega
   have he : cur = inKeysV nodes := by
    have := hfi.out
    rw [List.drop_of_length_le (by have := HN.out; omega)] at this
    exact this
   subst he
   go_wp2_with (fail)
   go_ret
   exact ⟨mb, by rw [HN.out]; rfl, by have := HGB.out; omega, by rw [HGB.out]; exact hBr, hCr⟩
  ·have hin' : (i : Int) < n := by omega
   have hi2 : i < nodes.length := by have := HN.out; omega
   have hGr := (HG.out.below hBr.out (by have := HG.out.2.1; have := HGB.out; omega)).of_at hi2
   obtain ⟨K, ck, I, ci, c0, c1, c2, c3, c4, ⟨hK, hKb⟩, _⟩ := hGr
   have k0 : (0 : Int) ≤ i := by omega
   have hcbl := hCr.out.lt
   have hND : Hid (Arr (wr.alloc (.cells #[.int .i64 (ndAt nodes i).kind, .string (mks (ndAt nodes i).text), .bool (ndAt nodes i).ord, .slice K (ndAt nodes i).keys.length ck, .slice I (ndAt nodes i).items.length ci] 60)) wr.heap.size 60 [.int .i64 (ndAt nodes i).kind, .string (mks (ndAt nodes i).text), .bool (ndAt nodes i).ord, .slice K (ndAt nodes i).keys.length ck, .slice I (ndAt nodes i).items.length ci]) := Arr.new wr _ _
   have hbn : Hid (Below wr.heap.size wr (wr.alloc (.cells #[.int .i64 (ndAt nodes i).kind, .string (mks (ndAt nodes i).text), .bool (ndAt nodes i).ord, .slice K (ndAt nodes i).keys.length ck, .slice I (ndAt nodes i).items.length ci] 60))) := (Below.refl _ _).alloc (Nat.le_refl _) _
   have HK := Lib.hid hK
   have HKB := Lib.hid hKb
   clear hK hKb
   go_upto_region 5 with (fail)
   clear c0 c1 c2 c3 c4
   generalize (wr.alloc (.cells #[.int .i64 (ndAt nodes i).kind, .string (mks (ndAt nodes i).text), .bool (ndAt nodes i).ord, .slice K (ndAt nodes i).keys.length ck, .slice I (ndAt nodes i).items.length ci] 60)) = w5 at *
   have hB5 : Hid (Below gb w w5) := hBr.out.trans (hbn.out.mono (by have := hBr.out.size; have := HGB.out; omega))
   have hC5 := Lib.hid (hCr.out.keep hbn.out)
   have hK5 := Lib.hid (HK.out.keep hbn.out)
   have hg5 : Hid (w2.grownBy w5 (some mb)) := grown_trans hgr ⟨hbn.out.os, hbn.out.tape, hbn.out.output, hbn.out.size, fun j hj _ => hbn.out.block j hj⟩
   obtain ⟨nb, hnb⟩ : ∃ b, wr.heap.size = b := ⟨_, rfl⟩
   rw [hnb] at hND hcbl ⊢
   have hgbn : gb < nb := by have := hBr.out.size; have := HGB.out; omega
   obtain ⟨hLk, _⟩ := hL i hi2
   have hrf := Lib.hid (hI'.out i hi2)
   rw [keys_drop hi2, List.foldl_append] at hfi
   clear hnb hBr hCr HK hbn hgr
   generalize ndAt nodes i = nd at *
   have n3 := hND.out.cell' (i := 3) rfl
   go_wp2_with (fail)
   go_loopw [22] (fun v ws => ∃ (j : Nat) (cu : List Bool), j ≤ nd.keys.length ∧ v = .int .i64 (j : Int) ∧ Hid (cu.length = n) ∧ Hid (((nd.keys.drop j)).foldl (markK nodes) cu = nd.keys.foldl (markK nodes) cur) ∧ Hid (Arr ws mb 4 (Bs cu)) ∧ Hid (Below gb w ws) ∧ w5.grownBy ws (some mb)) (fun v _ => nd.keys.length - (intOf v).toNat)
   case atStart => exact ⟨0, cur, Nat.zero_le _, rfl, hcl, rfl, hC5, hB5, World.grownBy.refl _ _⟩
   case round =>
    obtain ⟨j, cu, hj, rfl, hcl2, hfk, hCs, hBs, hgs⟩ := hrel
    by_cases hjl : j = nd.keys.length
    ·have hjl' : ¬ (j : Int) < nd.keys.length := by omega
     have he : cu = nd.keys.foldl (markK nodes) cur := by
      have := hfk.out
      rw [List.drop_of_length_le (by omega)] at this
      exact this
     subst he
     have hgo := Lib.hid (grown_trans hg5.out hgs)
     go_wp2_with (fail)
     go_roundw
     case rel => exact ⟨i + 1, _, by omega, i64e (by omega), hcl2, hfi, hCs, hBs, hgo.out⟩
     case measure => simp [intOf]; omega
    ·have hjl' : (j : Int) < nd.keys.length := by omega
     obtain ⟨x, hx⟩ : ∃ x, nd.keys[j]? = some x := ⟨_, List.getElem?_eq_getElem (by omega)⟩
     obtain ⟨ad, rfl, hc⟩ := (hK5.out.grown hgs (fun ad e h => by have := HKB.out ad e; have := Option.some.inj h; have := HG.out.2.1; have := HGB.out; omega)).at_ (I64_get hx)
     have hxr := hrf.out x (by unfold refs; exact List.mem_append.2 (.inl (List.mem_of_getElem? hx)))
     obtain ⟨kx, rfl⟩ : ∃ kx : Nat, x = (kx : Int) := ⟨x.toNat, by omega⟩
     have hGs := HG.out.below hBs.out (by have := HG.out.2.1; have := HGB.out; omega)
     have D := reached_any (c := c) (root := root) hI hL kx (by omega) cu wr (by have := hcl2.out; have := HN.out; omega) hGs (by have := HG.out.2.1; have := HGB.out; omega) hCs.out
     rw [HN.out] at D
     have D' := Lib.hid D
     have hXs := (hX.out.grown (grown_trans hg5.out hgs) (by intro e; have e' : gb = mb := Option.some.inj e; omega))
     have x0 := hXs.cell' (i := 0) rfl
     have x1 := hXs.cell' (i := 1) rfl
     have hfk2 : Hid ((nd.keys.drop (j + 1)).foldl (markK nodes) (reachedV nodes (kx : Int) cu) = nd.keys.foldl (markK nodes) cur) := by
      have := hfk.out
      rw [drop_cons_at hx, List.foldl_cons] at this
      exact this
     have hcl3 : Hid ((reachedV nodes (kx : Int) cu).length = n) := by
      have := (reachedV_ok hI (at_ := (kx : Int)) (m := cu) hxr (by have := hcl2.out; have := HN.out; omega)).2.len
      show _ = n
      rw [this]; exact hcl2.out
     clear hfk hx hxr D hXs hGs
     go_wp2_with (go_at_call 26; ((with_reducible refine D'.out.mono ?_)); rintro e w6 ⟨rfl, hg6, hM6⟩)
     go_roundw
     case rel => exact ⟨j + 1, reachedV nodes (kx : Int) cu, by omega, i64e (by omega), hcl3, hfk2, hM6, below_row hBs.out hg6 (by have := HGB.out; have := hBs.out.size; omega) (by omega), grown_trans hgs hg6⟩
     case measure => simp [intOf]; omega
end Go.Proofs.YtbhigefbihpnlaaGreatDoor
namespace Go.Proofs.YtbhigefbihpnlaaGreatDoor
open Go.RowKit
theorem inAll_drop {nodes : List GNode} {i : Nat} (n : Nat) (h : i < nodes.length) : (nodes.drop i).all (inAll n) = (inAll n (ndAt nodes i) && (nodes.drop (i + 1)).all (inAll n)) := by
 rw [List.drop_eq_getElem_cons h, List.all_cons]
 have e : nodes[i] = ndAt nodes i := by have := ndAt_get h; rw [List.getElem?_eq_getElem h] at this; exact Option.some.inj this
 rw [e]
theorem allIn_drop {l : List Int} {k : Nat} {x : Int} (n : Nat) (h : l[k]? = some x) : (l.drop k).all (inB n) = (inB n x && (l.drop (k + 1)).all (inB n)) := by
 rw [drop_cons_at h, List.all_cons]
def twoL (nd : GNode) (j : Nat) : List Int := if j = 0 then nd.keys else nd.items
def restOK (n : Nat) (nd : GNode) (j : Nat) : Bool := if j = 0 then inAll n nd else if j = 1 then nd.items.all (inB n) else true
theorem restOK_step {n : Nat} {nd : GNode} {j : Nat} (h : j < 2) : restOK n nd j = ((twoL nd j).all (inB n) && restOK n nd (j + 1)) := by
 rcases (show j = 0 ∨ j = 1 by omega) with rfl | rfl
 ·rfl
 ·simp [restOK, twoL]
set_option maxRecDepth 20000 in
set_option maxHeartbeats 8000000 in
theorem indices_any {B g o c : Nat} {nodes : List GNode} {root : Int} (hL : NL 65536 nodes) (hN : nodes.length ≤ 65536) (w : World) (hG : GRd w B g o nodes) :
  Calls Tryz.prog 25 #[.agg #[.slice (some ⟨g, o, none⟩) nodes.length c, .int .i64 root]] w fun e w' => e = .returned (.bool (indicesV nodes root)) ∧ Below w.heap.size w w' := by
 have h1 : Hid (Arr (w.alloc (.cells #[.slice (some ⟨g, o, none⟩) nodes.length c, .int .i64 root] 26)) w.heap.size 26 [.slice (some ⟨g, o, none⟩) nodes.length c, .int .i64 root]) := Arr.new w 26 [.slice (some ⟨g, o, none⟩) nodes.length c, .int .i64 root]
 have hB1 : Hid (Below w.heap.size w (w.alloc (.cells #[.slice (some ⟨g, o, none⟩) nodes.length c, .int .i64 root] 26))) := (Below.refl _ _).alloc (Nat.le_refl _) _
 have HG := Lib.hid hG
 clear hG
 go_enter Tryz.func25, Tryz.ntmps25
 go_upto_region 1 with (fail)
 generalize w.alloc (.cells #[.slice (some ⟨g, o, none⟩) nodes.length c, .int .i64 root] 26) = W at *
 obtain ⟨n, hn⟩ : ∃ n, nodes.length = n := ⟨_, rfl⟩
 obtain ⟨gb, hgb⟩ : ∃ b, w.heap.size = b := ⟨_, rfl⟩
 have hgbl := h1.out.lt
 rw [hgb] at h1 hgbl hB1 ⊢
 rw [hn] at h1 hN ⊢
 have x0 := h1.out.cell' (i := 0) rfl
 have x1 := h1.out.cell' (i := 1) rfl
 have HN := Lib.hid hn
 have HGB := Lib.hid hgb
 have hVV : Hid (indicesV nodes root = (inB n root && (nodes.drop 0).all (inAll n))) := by unfold indicesV; rw [HN.out]; rfl
 have hroot : Hid (inB n root = (decide (0 ≤ root) && decide (root < (n : Int)))) := rfl
 clear hn hgb
 generalize inB n root = b0 at *
 obtain ⟨V, hVe⟩ : ∃ V, indicesV nodes root = V := ⟨_, rfl⟩
 rw [hVe] at hVV
 have HVE := Lib.hid hVe
 clear hVe
 have hcases : (0 ≤ root ∧ root < (n : Int) ∧ b0 = true) ∨ (0 ≤ root ∧ ¬ root < (n : Int) ∧ b0 = false) ∨ (¬ 0 ≤ root ∧ b0 = false) := by
  by_cases r0 : 0 ≤ root
  ·by_cases r1 : root < (n : Int)
   ·exact .inl ⟨r0, r1, by rw [hroot.out]; simp [r0, r1]⟩
   ·exact .inr (.inl ⟨r0, r1, by rw [hroot.out]; simp [r1]⟩)
  ·exact .inr (.inr ⟨r0, by rw [hroot.out]; simp [r0]⟩)
 clear hroot
 rcases hcases with ⟨r0, r1, hb0⟩ | ⟨r0, r1, hb0⟩ | ⟨r0, hb0⟩
 all_goals
  subst hb0
  go_upto_region 3 with (fail)
  clear r0 x1
  go_loopw [3, 24] (fun u v wr => ∃ (i : Nat) (b : Bool), i ≤ n ∧ v = .int .i64 (i : Int) ∧ u = .bool b ∧ Hid (V = (b && (nodes.drop i).all (inAll n))) ∧ Hid (Below gb w wr) ∧ Below W.heap.size W wr) (fun _ v _ => n - (intOf v).toNat)
  case atStart => exact ⟨0, _, Nat.zero_le _, rfl, rfl, hVV, hB1, Below.refl _ _⟩
  case round =>
   obtain ⟨i, b, hi, rfl, rfl, hv, hBr, hgr⟩ := hrel
   by_cases hin : i = n
   ·have hin' : ¬ (i : Int) < n := by omega
    have he : b = V := by
     have := hv.out
     rw [List.drop_of_length_le (by have := HN.out; omega)] at this
     simpa using this.symm
    subst he
    go_wp2_with (fail)
    go_ret
    exact ⟨by rw [HVE.out]; rfl, by rw [HGB.out]; exact hBr.out⟩
   ·have hin' : (i : Int) < n := by omega
    have hi2 : i < nodes.length := by have := HN.out; omega
    have hGr := (HG.out.below hBr.out (by have := HG.out.2.1; have := HGB.out; omega)).of_at hi2
    obtain ⟨K, ck, I, ci, c0, c1, c2, c3, c4, ⟨hK, hKb⟩, hIt, hIb⟩ := hGr
    have k0 : (0 : Int) ≤ i := by omega
    have hND : Hid (Arr (wr.alloc (.cells #[.int .i64 (ndAt nodes i).kind, .string (mks (ndAt nodes i).text), .bool (ndAt nodes i).ord, .slice K (ndAt nodes i).keys.length ck, .slice I (ndAt nodes i).items.length ci] 60)) wr.heap.size 60 [.int .i64 (ndAt nodes i).kind, .string (mks (ndAt nodes i).text), .bool (ndAt nodes i).ord, .slice K (ndAt nodes i).keys.length ck, .slice I (ndAt nodes i).items.length ci]) := Arr.new wr _ _
    have hbn : Hid (Below wr.heap.size wr (wr.alloc (.cells #[.int .i64 (ndAt nodes i).kind, .string (mks (ndAt nodes i).text), .bool (ndAt nodes i).ord, .slice K (ndAt nodes i).keys.length ck, .slice I (ndAt nodes i).items.length ci] 60))) := (Below.refl _ _).alloc (Nat.le_refl _) _
    have HK := Lib.hid hK
    have HI := Lib.hid hIt
    clear hK hKb hIt hIb
    go_upto_region 5 with (fail)
    clear c0 c1 c2 c3 c4
    generalize (wr.alloc (.cells #[.int .i64 (ndAt nodes i).kind, .string (mks (ndAt nodes i).text), .bool (ndAt nodes i).ord, .slice K (ndAt nodes i).keys.length ck, .slice I (ndAt nodes i).items.length ci] 60)) = w5 at *
    have hB5 : Hid (Below gb w w5) := hBr.out.trans (hbn.out.mono (by have := hBr.out.size; have := HGB.out; omega))
    have hW5 : Hid (Below W.heap.size W w5) := hgr.trans (hbn.out.mono hgr.size)
    have hK5 := Lib.hid (HK.out.keep hbn.out)
    have hI5 := Lib.hid (HI.out.keep hbn.out)
    obtain ⟨nb, hnb⟩ : ∃ b, wr.heap.size = b := ⟨_, rfl⟩
    rw [hnb] at hND ⊢
    obtain ⟨hLk, hLi⟩ := hL i hi2
    rw [inAll_drop n hi2] at hv
    have hv0 : Hid (V = (b && (restOK n (ndAt nodes i) 0 && (nodes.drop (i + 1)).all (inAll n)))) := hv
    clear hnb hBr HK HI hbn hgr hv
    generalize ndAt nodes i = nd at *
    have n3 := hND.out.cell' (i := 3) rfl
    have n4 := hND.out.cell' (i := 4) rfl
    have hS : Hid (Arr (w5.alloc (.cells #[.slice K nd.keys.length ck, .slice I nd.items.length ci] 44)) w5.heap.size 44 [.slice K nd.keys.length ck, .slice I nd.items.length ci]) := Arr.new w5 _ _
    have hbs : Hid (Below w5.heap.size w5 (w5.alloc (.cells #[.slice K nd.keys.length ck, .slice I nd.items.length ci] 44))) := (Below.refl _ _).alloc (Nat.le_refl _) _
    go_upto_region 6 with (fail)
    clear n3 n4
    generalize w5.alloc (.cells #[.slice K nd.keys.length ck, .slice I nd.items.length ci] 44) = w6 at *
    have hB6 : Hid (Below gb w w6) := hB5.out.trans (hbs.out.mono (by have := hB5.out.size; have := HGB.out; omega))
    have hW6 : Hid (Below W.heap.size W w6) := hW5.out.trans (hbs.out.mono hW5.out.size)
    have hK6 := Lib.hid (hK5.out.keep hbs.out)
    have hI6 := Lib.hid (hI5.out.keep hbs.out)
    obtain ⟨sb, hsb⟩ : ∃ b, w5.heap.size = b := ⟨_, rfl⟩
    rw [hsb] at hS ⊢
    clear hsb hB5 hW5 hK5 hI5 hbs
    go_loopw [3, 34] (fun u v ws => ∃ (j : Nat) (b' : Bool), j ≤ 2 ∧ v = .int .i64 (j : Int) ∧ u = .bool b' ∧ Hid (V = (b' && (restOK n nd j && (nodes.drop (i + 1)).all (inAll n)))) ∧ Hid (Below gb w ws) ∧ Hid (Below W.heap.size W ws) ∧ Below w6.heap.size w6 ws) (fun _ v _ => 2 - (intOf v).toNat)
    case atStart => exact ⟨0, b, by omega, rfl, rfl, hv0, hB6, hW6, Below.refl _ _⟩
    case round =>
     obtain ⟨j, b', hj, rfl, rfl, hv1, hB7, hW7, hg7⟩ := hrel
     by_cases hj2 : j = 2
     ·subst hj2
      have hv2 : Hid (V = (b' && (nodes.drop (i + 1)).all (inAll n))) := by
       have := hv1.out
       show _ = _
       simpa [restOK] using this
      go_wp2_with (fail)
      go_roundw
      case rel => exact ⟨i + 1, b', by omega, i64e (by omega), rfl, hv2, hB7, hW7.out⟩
      case measure => simp [intOf]; omega
     ·have hj' : (j : Int) < 2 := by omega
      have hj0 : (0 : Int) ≤ j := by omega
      obtain ⟨AA, cA, hcA, hRA⟩ : ∃ AA cA, wr.cell? ⟨sb, j, none⟩ = some (.slice AA (twoL nd j).length cA) ∧ Hid (Rd wr AA (I64 (twoL nd j))) := by
       have hSr := hS.out.keep hg7
       rcases (show j = 0 ∨ j = 1 by omega) with rfl | rfl
       ·exact ⟨K, ck, hSr.cell' (i := 0) rfl, hK6.out.keep hg7⟩
       ·exact ⟨I, ci, hSr.cell' (i := 1) rfl, hI6.out.keep hg7⟩
      have hlT : (twoL nd j).length ≤ 65536 := by unfold twoL; split <;> assumption
      rw [restOK_step (show j < 2 by omega)] at hv1
      have hv3 : Hid (V = (b' && (((twoL nd j).drop 0).all (inB n) && (restOK n nd (j + 1) && (nodes.drop (i + 1)).all (inAll n))))) := by
       rw [List.drop_zero]
       have := hv1.out
       rw [Bool.and_assoc] at this
       exact this
      obtain ⟨w7, hw7⟩ : ∃ x : World, x = wr := ⟨_, rfl⟩
      subst hw7
      clear hv1
      generalize twoL nd j = L at *
      go_wp2_with (fail)
      go_loopw [3, 40] (fun u v ws => ∃ (k : Nat) (b'' : Bool), k ≤ L.length ∧ v = .int .i64 (k : Int) ∧ u = .bool b'' ∧ Hid (V = (b'' && ((L.drop k).all (inB n) && (restOK n nd (j + 1) && (nodes.drop (i + 1)).all (inAll n))))) ∧ w7 = ws) (fun _ v _ => L.length - (intOf v).toNat)
      case atStart => exact ⟨0, b', Nat.zero_le _, rfl, rfl, hv3, rfl⟩
      case round =>
       obtain ⟨k, b'', hk, rfl, rfl, hv4, rfl⟩ := hrel
       by_cases hkl : k = L.length
       ·have hkl' : ¬ (k : Int) < L.length := by omega
        have hv5 : Hid (V = (b'' && (restOK n nd (j + 1) && (nodes.drop (i + 1)).all (inAll n)))) := by
         have := hv4.out
         rw [List.drop_of_length_le (by omega)] at this
         show _ = _
         simpa using this
        go_wp2_with (fail)
        go_roundw
        case rel => exact ⟨j + 1, b'', by omega, i64e (by omega), rfl, hv5, hB7, hW7, hg7⟩
        case measure => simp [intOf]; omega
       ·have hkl' : (k : Int) < L.length := by omega
        obtain ⟨x, hx⟩ : ∃ x, L[k]? = some x := ⟨_, List.getElem?_eq_getElem (by omega)⟩
        obtain ⟨ad, rfl, hc⟩ := hRA.out.at_ (I64_get hx)
        have hg0 := ((h1.out.keep hW7.out).cell' (i := 0) rfl)
        have hv6 : Hid (V = ((b'' && inB n x) && ((L.drop (k + 1)).all (inB n) && (restOK n nd (j + 1) && (nodes.drop (i + 1)).all (inAll n))))) := by
         have := hv4.out
         rw [allIn_drop n hx, Bool.and_assoc (inB n x), ← Bool.and_assoc b''] at this
         exact this
        have hbx : Hid (inB n x = (decide (0 ≤ x) && decide (x < (n : Int)))) := rfl
        generalize inB n x = bx at *
        have hcs : (b'' = false) ∨ (b'' = true ∧ 0 ≤ x ∧ x < (n : Int) ∧ bx = true) ∨ (b'' = true ∧ 0 ≤ x ∧ ¬ x < (n : Int) ∧ bx = false) ∨ (b'' = true ∧ ¬ 0 ≤ x ∧ bx = false) := by
         cases b'' with
         | false => exact .inl rfl
         | true =>
          right
          by_cases r0 : 0 ≤ x
          ·by_cases r1 : x < (n : Int)
           ·exact .inl ⟨rfl, r0, r1, by rw [hbx.out]; simp [r0, r1]⟩
           ·exact .inr (.inl ⟨rfl, r0, r1, by rw [hbx.out]; simp [r1]⟩)
          ·exact .inr (.inr ⟨rfl, r0, by rw [hbx.out]; simp [r0]⟩)
        clear hv4 hbx hx
        rcases hcs with e1 | ⟨e1, e2, e3, e4⟩ | ⟨e1, e2, e3, e4⟩ | ⟨e1, e2, e4⟩
        all_goals
         subst e1
         try subst e4
         go_wp2_with (fail)
         go_roundw
         case rel => exact ⟨k + 1, _, by omega, i64e (by omega), rfl, hv6, by first | rfl | trivial⟩
         case measure => simp [intOf]; omega
end Go.Proofs.YtbhigefbihpnlaaGreatDoor
