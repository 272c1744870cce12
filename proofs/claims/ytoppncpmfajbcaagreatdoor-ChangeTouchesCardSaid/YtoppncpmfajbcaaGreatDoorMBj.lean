/- The walk of change.normal. -/
import Derived.Test.YtoppncpmfajbcaaGreatDoorMBb
import Derived.Test.YtoppncpmfajbcaaGreatDoorMBc
import Derived.Test.YtoppncpmfajbcaaGreatDoorMBi
set_option linter.unusedVariables false
set_option linter.unusedSimpArgs false
set_option linter.defProp false
set_option linter.constructorNameAsVariable false
namespace Go.Proofs.YtoppncpmfajbcaaGreatDoor
open Go.RowKit
theorem own_nil0 (w : World) (b : Nat) (t : TypeId) (k : Nat) : w.ownsRow b t k (.slice none 0 0) 0 [] := ⟨by simp, .inl ⟨rfl, rfl⟩⟩
def placeF : List Int → Nat → List Int → List Int
 | [], _, a => a
 | x :: l, i, a => placeF l (i + 1) (a.set x.toNat (i : Int))
def placeV (n : Nat) (l : List Int) : List Int := placeF l 0 (List.replicate n 0)
def mpF (g : Int → Int) (xs : List Int) (i : Nat) : List Int := (xs.take i).map g ++ xs.drop i
theorem mpF_zero (g : Int → Int) (xs : List Int) : mpF g xs 0 = xs := by simp [mpF]
theorem mpF_all (g : Int → Int) (xs : List Int) {n : Nat} (h : xs.length = n) : mpF g xs n = xs.map g := by subst h; simp [mpF]
theorem mpF_get {g : Int → Int} {xs : List Int} {i : Nat} {x : Int} (h : xs[i]? = some x) : (mpF g xs i)[i]? = some x := by
 have hi := (List.getElem?_eq_some_iff.1 h).1
 unfold mpF
 rw [List.getElem?_append_right (by simp; omega)]
 simp [Nat.min_eq_left (Nat.le_of_lt hi), h]
theorem mpF_set {g : Int → Int} {xs : List Int} {i : Nat} {x : Int} (h : xs[i]? = some x) : (mpF g xs i).set i (g x) = mpF g xs (i + 1) := by
 have hi := (List.getElem?_eq_some_iff.1 h).1
 have hl : ((xs.take i).map g).length = i := by simp; omega
 unfold mpF
 rw [List.set_append_right _ _ (by omega), hl, Nat.sub_self, drop_cons_at h, List.set_cons_zero, List.take_add_one, h]
 simp
def atG (a : List Int) (y : Int) : Int := a.getD y.toNat 0
def remapN (a : List Int) (nd : GNode) : GNode := { nd with keys := nd.keys.map (atG a), items := nd.items.map (atG a) }
def outC (nodes : List GNode) (l : List Int) : List GNode := l.map fun x => remapN (placeV nodes.length l) (ndAt nodes x.toNat)
structure NormalC (nodes : List GNode) (r : Nat) (l : List Int) (N3 : List GNode) : Prop where
 idx : Idx nodes
 nl : NL 65536 nodes
 len : nodes.length ≤ 4096
 root : r < nodes.length
 vis : ∃ m, visC nodes (nodes.length + 1) (r : Int) (noMarks nodes.length, []) = some (m, l)
 lin : ∀ x ∈ l, 0 ≤ x ∧ x < (nodes.length : Int)
 ll : l.length ≤ 4096
 l0 : 0 < l.length
 nok : NormOK (outC nodes l)
 cok : ChkOK (outC nodes l) 0
 zero : chkV (outC nodes l) 0 = 0
 nv : NormV (outC nodes l) 0 N3
def NormalE (w : World) (n : Nat) (N3 : List GNode) (e : Ending) (w' : World) : Prop := ∃ om ncs, e = .returned (.tuple #[.agg #[.slice (some ⟨om, 0, none⟩) n n, .int .i64 0], .int .i64 0]) ∧ Below w.heap.size w w' ∧ w.heap.size ≤ om ∧ Arr w' om 34 ncs ∧ NodesRd w' (fun _ => True) ncs N3 ∧ N3.length = n
set_option maxRecDepth 20000 in
set_option maxHeartbeats 16000000 in
theorem cnormal_any {B g o c r : Nat} {nodes N3 : List GNode} {l : List Int} (hC : NormalC nodes r l N3) (w : World) (hw : LibE w) (hG : GRd w B g o nodes) :
  Calls Tryz.prog 60 #[.agg #[.slice (some ⟨g, o, none⟩) nodes.length c, .int .i64 (r : Int)]] w (NormalE w l.length N3) := by
 obtain ⟨n, hn⟩ : ∃ n, nodes.length = n := ⟨_, rfl⟩
 have HC := Lib.hid hC
 have HW := Lib.hid hw
 have HG := Lib.hid hG
 have hBw := hG.2.1
 have hN := hC.len
 have hr := hC.root
 have HN := Lib.hid hn
 rw [hn] at hN hr ⊢
 have hmf : ∀ (fn : Fn) (first cap : Array Value) (w : World), (Instr.makeFunc fn first cap).run Tryz.prog w = .ok (.func fn first cap) w := fun _ _ _ _ => rfl
 clear hC hw hG hn
 obtain ⟨h1, h2, hb1, hz1⟩ := box2 w 26 26 [.slice (some ⟨g, o, none⟩) n c, .int .i64 (r : Int)] [.slice none 0 0, .int .i64 0]
 go_enter Tryz.func60, Tryz.ntmps60
 go_upto_region 1 with (fail)
 obtain ⟨gb, hgb⟩ : ∃ x, w.heap.size = x := ⟨_, rfl⟩
 have HGB := Lib.hid hgb
 have HB1 := Lib.hid hb1
 generalize ((w.alloc (.cells #[.slice (some ⟨g, o, none⟩) n c, .int .i64 (r : Int)] 26)).alloc (.cells #[.slice none 0 0, .int .i64 0] 26)) = W1 at *
 rw [hgb] at h1 h2 hz1 HB1 hBw ⊢
 clear hgb hb1
 have x0 := h1.out.cell' (i := 0) rfl
 have l1 : gb + 1 < W1.heap.size := by have := hz1.out; omega
 go_upto_region 2 with (at_make; go_loud (refine wpList_mk rfl _ _ 87 rfl 4 _ _ Tryz.underlying87 infoBool rfl _ _ _ _ rfl rfl n n (by omega) (by omega) (by omega) (by omega) (by unfold maxLen; omega) ?_; intro mb w2 hmb hM hb2 hz2))
 clear x0
 have l2 : gb + 1 < mb := by have := hmb.out; omega
 have l3 : mb < w2.heap.size := hM.out.lt
 have h1b := Lib.hid (h1.out.keep hb2)
 have h2b := Lib.hid (h2.out.keep hb2)
 have HB2 := Lib.hid (HB1.out.trans (hb2.mono (by omega)))
 have hMz : Hid (Arr w2 mb 4 (Bs (noMarks n))) := by rw [← Bs_rep]; exact hM.out
 clear h1 h2 HB1 hb2 hz2 hM hmb l1 hz1
 obtain ⟨k1, k2, k3, kb, kz⟩ := box3 w2 87 32 107 [.slice (some ⟨mb, 0, none⟩) n n] [.slice none 0 0] [.nilFunc]
 go_upto_region 4 with (fail)
 have h1c := Lib.hid (h1b.out.keep kb)
 have h2c := Lib.hid (h2b.out.keep kb)
 have hMc := Lib.hid (hMz.out.keep kb)
 have HB3 := Lib.hid (HB2.out.trans (kb.mono (by omega)))
 obtain ⟨bm, hbm⟩ : ∃ x, w2.heap.size = x := ⟨_, rfl⟩
 generalize (((w2.alloc (.cells #[.slice (some ⟨mb, 0, none⟩) n n] 87)).alloc (.cells #[.slice none 0 0] 32)).alloc (.cells #[.nilFunc] 107)) = w3 at *
 rw [hbm] at k1 k2 k3 kz l3 ⊢
 clear hbm kb h1b h2b hMz HB2
 have k3' : Hid (Arr w3 (bm + 1 + 1) 107 [.nilFunc]) := k3
 obtain ⟨bv, hbv⟩ : ∃ b, bm + 1 + 1 = b := ⟨_, rfl⟩
 obtain ⟨bo, hbo⟩ : ∃ b, bm + 1 = b := ⟨_, rfl⟩
 have l4 : bm < bo ∧ bo < bv ∧ bv < w3.heap.size := by have := kz.out; omega
 rw [hbv] at k3' ⊢
 rw [hbo] at k2 ⊢
 clear hbv hbo k3 kz
 obtain ⟨l4, l5, l6⟩ := l4
 have z0 := k3'.out.cell' (i := 0) rfl
 have zf := k3'.out.frozen 0
 have l7 : gb ≤ w3.heap.size := by omega
 obtain ⟨fv, hfv⟩ : ∃ fv, chFn bm bo gb bv = fv := ⟨_, rfl⟩
 have hE : Hid (CnE (w3.setCell ⟨bv, 0, none⟩ (chFn bm bo gb bv)) gb B g o c nodes (r : Int) ⟨bm, bo, gb, bv, mb⟩ (noMarks n, []) (.slice none 0 0)) := {
  gr := (HG.out.below HB3.out hBw).grown (grown_set w3 ⟨bv, 0, none⟩ _) (by show B ≤ bv; omega)
  am := by rw [HN.out]; exact k1.out.far (p := ⟨bv, 0, none⟩) (by show bm ≠ bv; omega) _
  mkd := hMc.out.far (p := ⟨bv, 0, none⟩) (by show mb ≠ bv; omega) _
  ao := k2.out.far (p := ⟨bv, 0, none⟩) (by show bo ≠ bv; omega) _
  ro := own_nil0 _ _ _ _
  ag := by rw [HN.out]; exact h1c.out.far (p := ⟨bv, 0, none⟩) (by show gb ≠ bv; omega) _
  av := k3'.out.store 0 _
  zB := hBw
  zm := by show gb ≤ mb; omega
  zo := by show gb ≤ bo; omega
  zw := by simpa [World.setCell] using l7
  len := by simp [noMarks, HN.out]
  cnt := by simp [lack, noMarks]; omega }
 have hR4 := Lib.hid (h2c.out.far (p := ⟨bv, 0, none⟩) (by show gb + 1 ≠ bv; omega) (chFn bm bo gb bv))
 have hB4 := Lib.hid (HB3.out.setCell (p := ⟨bv, 0, none⟩) (by show gb ≤ bv; omega) (chFn bm bo gb bv))
 unfold chFn at hE hR4 hB4
 clear hfv k1 k2 k3' h1c h2c hMc HB3 l7
 go_upto_region 5 with (fail)
 clear z0 zf
 generalize (w3.setCell ⟨bv, 0, none⟩ (.func (.func 73) #[] #[.pointer (some ⟨bm, 0, none⟩), .pointer (some ⟨bo, 0, none⟩), .pointer (some ⟨gb, 0, none⟩), .pointer (some ⟨bv, 0, none⟩)])) = w4 at *
 obtain ⟨m, hvis⟩ := HC.out.vis
 have D := Lib.hid (visC_any HC.out.idx HC.out.nl (nodes.length + 1) r _ _ _ w4 (by rw [← HN.out] at hE; exact hvis) (by rw [← HN.out] at hE; exact hE.out))
 have v0 := hE.out.av.cell' (i := 0) rfl
 have g1 := hE.out.ag.cell' (i := 1) rfl
 unfold chFn at v0
 go_upto_region 6 with (go_at_call 73; ((with_reducible refine D.out.mono ?_)); rintro en w5 ⟨rfl, ov, hF5, hE5⟩)
 have hB5 : Hid (Below gb w w5) := hB4.out.trans (hF5.below (by show gb ≤ mb; omega) (by show gb ≤ bo; omega) (fun b e => by simp [Value.ownBlock] at e) (by have := hE.out.zw; exact this))
 have hR5 : Hid (Arr w5 (gb + 1) 26 [.slice none 0 0, .int .i64 0]) := hF5.arr hR4.out (by show gb + 1 ≠ mb; omega) (by show gb + 1 ≠ bo; omega) (fun e => by simp [Value.ownBlock] at e)
 have hX5 : Hid (Arr w5 gb 26 [.slice (some ⟨g, o, none⟩) n c, .int .i64 (r : Int)]) := by have h := hE5.ag; rw [HN.out] at h; exact h
 have hO5 : Hid (Arr w5 bo 32 [ov]) := hE5.ao
 have hrow5 := hE5.ro
 obtain ⟨q, hq⟩ : ∃ q, l.length = q := ⟨_, rfl⟩
 have hq1 := HC.out.ll
 have hq0 := HC.out.l0
 have HLin := Lib.hid HC.out.lin
 have HQ := Lib.hid hq
 have hrow6 : w5.ownsRow gb 3 1 ov l.length (I64 l) := hrow5
 rw [hq] at hrow6 hq0 hq1 ⊢
 obtain ⟨lo, co, hov, _, _⟩ := own_some hrow6 hq0
 subst hov
 have hlo := (hrow6.lt lo rfl)
 have hlo1 := hlo.1
 obtain ⟨A0, c0, he0, _, _, _, hrd0, _⟩ := own_rd hrow6
 have hRl : Hid (Rd w5 (some ⟨lo, 0, none⟩) (I64 l)) := by injection he0 with e1 _ _; rw [e1]; exact hrd0
 have hlk := own_kind hrow6 (g := lo) rfl
 have hlo2 : lo < w5.heap.size := hlo.2
 have hgl5 : gb + 1 < w5.heap.size := hR5.out.lt
 clear hE5 hF5 hE hR4 hB4 D v0 g1 hrow5 hrow6 he0 hrd0 hvis hlk hlo hq
 have x0 := hX5.out.cell' (i := 0) rfl
 go_upto_region 7 with (at_make; go_loud (refine wpList_mk rfl _ _ 32 rfl 3 _ _ Tryz.underlying32 infoInt rfl _ _ _ _ rfl rfl n n (by omega) (by omega) (by omega) (by omega) (by unfold maxLen; omega) ?_; intro ab w6 hab hA hb6 hz6))
 clear x0
 have l8 : lo < ab := by have := hab.out; omega
 have l9 : gb + 1 < ab := by have := hab.out; omega
 have hX6 := Lib.hid (hX5.out.keep hb6)
 have hR6 := Lib.hid (hR5.out.keep hb6)
 have hO6 := Lib.hid (hO5.out.keep hb6)
 have hRl6 := Lib.hid (hRl.out.keep hb6)
 have hB6 := Lib.hid (hB5.out.trans (hb6.mono (by omega)))
 have hA0 : Hid (Arr w6 ab 3 (I64 (List.replicate n 0))) := by have h := hA.out; show Arr _ _ _ _; simpa [I64] using h
 have HA0 := hA0
 have hPl : Hid (placeF (l.drop 0) 0 (List.replicate n 0) = placeV n l) := by show _ = _; rw [List.drop_zero]; rfl
 have hAl : Hid ((List.replicate n (0 : Int)).length = n) := List.length_replicate
 clear hX5 hR5 hO5 hRl hB5 hb6 hz6 hA hab
 have y0 := hO6.out.cell' (i := 0) rfl
 go_upto_region 8 with (fail)
 clear y0
 go_loopw [34] (fun v wr => ∃ (i : Nat) (a : List Int), i ≤ q ∧ v = .int .i64 (i : Int) ∧ Hid (placeF (l.drop i) i a = placeV n l) ∧ Hid (a.length = n) ∧ Hid (Arr wr ab 3 (I64 a)) ∧ Hid (w6.grownBy wr (some ab))) (fun v _ => q - (intOf v).toNat)
 case atStart => exact ⟨0, _, Nat.zero_le _, rfl, hPl, hAl, hA0, World.grownBy.refl _ _⟩
 case round =>
  obtain ⟨i, a, hi, rfl, hpl, hal, hAr, hgr⟩ := hrel
  clear hPl hAl hA0
  have hRr := Lib.hid (hRl6.out.grown hgr.out (fun ad e => by have := Option.some.inj e; subst this; intro e2; have := Option.some.inj e2; have e3 : lo = ab := this; omega))
  by_cases hiq : i < q
  ·have hiq' : (i : Int) < q := by omega
   have hi0 : (0 : Int) ≤ i := by omega
   obtain ⟨x, hx⟩ : ∃ x, l[i]? = some x := ⟨_, List.getElem?_eq_getElem (by have := HQ.out; omega)⟩
   obtain ⟨hx0, hx1⟩ := HLin.out x (List.mem_of_getElem? hx)
   obtain ⟨k, rfl⟩ : ∃ k : Nat, x = (k : Int) := ⟨x.toNat, by omega⟩
   have hkn : k < n := by have := HN.out; omega
   have hkn' : (k : Int) < n := by omega
   have cx : wr.cell? ⟨lo, i, none⟩ = some (.int .i64 (k : Int)) := by
    obtain ⟨ad, e, hc⟩ := hRr.out i _ (I64_get hx)
    obtain rfl := Option.some.inj e
    rw [show (⟨lo, 0, none⟩ : Addr).add i = ⟨lo, i, none⟩ from by unfold Addr.add; split <;> simp_all] at hc
    exact hc
   obtain ⟨y, hy⟩ : ∃ y, a[k]? = some y := ⟨_, List.getElem?_eq_getElem (by have := hal.out; omega)⟩
   have ca := hAr.out.cell' (I64_get hy)
   have fa := hAr.out.frozen k
   have hA2 : Hid (Arr (wr.setCell ⟨ab, k, none⟩ (.int .i64 (i : Int))) ab 3 (I64 (a.set k (i : Int)))) := by
    have h := hAr.out.store k (.int .i64 (i : Int))
    rw [I64_set] at h
    exact h
   have hg2 := Lib.hid (grown_trans hgr.out (grown_set wr ⟨ab, k, none⟩ (.int .i64 (i : Int))))
   have hpl2 : Hid (placeF (l.drop (i + 1)) (i + 1) (a.set k (i : Int)) = placeV n l) := by
    have h := hpl.out
    rw [drop_cons_at hx, placeF] at h
    exact h
   have hal2 : Hid ((a.set k (i : Int)).length = n) := by show _ = _; rw [List.length_set]; exact hal.out
   clear hpl hal hAr hgr hRr hx hy hx0 hx1
   go_wp2_with (fail)
   go_roundw
   case rel => exact ⟨i + 1, _, by omega, i64e (by omega), hpl2, hal2, hA2, hg2⟩
   case measure => simp [intOf]; omega
  ·obtain rfl : q = i := by omega
   have hiq' : ¬ (q : Int) < q := by omega
   have hae : a = placeV n l := by
    have h := hpl.out
    rw [List.drop_of_length_le (by have := HQ.out; omega)] at h
    exact h
   subst hae
   have hX7a := Lib.hid (hX6.out.grown hgr.out (some_ne (show gb ≠ ab by omega)))
   have hR7a := Lib.hid (hR6.out.grown hgr.out (some_ne (show gb + 1 ≠ ab by omega)))
   have hO7a := Lib.hid (hO6.out.grown hgr.out (some_ne (show bo ≠ ab by have := hO6.out.lt; intro e; subst e; exact absurd (cells_kind hO6.out (show w6.heap[bo]? = some (.cells (I64 (List.replicate n 0)).toArray 3 (0, 0)) from HA0.out)) (by decide))))
   have hB7a := Lib.hid (below_row hB6.out hgr.out (by have := hB6.out.size; have := HGB.out; omega) (by omega))
   have hb7 : Below wr.heap.size wr (wr.alloc (.cells #[.slice none 0 0, .int .i64 0] 26)) := (Below.refl _ _).alloc (Nat.le_refl _) _
   have hD7 := Lib.hid (Arr.new wr 26 [.slice none 0 0, .int .i64 0])
   have l10 : ab < wr.heap.size := hAr.out.lt
   have lbo0 := hO7a.out.lt
   have hX7 := Lib.hid (hX7a.out.keep hb7)
   have hR7 := Lib.hid (hR7a.out.keep hb7)
   have hO7 := Lib.hid (hO7a.out.keep hb7)
   have hA7 := Lib.hid (hAr.out.keep hb7)
   have hRl7 := Lib.hid (hRr.out.keep hb7)
   have hB7 := Lib.hid (hB7a.out.trans (hb7.mono (by omega)))
   have hal7 := hal
   clear hX7a hR7a hO7a hB7a hAr hRr hgr hpl hal hX6 hR6 hO6 hRl6 hB6 HA0
   obtain ⟨a, ha⟩ : ∃ a, placeV n l = a := ⟨_, rfl⟩
   have HAE := Lib.hid ha
   rw [ha] at hA7 hal7
   clear ha
   go_upto_region 13 with (fail)
   have y0 := hO7.out.cell' (i := 0) rfl
   obtain ⟨db, hdb⟩ : ∃ x, wr.heap.size = x := ⟨_, rfl⟩
   generalize (wr.alloc (.cells #[.slice none 0 0, .int .i64 0] 26)) = w7 at *
   rw [hdb] at hD7 l10 lbo0 ⊢
   clear hdb hb7
   go_upto_region 14 with (fail)
   clear y0
   have hst0 : Hid (w7.ownsRow db 34 5 (.slice none 0 0) 0 []) := own_nil0 _ _ _ _
   have hnd0 : Hid (NodesRd w7 (fun b => db ≤ b) [] ((l.take 0).map fun x => remapN a (ndAt nodes x.toNat))) := NodesRd.nil _ _
   have hG7 := Lib.hid (HG.out.below hB7.out hBw)
   go_loopw [46] (fun v wr => ∃ (i : Nat) (ov : Value) (ncs : List Value), i ≤ q ∧ v = .int .i64 (i : Int) ∧ Hid (wr.ownsRow db 34 5 ov i ncs) ∧ Hid (NodesRd wr (fun b => db ≤ b) ncs ((l.take i).map fun x => remapN a (ndAt nodes x.toNat))) ∧ Hid (Arr wr db 26 [ov, .int .i64 0]) ∧ Hid (Below db w7 wr)) (fun v _ => q - (intOf v).toNat)
   case atStart => exact ⟨0, _, [], Nat.zero_le _, rfl, hst0, hnd0, hD7, Below.refl _ _⟩
   case round =>
    obtain ⟨i, ov, ncs, hi, rfl, hrow, hnr, hout, hbr⟩ := hrel
    have hXr := Lib.hid (hX7.out.below hbr.out (by omega))
    have hAwr := Lib.hid (hA7.out.below hbr.out l10)
    have hRlr := Lib.hid (hRl7.out.below hbr.out (fun ad e => by have := Option.some.inj e; subst this; show lo < db; omega))
    have hdr : db < wr.heap.size := hout.out.lt
    clear hst0 hnd0 hD7
    by_cases hiq : i < q
    ·have hiq' : (i : Int) < q := by omega
     have hi0 : (0 : Int) ≤ i := by omega
     obtain ⟨x, hx⟩ : ∃ x, l[i]? = some x := ⟨_, List.getElem?_eq_getElem (by have := HQ.out; omega)⟩
     obtain ⟨hx0, hx1⟩ := HLin.out x (List.mem_of_getElem? hx)
     obtain ⟨k, rfl⟩ : ∃ k : Nat, x = (k : Int) := ⟨x.toNat, by omega⟩
     have hkn : k < n := by have := HN.out; omega
     have hkl : k < nodes.length := by have := HN.out; omega
     have hkn' : (k : Int) < n := by omega
     have hk0 : (0 : Int) ≤ k := by omega
     have cx : wr.cell? ⟨lo, i, none⟩ = some (.int .i64 (k : Int)) := by
      obtain ⟨ad, e, hc⟩ := hRlr.out i _ (I64_get hx)
      obtain rfl := Option.some.inj e
      rw [show (⟨lo, 0, none⟩ : Addr).add i = ⟨lo, i, none⟩ from by unfold Addr.add; split <;> simp_all] at hc
      exact hc
     have hGr := hG7.out.below hbr.out (by omega)
     obtain ⟨K, ck, I, ci, d0, d1, d2, d3, d4, ⟨hK, hKb⟩, hI1, hI2⟩ := hGr.of_at hkl
     have HK := Lib.hid hK
     have HI1 := Lib.hid hI1
     obtain ⟨hlk, hli⟩ := HC.out.nl k hkl
     have hIdx := HC.out.idx k hkl
     have hTk : Hid ((l.take (i + 1)).map (fun x => remapN a (ndAt nodes x.toNat)) = (l.take i).map (fun x => remapN a (ndAt nodes x.toNat)) ++ [remapN a (ndAt nodes k)]) := by
      show _ = _
      rw [List.take_add_one, hx]; simp
     have hxk : ∀ x ∈ (ndAt nodes k).keys, 0 ≤ x ∧ x < (n : Int) := fun x hx => by have := hIdx x (by unfold refs; exact List.mem_append.2 (.inl hx)); have := HN.out; omega
     have hxi : ∀ x ∈ (ndAt nodes k).items, 0 ≤ x ∧ x < (n : Int) := fun x hx => by have := hIdx x (by unfold refs; exact List.mem_append.2 (.inr hx)); have := HN.out; omega
     have HKX := Lib.hid hxk
     have HIX := Lib.hid hxi
     clear hK hKb hI1 hI2 hIdx hxk hxi hGr hx hx0 hx1 hRlr
     generalize hnd : ndAt nodes k = nd at *
     clear hnd
     have hND : Hid (Arr (wr.alloc (.cells #[.int .i64 nd.kind, .string (mks nd.text), .bool nd.ord, .slice K nd.keys.length ck, .slice I nd.items.length ci] 34)) wr.heap.size 34 [.int .i64 nd.kind, .string (mks nd.text), .bool nd.ord, .slice K nd.keys.length ck, .slice I nd.items.length ci]) := Arr.new wr _ _
     have hbn : Below wr.heap.size wr (wr.alloc (.cells #[.int .i64 nd.kind, .string (mks nd.text), .bool nd.ord, .slice K nd.keys.length ck, .slice I nd.items.length ci] 34)) := (Below.refl _ _).alloc (Nat.le_refl _) _
     have x0 := hXr.out.cell' (i := 0) rfl
     go_upto_region 17 with (fail)
     clear x0 cx d0 d1 d2 d3 d4
     generalize hw2 : (wr.alloc (.cells #[.int .i64 nd.kind, .string (mks nd.text), .bool nd.ord, .slice K nd.keys.length ck, .slice I nd.items.length ci] 34)) = w2 at *
     clear hw2
     obtain ⟨nb, hnb⟩ : ∃ b, wr.heap.size = b := ⟨_, rfl⟩
     rw [hnb] at hND ⊢
     have HNB := Lib.hid hnb
     obtain ⟨z, hz⟩ : ∃ z, w2.heap.size = z := ⟨_, rfl⟩
     have HZ := Lib.hid hz
     have hnz : nb < z := by have := hND.out.lt; omega
     have habz : ab < z := by have := HNB.out; omega
     have HK2 := Lib.hid (HK.out.keep hbn)
     have HI2 := Lib.hid (HI1.out.keep hbn)
     have DK := Lib.hid (fun w' (h : Below z w2 w') => copied_any K ck nd.keys hlk w' (HK2.out.keep (by rw [HZ.out]; exact h)))
     have DI := Lib.hid (fun w' (h : Below z w2 w') => copied_any I ci nd.items hli w' (HI2.out.keep (by rw [HZ.out]; exact h)))
     have r3 : ∀ w', Below z w2 w' → w'.cell? ⟨nb, 3, none⟩ = some (.slice K nd.keys.length ck) := fun w' h => (hND.out.below h hnz).cell' (i := 3) rfl
     have r4 : ∀ w', Below z w2 w' → w'.cell? ⟨nb, 4, none⟩ = some (.slice I nd.items.length ci) := fun w' h => (hND.out.below h hnz).cell' (i := 4) rfl
     have q3 : ∀ w', Below z w2 w' → w'.frozen? ⟨nb, 3, none⟩ = false := fun w' h => (hND.out.below h hnz).frozen 3
     have q4 : ∀ w', Below z w2 w' → w'.frozen? ⟨nb, 4, none⟩ = false := fun w' h => (hND.out.below h hnz).frozen 4
     have hS2 : Below z w2 w2.drew := (Below.refl _ _).drew
     have hzs : z ≤ w2.drew.heap.size := by show z ≤ w2.heap.size; omega
     clear hnb hz HK HI1 HK2 HI2
     rw [mload_eq 32 (.tmp 55), mload_eq 32 (.tmp 58)]
     go_region_held3 (fun _ => True) (first | trivial | go_keep)
      (first
       | (go_at_call 53; ((with_reducible refine (DK.out _ (by first | assumption)).mono ?_)); rintro e w5 ⟨ok, rfl, hok, hb5, hA5⟩; have hS5 : Below z w2 w5 := Below.trans (by first | assumption) (hb5.mono (by first | assumption)); have hzs5 : z ≤ w5.heap.size := Nat.le_trans (by first | assumption) hb5.size)
       | (go_at_call 53; ((with_reducible refine (DI.out _ (by first | assumption)).mono ?_)); rintro e w6 ⟨oi, rfl, hoi, hb6, hA6⟩; have hS6 : Below z w2 w6 := Below.trans (by first | assumption) (hb6.mono (by first | assumption)); have hzs6 : z ≤ w6.heap.size := Nat.le_trans (by first | assumption) hb6.size))
     all_goals
      first
       | (obtain ⟨wl, hwl, hSl, hAk, hAi, hok2, hoi2, hne⟩ : ∃ wl, wl = w6 ∧ Below z w2 wl ∧ Hid (Arr wl ok 3 (I64 nd.keys)) ∧ Hid (Arr wl oi 3 (I64 nd.items)) ∧ z ≤ ok ∧ z ≤ oi ∧ ok ≠ oi := ⟨w6, rfl, hS6, Arr.keep (w := w5) hA5.out hb6, hA6, Nat.le_trans hzs hok, Nat.le_trans hzs5 hoi, Nat.ne_of_lt (Nat.lt_of_lt_of_le hA5.out.lt hoi)⟩)
       | (obtain ⟨wl, hwl, hSl, hAk, hAi, hok2, hoi2, hne⟩ : ∃ wl, wl = w5 ∧ Below z w2 wl ∧ Hid (Arr wl ok 3 (I64 nd.keys)) ∧ Hid (Arr wl oi 3 (I64 nd.items)) ∧ z ≤ ok ∧ z ≤ oi ∧ ok ≠ oi := ⟨w5, rfl, hS5, hA5, Arr.keep (w := w6) hA6.out hb5, Nat.le_trans hzs6 hok, Nat.le_trans hzs hoi, (Nat.ne_of_lt (Nat.lt_of_lt_of_le hA6.out.lt hok)).symm⟩)
      subst hwl
      have hkn : ok ≠ nb := by omega
      have hin2 : oi ≠ nb := by omega
      have hN7 : Hid (Arr ((wl.setCell ⟨nb, 3, none⟩ (.slice (some ⟨ok, 0, none⟩) nd.keys.length nd.keys.length)).setCell ⟨nb, 4, none⟩ (.slice (some ⟨oi, 0, none⟩) nd.items.length nd.items.length)) nb 34 [.int .i64 nd.kind, .string (mks nd.text), .bool nd.ord, .slice (some ⟨ok, 0, none⟩) nd.keys.length nd.keys.length, .slice (some ⟨oi, 0, none⟩) nd.items.length nd.items.length]) := ((hND.out.below hSl hnz).store 3 _).store 4 _
      have hK7 := Lib.hid ((hAk.out.far (p := ⟨nb, 3, none⟩) hkn (.slice (some ⟨ok, 0, none⟩) nd.keys.length nd.keys.length)).far (p := ⟨nb, 4, none⟩) hkn (.slice (some ⟨oi, 0, none⟩) nd.items.length nd.items.length))
      have hI7 := Lib.hid ((hAi.out.far (p := ⟨nb, 3, none⟩) hin2 (.slice (some ⟨ok, 0, none⟩) nd.keys.length nd.keys.length)).far (p := ⟨nb, 4, none⟩) hin2 (.slice (some ⟨oi, 0, none⟩) nd.items.length nd.items.length))
      have hB7' : Hid (Below wr.heap.size wr ((wl.setCell ⟨nb, 3, none⟩ (.slice (some ⟨ok, 0, none⟩) nd.keys.length nd.keys.length)).setCell ⟨nb, 4, none⟩ (.slice (some ⟨oi, 0, none⟩) nd.items.length nd.items.length))) := ((hbn.trans (hSl.mono (by have := HNB.out; omega))).setCell (p := ⟨nb, 3, none⟩) (Nat.le_of_eq HNB.out) _).setCell (p := ⟨nb, 4, none⟩) (Nat.le_of_eq HNB.out) _
      clear hA5 hA6 hAk hAi hb5 hb6 hS5 hS6 hzs5 hzs6 hok hoi hSl hS2 hzs r3 r4 q3 q4 DK DI hbn hND
      generalize ((wl.setCell ⟨nb, 3, none⟩ (.slice (some ⟨ok, 0, none⟩) nd.keys.length nd.keys.length)).setCell ⟨nb, 4, none⟩ (.slice (some ⟨oi, 0, none⟩) nd.items.length nd.items.length)) = w70 at *
      obtain ⟨wo, hwo⟩ : ∃ x, x = wr := ⟨_, rfl⟩
      subst hwo
      obtain ⟨nk, hnk⟩ : ∃ x, nd.keys.length = x := ⟨_, rfl⟩
      obtain ⟨ni, hni⟩ : ∃ x, nd.items.length = x := ⟨_, rfl⟩
      rw [hnk, hni] at hN7
      have HNK := Lib.hid hnk
      have HNI := Lib.hid hni
      rw [hnk] at hlk
      rw [hni] at hli
      have t3 := hN7.out.cell' (i := 3) rfl
      have t4 := hN7.out.cell' (i := 4) rfl
      obtain ⟨lb, hlb⟩ : ∃ x, w70.heap.size = x := ⟨_, rfl⟩
      have hlz : z ≤ lb := by have := hK7.out.lt; omega
      have hLb : Hid (Arr (w70.alloc (.cells #[.slice (some ⟨ok, 0, none⟩) nk nk, .slice (some ⟨oi, 0, none⟩) ni ni] 32)) lb 32 [.slice (some ⟨ok, 0, none⟩) nk nk, .slice (some ⟨oi, 0, none⟩) ni ni]) := by rw [← hlb]; exact Arr.new _ _ _
      have hbL : Below w70.heap.size w70 (w70.alloc (.cells #[.slice (some ⟨ok, 0, none⟩) nk nk, .slice (some ⟨oi, 0, none⟩) ni ni] 32)) := (Below.refl _ _).alloc (Nat.le_refl _) _
      have hN8 := Lib.hid (hN7.out.keep hbL)
      have hK8 : Hid (Arr (w70.alloc (.cells #[.slice (some ⟨ok, 0, none⟩) nk nk, .slice (some ⟨oi, 0, none⟩) ni ni] 32)) ok 3 (I64 (mpF (atG a) nd.keys 0))) := by rw [mpF_zero]; exact hK7.out.keep hbL
      have hI8 : Hid (Arr (w70.alloc (.cells #[.slice (some ⟨ok, 0, none⟩) nk nk, .slice (some ⟨oi, 0, none⟩) ni ni] 32)) oi 3 (I64 (mpF (atG a) nd.items 0))) := by rw [mpF_zero]; exact hI7.out.keep hbL
      have hB8 := Lib.hid (hB7'.out.trans (hbL.mono hB7'.out.size))
      have hAT8 := Lib.hid (hAwr.out.keep hB8.out)
      have hzw : z ≤ (w70.alloc (.cells #[.slice (some ⟨ok, 0, none⟩) nk nk, .slice (some ⟨oi, 0, none⟩) ni ni] 32)).heap.size := by have := hbL.size; omega
      have hlo : lb ≠ ok ∧ lb ≠ oi := ⟨fun e => by have := hK7.out.lt; omega, fun e => by have := hI7.out.lt; omega⟩
      have HLB := Lib.hid hlb
      clear hnk hni hN7 hK7 hI7 hB7' hbL
      go_upto_region 19 with (fail)
      clear t3 t4
      generalize (w70.alloc (.cells #[.slice (some ⟨ok, 0, none⟩) nk nk, .slice (some ⟨oi, 0, none⟩) ni ni] 32)) = w80 at *
      clear hlb
      go_loopw [69] (fun v wx => ∃ (j ik ii : Nat), j ≤ 2 ∧ v = .int .i64 (j : Int) ∧ (0 < j → ik = nk) ∧ (1 < j → ii = ni) ∧ (j = 0 → ik = 0) ∧ (j ≤ 1 → ii = 0) ∧ Hid (Arr wx ok 3 (I64 (mpF (atG a) nd.keys ik))) ∧ Hid (Arr wx oi 3 (I64 (mpF (atG a) nd.items ii))) ∧ Hid (Arr wx lb 32 [.slice (some ⟨ok, 0, none⟩) nk nk, .slice (some ⟨oi, 0, none⟩) ni ni]) ∧ Hid (Below z w80 wx)) (fun v _ => 2 - (intOf v).toNat)
      case atStart => exact ⟨0, 0, 0, by omega, rfl, by omega, by omega, fun _ => rfl, fun _ => rfl, hK8, hI8, hLb, Below.refl _ _⟩
      case round =>
       obtain ⟨j, ik, ii, hj, rfl, e1, e2, e3, e4, hJK, hJI, hJL, hJB⟩ := hrel
       obtain ⟨w81, hw81⟩ : ∃ x, x = wr := ⟨_, rfl⟩
       subst hw81
       have j3 : j = 0 ∨ j = 1 ∨ j = 2 := by omega
       have l0 := hJL.out.cell' (i := 0) rfl
       have l1 := hJL.out.cell' (i := 1) rfl
       rcases j3 with rfl | rfl | rfl
       ·obtain rfl : 0 = ik := (e3 rfl).symm
        obtain rfl : 0 = ii := (e4 (by omega)).symm
        clear e1 e2 e3 e4
        go_upto_region 22 with (fail)
        go_loopw [75] (fun v wx => ∃ k : Nat, k ≤ nk ∧ v = .int .i64 (k : Int) ∧ Hid (Arr wx ok 3 (I64 (mpF (atG a) nd.keys k))) ∧ Hid (Arr wx oi 3 (I64 (mpF (atG a) nd.items 0))) ∧ Hid (Arr wx lb 32 [.slice (some ⟨ok, 0, none⟩) nk nk, .slice (some ⟨oi, 0, none⟩) ni ni]) ∧ Hid (Below z w80 wx)) (fun v _ => nk - (intOf v).toNat)
        case atStart => exact ⟨0, Nat.zero_le _, rfl, hJK, hJI, hJL, hJB⟩
        case round =>
         obtain ⟨k, hk, rfl, hA, hO, hL, hBx⟩ := hrel
         obtain ⟨w82, hw82⟩ : ∃ x, x = wr := ⟨_, rfl⟩
         subst hw82
         clear hJK hJI hJL hJB l0 l1
         by_cases hkn : k = nk
         ·obtain rfl : k = nk := hkn
          have hk' : ¬ (k : Int) < k := by omega
          go_wp2_with (fail)
          go_roundw
          case rel => exact ⟨1, k, 0, by omega, rfl, by omega, by omega, by omega, by omega, hA, hO, hL, hBx⟩
          case measure => simp [intOf]
         ·have hk' : (k : Int) < nk := by omega
          have hk0 : (0 : Int) ≤ k := by omega
          obtain ⟨x, hxi⟩ : ∃ x, nd.keys[k]? = some x := ⟨_, List.getElem?_eq_getElem (by have := HNK.out; omega)⟩
          obtain ⟨hx0, hx1⟩ := HKX.out x (List.mem_of_getElem? hxi)
          obtain ⟨kx, rfl⟩ : ∃ kx : Nat, x = (kx : Int) := ⟨x.toNat, by omega⟩
          have hkx : kx < n := by omega
          obtain ⟨vx, hvx⟩ : ∃ v, a[kx]? = some v := ⟨_, List.getElem?_eq_getElem (by have := hal7.out; omega)⟩
          have hgx : atG a (kx : Int) = vx := by unfold atG; rw [Int.toNat_natCast, List.getD_eq_getElem?_getD, hvx]; rfl
          have c0 := hA.out.cell' (I64_get (mpF_get (g := atG a) hxi))
          have f0 := hA.out.frozen k
          have hAt := hAT8.out.below hBx.out habz
          have ca := hAt.cell' (I64_get hvx)
          have hA2 : Hid (Arr (w82.setCell ⟨ok, k, none⟩ (.int .i64 vx)) ok 3 (I64 (mpF (atG a) nd.keys (k + 1)))) := by
           have h := hA.out.store k (.int .i64 vx)
           rw [I64_set, ← hgx, mpF_set hxi, hgx] at h
           exact h
          have hO2 := Lib.hid (hO.out.far (p := ⟨ok, k, none⟩) hne.symm (.int .i64 vx))
          have hL2 := Lib.hid (hL.out.far (p := ⟨ok, k, none⟩) hlo.1 (.int .i64 vx))
          have hB2 := Lib.hid (hBx.out.setCell (p := ⟨ok, k, none⟩) hok2 (.int .i64 vx))
          clear hA hO hL hBx hxi hvx hgx hAt
          go_wp2_with (fail)
          go_roundw
          case rel => exact ⟨k + 1, by omega, i64e (by omega), hA2, hO2, hL2, hB2⟩
          case measure => simp [intOf]; omega
       ·obtain rfl : nk = ik := (e1 (by omega)).symm
        obtain rfl : 0 = ii := (e4 (by omega)).symm
        clear e1 e2 e3 e4
        go_upto_region 22 with (fail)
        go_loopw [75] (fun v wx => ∃ k : Nat, k ≤ ni ∧ v = .int .i64 (k : Int) ∧ Hid (Arr wx oi 3 (I64 (mpF (atG a) nd.items k))) ∧ Hid (Arr wx ok 3 (I64 (mpF (atG a) nd.keys nk))) ∧ Hid (Arr wx lb 32 [.slice (some ⟨ok, 0, none⟩) nk nk, .slice (some ⟨oi, 0, none⟩) ni ni]) ∧ Hid (Below z w80 wx)) (fun v _ => ni - (intOf v).toNat)
        case atStart => exact ⟨0, Nat.zero_le _, rfl, hJI, hJK, hJL, hJB⟩
        case round =>
         obtain ⟨k, hk, rfl, hA, hO, hL, hBx⟩ := hrel
         obtain ⟨w82, hw82⟩ : ∃ x, x = wr := ⟨_, rfl⟩
         subst hw82
         clear hJK hJI hJL hJB l0 l1
         by_cases hkn : k = ni
         ·obtain rfl : k = ni := hkn
          have hk' : ¬ (k : Int) < k := by omega
          go_wp2_with (fail)
          go_roundw
          case rel => exact ⟨2, nk, k, by omega, rfl, by omega, by omega, by omega, by omega, hO, hA, hL, hBx⟩
          case measure => simp [intOf]
         ·have hk' : (k : Int) < ni := by omega
          have hk0 : (0 : Int) ≤ k := by omega
          obtain ⟨x, hxi⟩ : ∃ x, nd.items[k]? = some x := ⟨_, List.getElem?_eq_getElem (by have := HNI.out; omega)⟩
          obtain ⟨hx0, hx1⟩ := HIX.out x (List.mem_of_getElem? hxi)
          obtain ⟨kx, rfl⟩ : ∃ kx : Nat, x = (kx : Int) := ⟨x.toNat, by omega⟩
          have hkx : kx < n := by omega
          obtain ⟨vx, hvx⟩ : ∃ v, a[kx]? = some v := ⟨_, List.getElem?_eq_getElem (by have := hal7.out; omega)⟩
          have hgx : atG a (kx : Int) = vx := by unfold atG; rw [Int.toNat_natCast, List.getD_eq_getElem?_getD, hvx]; rfl
          have c0 := hA.out.cell' (I64_get (mpF_get (g := atG a) hxi))
          have f0 := hA.out.frozen k
          have hAt := hAT8.out.below hBx.out habz
          have ca := hAt.cell' (I64_get hvx)
          have hA2 : Hid (Arr (w82.setCell ⟨oi, k, none⟩ (.int .i64 vx)) oi 3 (I64 (mpF (atG a) nd.items (k + 1)))) := by
           have h := hA.out.store k (.int .i64 vx)
           rw [I64_set, ← hgx, mpF_set hxi, hgx] at h
           exact h
          have hO2 := Lib.hid (hO.out.far (p := ⟨oi, k, none⟩) hne (.int .i64 vx))
          have hL2 := Lib.hid (hL.out.far (p := ⟨oi, k, none⟩) hlo.2 (.int .i64 vx))
          have hB2 := Lib.hid (hBx.out.setCell (p := ⟨oi, k, none⟩) hoi2 (.int .i64 vx))
          clear hA hO hL hBx hxi hvx hgx hAt
          go_wp2_with (fail)
          go_roundw
          case rel => exact ⟨k + 1, by omega, i64e (by omega), hA2, hO2, hL2, hB2⟩
          case measure => simp [intOf]; omega
       ·obtain rfl : nk = ik := (e1 (by omega)).symm
        obtain rfl : ni = ii := (e2 (by omega)).symm
        clear e1 e2 e3 e4 l0 l1
        have hN7 := Lib.hid (hN8.out.below hJB.out hnz)
        rw [← HNK.out, ← HNI.out] at hN7
        have hK7 : Hid (Arr w81 ok 3 (I64 (nd.keys.map (atG a)))) := by have h := hJK.out; rw [mpF_all (atG a) nd.keys HNK.out] at h; exact h
        have hI7 : Hid (Arr w81 oi 3 (I64 (nd.items.map (atG a)))) := by have h := hJI.out; rw [mpF_all (atG a) nd.items HNI.out] at h; exact h
        have hB7' := Lib.hid (hB8.out.trans (hJB.out.mono (by have := HNB.out; omega)))
        clear hN8 hK8 hI8 hB8 hLb hJK hJI hJL hJB hAT8
        have n0' := hN7.out.cell' (i := 0) rfl
        have n1' := hN7.out.cell' (i := 1) rfl
        have n2' := hN7.out.cell' (i := 2) rfl
        have n3' := hN7.out.cell' (i := 3) rfl
        have n4' := hN7.out.cell' (i := 4) rfl
        have hout7 := Lib.hid (hout.out.keep hB7'.out)
        have o0 := hout7.out.cell' (i := 0) rfl
        have hbN : Below w81.heap.size w81 (w81.alloc (.cells #[.int .i64 nd.kind, .string (mks nd.text), .bool nd.ord, .slice (some ⟨ok, 0, none⟩) nd.keys.length nd.keys.length, .slice (some ⟨oi, 0, none⟩) nd.items.length nd.items.length] 34)) := (Below.refl _ _).alloc (Nat.le_refl _) _
        have hrow7 := Lib.hid (own_below hrow.out hB7'.out)
        have hdb8 : db ≤ w81.heap.size := by have := hout7.out.lt; omega
        have hrk := Lib.hid (fun (b : Nat) (e : ov.ownBlock = some b) => own_kind (own_below hrow7.out hbN) e)
        have hoN := Lib.hid (hout7.out.keep hbN)
        have hne : Hid (some db ≠ ov.ownBlock) := fun e => by
         obtain ⟨C, fz, hc⟩ := hrk.out db e.symm
         exact absurd (cells_kind hoN.out hc) (by decide)
        go_upto_region 28 with (at_builtin; go_loud (refine wpList_apS rfl (.tmp 90) (.tmp 92) 24 rfl db 34 _ 5 _ Tryz.underlying24 infoNd rfl (by decide) _ i ncs rfl (hrow7.out.alloc _) ⟨w81.heap.size, 0, none⟩ _ [.int .i64 nd.kind, .string (mks nd.text), .bool nd.ord, .slice (some ⟨ok, 0, none⟩) nd.keys.length nd.keys.length, .slice (some ⟨oi, 0, none⟩) nd.items.length nd.items.length] rfl rfl (cells_new _ _ _) rfl (by unfold maxLen; omega) (by omega) (by simp; omega) ?_; intro v3 w3 hown3 hgr3 hat3; obtain ⟨A3, c3', hv3, hc3, hm3⟩ := own_slice hown3; subst hv3; have a3 := hoN.out.grown hgr3 hne.out; have b3 := a3.cell' (i := 0) rfl; have f3 := a3.frozen 0))
        have hV3 := Lib.hid hown3
        have hin : Hid (∀ b, b < wo.heap.size → db ≤ b → (∃ C fz, wo.heap[b]? = some (.cells C 3 fz)) → (w3.setCell ⟨db, 0, none⟩ (.slice A3 (i + 1) c3')).heap[b]? = wo.heap[b]?) := fun b hb _ ⟨C, fz, hk⟩ => by
         have e1 := hB7'.out.block b hb
         have hb2 := Nat.lt_of_lt_of_le hb hB7'.out.size
         have e2 := hbN.block b hb2
         have e3 : (w81.alloc (.cells #[.int .i64 nd.kind, .string (mks nd.text), .bool nd.ord, .slice (some ⟨ok, 0, none⟩) nd.keys.length nd.keys.length, .slice (some ⟨oi, 0, none⟩) nd.items.length nd.items.length] 34)).heap[b]? = some (.cells C 3 fz) := e2.trans (e1.trans hk)
         have e4 : w3.heap[b]? = _ := hgr3.block b (Nat.lt_of_lt_of_le hb2 hbN.size) (fun e => by
          obtain ⟨C', fz', hk'⟩ := hrk.out b e.symm
          rw [e3] at hk'
          have := Option.some.inj hk'
          injection this with _ ht
          exact absurd ht (by decide))
         refine (setCell_heap_ne _ _ _ ?_).trans (e4.trans (e2.trans e1))
         rintro rfl
         have := hoN.out
         unfold Arr at this
         rw [e3] at this
         have := Option.some.inj this
         injection this with _ ht
         exact absurd ht (by decide)
        have hint : ∀ {b : Nat} {xs : List Int}, Arr w81 b 3 (I64 xs) → Arr (w3.setCell ⟨db, 0, none⟩ (.slice A3 (i + 1) c3')) b 3 (I64 xs) := fun {b xs} ha => by
         have h1 := ha.keep hbN
         have h2 := h1.grown hgr3 (fun e => by
          obtain ⟨C', fz', hk'⟩ := hrk.out b e.symm
          exact absurd (cells_kind h1 hk') (by decide))
         exact h2.far (p := ⟨db, 0, none⟩) (h2.ne a3 (by decide)) _
        have hrowF : Hid ((w3.setCell ⟨db, 0, none⟩ (.slice A3 (i + 1) c3')).ownsRow db 34 5 (.slice A3 (i + 1) c3') (i + 1) (ncs ++ [.int .i64 nd.kind, .string (mks nd.text), .bool nd.ord, .slice (some ⟨ok, 0, none⟩) nd.keys.length nd.keys.length, .slice (some ⟨oi, 0, none⟩) nd.items.length nd.items.length])) := own_far (p := ⟨db, 0, none⟩) hV3.out (fun e => by
         obtain ⟨C, fz, hk⟩ := own_kind hV3.out e
         exact absurd (cells_kind a3 hk) (by decide)) _
        have hndF : Hid (NodesRd (w3.setCell ⟨db, 0, none⟩ (.slice A3 (i + 1) c3')) (fun b => db ≤ b) (ncs ++ [.int .i64 nd.kind, .string (mks nd.text), .bool nd.ord, .slice (some ⟨ok, 0, none⟩) nd.keys.length nd.keys.length, .slice (some ⟨oi, 0, none⟩) nd.items.length nd.items.length]) ((l.take (i + 1)).map fun x => remapN a (ndAt nodes x.toNat))) := by
         show NodesRd _ _ _ _
         rw [hTk.out]
         refine (hnr.out.over fun b hb hF hk => ⟨hin.out b hb hF hk, hF⟩).app (NodesRd.one ⟨some ⟨ok, 0, none⟩, _, _, some ⟨oi, 0, none⟩, _, _, rfl, ⟨by simp [remapN], (hint hK7.out).rd, fun ad e => ?_⟩, by simp [remapN], (hint hI7.out).rd, fun ad e => ?_⟩)
         ·obtain rfl := Option.some.inj e
          exact ⟨by have := HNB.out; show db ≤ ok; omega, _, _, hint hK7.out⟩
         ·obtain rfl := Option.some.inj e
          exact ⟨by have := HNB.out; show db ≤ oi; omega, _, _, hint hI7.out⟩
        have houtF : Hid (Arr (w3.setCell ⟨db, 0, none⟩ (.slice A3 (i + 1) c3')) db 26 [.slice A3 (i + 1) c3', .int .i64 0]) := a3.store 0 _
        have hbrF : Hid (Below db w7 (w3.setCell ⟨db, 0, none⟩ (.slice A3 (i + 1) c3'))) := ((hbr.out.trans (hB7'.out.mono (Nat.le_of_lt hdr))).trans ((hbN.mono hdb8).trans (below_of_grown hgr3 (Nat.le_trans hdb8 hbN.size) (fun b e => (hrow7.out.lt b e).1)))).setCell (p := ⟨db, 0, none⟩) (Nat.le_refl _) _
        clear hV3 hin hint hown3 hgr3 hat3 a3 b3 f3 hrk hoN hne hrow7 hout7 o0 hbN n0' n1' n2' n3' n4' hN7 hK7 hI7 hB7' hrow hnr hout hbr hXr hAwr
        go_wp2_with (fail)
        go_roundw
        case rel => exact ⟨i + 1, _, _, by omega, i64e (by omega), hrowF, hndF, houtF, hbrF⟩
        case measure => simp [intOf]; omega
    ·obtain rfl : q = i := by omega
     have hiq' : ¬ (q : Int) < q := by omega
     have HOC : Hid ((l.take q).map (fun x => remapN a (ndAt nodes x.toNat)) = outC nodes l) := by
      show _ = _
      rw [List.take_of_length_le (by have := HQ.out; omega)]
      unfold outC
      rw [HN.out, HAE.out]
     have hnd2 := hnr.out
     rw [HOC.out] at hnd2
     have hlen2 : (outC nodes l).length = q := by unfold outC; rw [List.length_map]; exact HQ.out
     have hrow2 := hrow.out
     obtain ⟨ob, oc, hov2, _, _⟩ := own_some hrow2 hq0
     subst hov2
     have hGO : Hid (GRd wr wr.heap.size ob 0 (outC nodes l)) := by
      rw [← hlen2] at hrow2
      exact grd_own hrow2 (hnd2.over fun _ _ _ _ => ⟨rfl, trivial⟩)
     have hBr := Lib.hid (hB7.out.trans (hbr.out.mono (by omega)))
     have hWr := Lib.hid (HW.out.keep (by rw [HGB.out]; exact hBr.out))
     have D1 := Lib.hid (fun (w' : World) (h : LibE w') (h' : GRd w' wr.heap.size ob 0 (outC nodes l)) => gcheck_any (c := oc) HC.out.cok w' h h')
     rw [HC.out.zero, hlen2] at D1
     have D2 := Lib.hid (fun (w' : World) (h : LibE w') (h' : GRd w' wr.heap.size ob 0 (outC nodes l)) => Normal_w (c := oc) (r := 0) hlen2 HC.out.nok HC.out.cok HC.out.zero (by rw [hlen2]; exact hq0) HC.out.nv w' h h')
     rw [show ((0 : Nat) : Int) = 0 from rfl] at D2
     have hRr2 := Lib.hid (hR7.out.below hbr.out (by omega))
     have o0 := hout.out.cell' (i := 0) rfl
     have o1 := hout.out.cell' (i := 1) rfl
     have hgr2 : gb ≤ wr.heap.size := by omega
     have hdr2 : gb + 1 < wr.heap.size := hRr2.out.lt
     clear hnd2 hrow2 hlen2 hX7 hR7 hO7 hA7 hRl7 hB7 hXr hAwr hRlr hbr hnr hrow HOC hG7 HG
     go_upto_region 30 with (go_at_call 30; ((with_reducible refine (D1.out _ hWr.out hGO.out).mono ?_)); rintro e w8 ⟨rfl, hb8⟩)
     have hG8 := Lib.hid (hGO.out.below hb8 (Nat.le_refl _))
     have hO8 := Lib.hid (hout.out.keep hb8)
     have hR8 := Lib.hid (hRr2.out.keep hb8)
     have hB8 := Lib.hid (hBr.out.trans (hb8.mono hgr2))
     have hW8 := Lib.hid (hWr.out.keep hb8)
     have hs8 := hb8.size
     clear o0 o1 hGO hout hRr2 hBr hWr hb8 D1
     have o0 := hO8.out.cell' (i := 0) rfl
     have o1 := hO8.out.cell' (i := 1) rfl
     go_upto_region 33 with (go_at_call 19; ((with_reducible refine (D2.out _ hW8.out hG8.out).mono ?_)); rintro e w9 ⟨om, ncs9, rfl, hb9, hom9, hA9, hN9, hl9⟩; have hR9 := Lib.hid (hR8.out.keep hb9); have c0 := hR9.out.cell' (i := 0) rfl; have c1 := hR9.out.cell' (i := 1) rfl; have f0 := hR9.out.frozen 0; have f1 := hR9.out.frozen 1)
     have hRF := Lib.hid ((hR9.out.store 0 (.slice (some ⟨om, 0, none⟩) q q)).store 1 (.int .i64 0))
     have hB9 := Lib.hid (hB8.out.trans (hb9.mono (by omega)))
     have hBF := Lib.hid ((hB9.out.setCell (p := ⟨gb + 1, 0, none⟩) (by show gb ≤ gb + 1; omega) (.slice (some ⟨om, 0, none⟩) q q)).setCell (p := ⟨gb + 1, 1, none⟩) (by show gb ≤ gb + 1; omega) (.int .i64 0))
     have hgw : w9.grownBy ((w9.setCell ⟨gb + 1, 0, none⟩ (.slice (some ⟨om, 0, none⟩) q q)).setCell ⟨gb + 1, 1, none⟩ (.int .i64 0)) (some (gb + 1)) := grown_trans (grown_set w9 ⟨gb + 1, 0, none⟩ _) (grown_set _ ⟨gb + 1, 1, none⟩ _)
     generalize (w9.setCell ⟨gb + 1, 0, none⟩ (.slice (some ⟨om, 0, none⟩) q q)).setCell ⟨gb + 1, 1, none⟩ (.int .i64 0) = wf at *
     have hA10 : Arr wf om 34 ncs9 := Arr.grown hA9 hgw (some_ne (by omega))
     have hN10 := hN9.over (w' := wf) (F' := fun _ => True) (fun b hb _ hc => ⟨hgw.block b hb (fun e => by
      obtain ⟨C, fz, hc⟩ := hc
      have e := Option.some.inj e
      subst e
      exact absurd (cells_kind hR9.out hc) (by decide)), trivial⟩)
     have hsz : (Tryz.prog.info? 26).map (·.size) = some 2 := by kernel_rfl
     rw [HQ.out]
     exact bodyPost_ret (results_row_tmp Tryz.results60 _ _ _ _ #[.slice (some ⟨om, 0, none⟩) q q, .int .i64 0] (0, 0) _ _ rfl rfl hRF.out Tryz.underlying26 rfl hsz) rfl ⟨om, ncs9, rfl, by rw [HGB.out]; exact hBF.out, by have := HGB.out; omega, hA10, hN10, hl9⟩
end Go.Proofs.YtoppncpmfajbcaaGreatDoor
