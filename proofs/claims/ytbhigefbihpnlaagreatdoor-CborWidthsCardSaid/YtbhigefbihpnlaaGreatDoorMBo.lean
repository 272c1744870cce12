/- The walk of slices.SortFunc at twelve integers or fewer, by the comparisons of canon's entries and of jsonout's content. -/
import Derived.Test.YtbhigefbihpnlaaGreatDoorMBn
import Derived.Test.YtbhigefbihpnlaaGreatDoorShelf
import Derived.Test.YtbhigefbihpnlaaGreatDoorMBa
import Derived.Maps.OwnSet
import Derived.DeepKeys4
import Derived.Deep.RegionHeld3
import Derived.Deep.DrawnRows
import Derived.Test.YtbhigefbihpnlaaGreatDoorMAz
import Derived.Test.YtbhigefbihpnlaaGreatDoorMAo
import Derived.Test.YtbhigefbihpnlaaGreatDoorMAa
import Derived.Test.YtbhigefbihpnlaaGreatDoorMAd
import Derived.Test.YtbhigefbihpnlaaGreatDoorMAg
set_option linter.unusedVariables false
set_option linter.unusedSimpArgs false
set_option linter.defProp false
set_option linter.constructorNameAsVariable false
namespace Go.Proofs.YtbhigefbihpnlaaGreatDoor
open Go.RowKit
set_option maxRecDepth 20000 in
theorem bits_len (n : Nat) (hn : n ≤ 12) (w : World) : Calls Tryz.prog 65 #[.int .u64 (n : Int)] w fun e w' => e = .returned (.int .i64 (Lib.bitLen n)) ∧ w = w' := by
 have D := Lib.hid (Tryz.bits_Len64 (n : Int) w (by omega) (by omega))
 rw [Int.toNat_natCast] at D
 generalize Lib.bitLen n = b at *
 go_enter Tryz.func65, Tryz.ntmps65
 go_wp2_with (go_at_call 96; ((with_reducible refine D.out.mono ?_)); rintro e w5 ⟨rfl, rfl⟩)
 go_ret
 exact ⟨rfl, rfl⟩
set_option maxRecDepth 100000 in
set_option maxHeartbeats 4000000 in
theorem pdq_e {blk c n x y : Nat} {lim : Int} {cf : Int → Int → Int} {S : List Int → World → Prop} (hS : SortS blk n 50 x y cf S) (hn : n ≤ 12) (l : List Int) (w : World) (h : S l w) :
  Calls Tryz.prog 64 #[.slice (some ⟨blk, 0, none⟩) n c, .int .i64 0, .int .i64 (n : Int), .int .i64 lim, .func (.func 50) #[] #[.pointer (some ⟨x, 0, none⟩), .pointer (some ⟨y, 0, none⟩)]] w fun e w' => e = .returned (.tuple #[]) ∧ S (insS (fun a b => decide (cf a b < 0)) l) w' := by
 have D := Lib.hid (insertion_e (c := c) hS hn l w h)
 generalize insS (fun a b => decide (cf a b < 0)) l = R at *
 have hn' : (n : Int) ≤ 12 := by omega
 clear hS h
 go_enter Tryz.func64, Tryz.ntmps64
 go_wp2_with (fail)
 refine wp_loop_rounds 1 ?_
 rw [rounds_succ]
 go_wp2_with (go_at_call 87; ((with_reducible refine D.out.mono ?_)); rintro e w5 ⟨rfl, h5⟩)
 (try simp only [Exit.inBlock, Exit.then])
 refine bodyPost_ret (results_none rfl _ _ _) rfl ?_
 exact ⟨rfl, h5⟩
set_option maxRecDepth 100000 in
set_option maxHeartbeats 4000000 in
theorem sortf_e {blk c n x y : Nat} {cf : Int → Int → Int} {S : List Int → World → Prop} (hS : SortS blk n 50 x y cf S) (hn : n ≤ 12) (l : List Int) (w : World) (h : S l w) :
  Calls Tryz.prog 49 #[.slice (some ⟨blk, 0, none⟩) n c, .func (.func 50) #[] #[.pointer (some ⟨x, 0, none⟩), .pointer (some ⟨y, 0, none⟩)]] w fun e w' => e = .returned (.tuple #[]) ∧ S (insS (fun a b => decide (cf a b < 0)) l) w' := by
 have D := Lib.hid (fun lim => pdq_e (c := c) (lim := lim) hS hn l w h)
 generalize insS (fun a b => decide (cf a b < 0)) l = R at *
 have hn' : (n : Int) ≤ 12 := by omega
 have hlen := Lib.hid (bits_len n hn)
 clear hS h
 go_enter Tryz.func49, Tryz.ntmps49
 go_wp2_with (first | (go_at_call 65; ((with_reducible refine (hlen.out _).mono ?_)); rintro e w5 ⟨rfl, rfl⟩) | (go_at_call 64; ((with_reducible refine (D.out _).mono ?_)); rintro e w6 ⟨rfl, h6⟩))
 go_end0
 exact ⟨rfl, h6⟩
end Go.Proofs.YtbhigefbihpnlaaGreatDoor
namespace Go.Proofs.YtbhigefbihpnlaaGreatDoor
open Go.RowKit Go.Maps
open Go.WideMaps (KeyLaw)
end Go.Proofs.YtbhigefbihpnlaaGreatDoor
namespace Go.Proofs.YtbhigefbihpnlaaGreatDoor
open Go.RowKit Go.Maps
attribute [local go_sem ↓] Go.wp_at_zero Go.wp_at_succ
end Go.Proofs.YtbhigefbihpnlaaGreatDoor
namespace Go.Proofs.YtbhigefbihpnlaaGreatDoor
open Go.RowKit
theorem infoNd : (Tryz.prog.info? 60).map (fun i => (i.zero, i.size, i.bytes)) = some (some (.agg #[.int .i64 0, .string ⟨#[]⟩, .bool false, .slice none 0 0, .slice none 0 0]), 5, 80) := by kernel_rfl
def kleafC (nd : GNode) : List Value := [.int .i64 nd.kind, .string (mks nd.text), .bool nd.ord, .slice none 0 0, .slice none 0 0]
end Go.Proofs.YtbhigefbihpnlaaGreatDoor
namespace Go.Proofs.YtbhigefbihpnlaaGreatDoor
open Go.RowKit
def InR (N : Nat) (xs : List Int) : Prop := ∀ x ∈ xs, 0 ≤ x ∧ x < (N : Int)
end Go.Proofs.YtbhigefbihpnlaaGreatDoor
namespace Go.Proofs.YtbhigefbihpnlaaGreatDoor
open Go.RowKit
structure LeafT (nd : GNode) : Prop where
 ok : ChkOK [nd] 0
 keys : nd.keys = []
 items : nd.items = []
 kind : nd.kind = 5
 ord : nd.ord = false
def KeyM (w : World) (B ks i : Nat) (nd : GNode) : Prop := ∃ nb c, w.cell? ⟨ks, i * 2, none⟩ = some (.slice (some ⟨nb, 0, none⟩) 1 c) ∧ w.cell? ⟨ks, i * 2 + 1, none⟩ = some (.int .i64 0) ∧ w.ownsRow B 60 5 (.slice (some ⟨nb, 0, none⟩) 1 c) 1 (kleafC nd)
structure KeysW (N0 g0 B ks kb m : Nat) (wb w : World) : Prop where
 lib : LibE w
 lo : Below B wb w
 box : w.cell? ⟨kb, 0, none⟩ = some (.slice (some ⟨ks, 0, none⟩) m m)
 bl : kb < N0 ∧ kb ≠ g0 ∧ ks < N0 ∧ ks ≠ g0
 key : ∀ i, i < m → ∃ nd, LeafT nd ∧ KeyM w (g0 + 1) ks i nd ∧ (∀ nb c, w.cell? ⟨ks, i * 2, none⟩ = some (.slice (some ⟨nb, 0, none⟩) 1 c) → nb < N0)
theorem KeysW.keep {N0 g0 B ks kb m : Nat} {wb w w' : World} (h : KeysW N0 g0 B ks kb m wb w) (hB : B = wb.heap.size) (hE : LibE wb) (h1 : B ≤ N0) (h2 : B ≤ g0) (hk : KP N0 g0 w w') : KeysW N0 g0 B ks kb m wb w' where
 lib := by
  have := h.lo.trans (hk.below h1 h2)
  rw [hB] at this
  exact hE.keep this
 lo := h.lo.trans (hk.below h1 h2)
 box := hk.cell h.box h.bl.1 h.bl.2.1
 bl := h.bl
 key := fun i hi => by
  obtain ⟨nd, hl, ⟨nb, c, k0, k1, k2⟩, hn⟩ := h.key i hi
  have q0 := hk.cell k0 h.bl.2.2.1 h.bl.2.2.2
  refine ⟨nd, hl, ⟨nb, c, q0, hk.cell k1 h.bl.2.2.1 h.bl.2.2.2, hk.own k2 fun g e => ?_⟩, fun nb' c' e => ?_⟩
  ·have := Option.some.inj e
   subst this
   exact ⟨hn _ _ k0, by have h3 : g0 + 1 ≤ nb := (k2.lt nb rfl).1; show nb ≠ g0; omega⟩
  ·rw [q0] at e
   injection e with e
   injection e with e1 e2 e3
   injection e1 with e1
   injection e1 with e1
   subst e1
   exact hn _ _ k0
end Go.Proofs.YtbhigefbihpnlaaGreatDoor
namespace Go.Proofs.YtbhigefbihpnlaaGreatDoor
open Go.RowKit
def rngI (n : Nat) : List Int := (List.range n).map Int.ofNat
theorem rngI_len (n : Nat) : (rngI n).length = n := by simp [rngI]
theorem rngI_succ (n : Nat) : rngI (n + 1) = rngI n ++ [(n : Int)] := by unfold rngI; rw [List.range_succ, List.map_append]; rfl
theorem rngI_in (n : Nat) : InR n (rngI n) := fun x hx => by
 unfold rngI at hx
 obtain ⟨i, hi, rfl⟩ := List.mem_map.1 hx
 have := List.mem_range.1 hi
 exact ⟨Int.natCast_nonneg _, by show (i : Int) < n; omega⟩
theorem rng_set {n i : Nat} (h : i < n) : (rngI i ++ List.replicate (n - i) 0).set i (i : Int) = rngI (i + 1) ++ List.replicate (n - (i + 1)) 0 := by
 have hl := rngI_len i
 rw [show n - i = (n - (i + 1)) + 1 by omega, List.replicate_succ, List.set_append_right _ _ (by omega), hl, Nat.sub_self, List.set_cons_zero, rngI_succ]
 simp
def KeyL (w : World) (G m i : Nat) (cs : List Value) : Prop := cs.length = m * 2 ∧ ∀ j, j < i → ∃ nd nb c, LeafT nd ∧ cs[j * 2]? = some (.slice (some ⟨nb, 0, none⟩) 1 c) ∧ cs[j * 2 + 1]? = some (.int .i64 0) ∧ w.ownsRow G 60 5 (.slice (some ⟨nb, 0, none⟩) 1 c) 1 (kleafC nd)
theorem KeyL.keep {w w' : World} {G m i : Nat} {cs : List Value} (h : KeyL w G m i cs) (hb : Below w.heap.size w w') : KeyL w' G m i cs :=
 ⟨h.1, fun j hj => by
  obtain ⟨nd, nb, c, h1, h2, h3, h4⟩ := h.2 j hj
  exact ⟨nd, nb, c, h1, h2, h3, own_below h4 hb⟩⟩
theorem KeyL.put {w : World} {G m i ks nb c : Nat} {cs us : List Value} {nd : GNode} (h : KeyL w G m i cs) (hi : i < m) (hk : Arr w ks 26 us) (hl : LeafT nd) (ho : w.ownsRow G 60 5 (.slice (some ⟨nb, 0, none⟩) 1 c) 1 (kleafC nd)) :
  KeyL ((w.setCell ⟨ks, i * 2, none⟩ (.slice (some ⟨nb, 0, none⟩) 1 c)).setCell ⟨ks, i * 2 + 1, none⟩ (.int .i64 0)) G m (i + 1) ((cs.set (i * 2) (.slice (some ⟨nb, 0, none⟩) 1 c)).set (i * 2 + 1) (.int .i64 0)) := by
 have hlen := h.1
 have far : ∀ {v : Value} {n : Nat} {xs : List Value}, w.ownsRow G 60 5 v n xs → ((w.setCell ⟨ks, i * 2, none⟩ (.slice (some ⟨nb, 0, none⟩) 1 c)).setCell ⟨ks, i * 2 + 1, none⟩ (.int .i64 0)).ownsRow G 60 5 v n xs := fun ho => by
  have hn := own_arr ho hk (by decide)
  exact own_far (p := ⟨ks, i * 2 + 1, none⟩) (own_far (p := ⟨ks, i * 2, none⟩) ho hn _) hn _
 refine ⟨by rw [List.length_set, List.length_set]; exact hlen, fun j hj => ?_⟩
 by_cases e : j = i
 ·subst e
  refine ⟨nd, nb, c, hl, ?_, ?_, far ho⟩
  ·rw [List.getElem?_set_ne (by omega), List.getElem?_set_self (by omega)]
  ·rw [List.getElem?_set_self (by rw [List.length_set]; omega)]
 ·obtain ⟨nd', nb', c', h1, h2, h3, h4⟩ := h.2 j (by omega)
  refine ⟨nd', nb', c', h1, ?_, ?_, far h4⟩
  ·rw [List.getElem?_set_ne (by omega), List.getElem?_set_ne (by omega)]; exact h2
  ·rw [List.getElem?_set_ne (by omega), List.getElem?_set_ne (by omega)]; exact h3
end Go.Proofs.YtbhigefbihpnlaaGreatDoor
namespace Go.Proofs.YtbhigefbihpnlaaGreatDoor
open Go.RowKit
def keyT (nodes : List GNode) (nd : GNode) (a : Int) : List Nat := (ndAt nodes (nd.keys.getD a.toNat 0).toNat).text
def cmpK (nodes : List GNode) (nd : GNode) (a b : Int) : Int := sclV (mks (keyT nodes nd a)) (mks (keyT nodes nd b))
def entV (nodes : List GNode) (k : Nat) : List Int :=
 if (ndAt nodes k).kind = 10 ∧ (ndAt nodes k).ord = false then insS (fun a b => decide (cmpK nodes (ndAt nodes k) a b < 0)) (rngI (ndAt nodes k).items.length) else rngI (ndAt nodes k).items.length
structure EntOK (nodes : List GNode) (nd : GNode) : Prop where
 len : nd.keys.length = nd.items.length
 few : nd.items.length ≤ 12
 key : 1 < nd.items.length → ∀ x ∈ nd.keys, 0 ≤ x ∧ TextN nodes x.toNat
 ne : ∀ a b : Nat, a < nd.items.length → b < nd.items.length → a ≠ b → cmpK nodes nd (a : Int) (b : Int) ≠ 0
theorem entV_len (nodes : List GNode) (k : Nat) : (entV nodes k).length = (ndAt nodes k).items.length := by
 unfold entV
 split
 ·rw [insS_len, rngI_len]
 ·rw [rngI_len]
theorem entV_in (nodes : List GNode) (k : Nat) : InR (ndAt nodes k).items.length (entV nodes k) := by
 unfold entV
 split
 ·exact fun x hx => rngI_in _ x (insS_mem _ _ x hx)
 ·exact rngI_in _
theorem rngI_nodup (n : Nat) : (rngI n).Nodup := by
 unfold rngI
 exact List.Pairwise.map _ (fun a b h e => h (Int.ofNat.inj e)) List.nodup_range
structure TabN (w : World) (tb sb g o c n : Nat) (root : Int) (es : List Value) : Prop where
 tab : Arr w tb 125 [.slice (some ⟨g, o, none⟩) n c, .int .i64 root, .slice (some ⟨sb, 0, none⟩) n n]
 srt : Arr w sb 44 es
theorem TabN.keep {w w' : World} {tb sb g o c n : Nat} {root : Int} {es : List Value} (h : TabN w tb sb g o c n root es) (hb : Below w.heap.size w w') : TabN w' tb sb g o c n root es := ⟨h.tab.keep hb, h.srt.keep hb⟩
set_option maxRecDepth 20000 in
set_option maxHeartbeats 8000000 in
theorem centries1_any {B g o c tb x y k a b n : Nat} {nodes : List GNode} (hn : nodes.length = n) (hk : k < nodes.length) (hE : EntOK nodes (ndAt nodes k)) (ha : a < (ndAt nodes k).items.length) (hb : b < (ndAt nodes k).items.length) (hab : a ≠ b) (w : World) (hG : GRd w B g o nodes)
  (hx : w.cell? ⟨x, 0, none⟩ = some (.pointer (some ⟨tb, 0, none⟩))) (hy : w.cell? ⟨y, 0, none⟩ = some (.pointer (some ⟨g, o + k * 5, none⟩))) (ht : w.cell? ⟨tb, 0, none⟩ = some (.slice (some ⟨g, o, none⟩) n c)) :
  Calls Tryz.prog 50 #[.int .i64 (a : Int), .int .i64 (b : Int), .pointer (some ⟨x, 0, none⟩), .pointer (some ⟨y, 0, none⟩)] w (RetQ (cmpK nodes (ndAt nodes k) (a : Int) (b : Int)) w) := by
 have hne := hE.ne a b ha hb hab
 have hlen := hE.len
 obtain ⟨ka, hka⟩ : ∃ z, (ndAt nodes k).keys[a]? = some z := ⟨_, List.getElem?_eq_getElem (by omega)⟩
 obtain ⟨kb, hkb⟩ : ∃ z, (ndAt nodes k).keys[b]? = some z := ⟨_, List.getElem?_eq_getElem (by omega)⟩
 have h1L : 1 < (ndAt nodes k).items.length := by omega
 obtain ⟨qa, ta⟩ := hE.key h1L ka (List.mem_of_getElem? hka)
 obtain ⟨qb, tb'⟩ := hE.key h1L kb (List.mem_of_getElem? hkb)
 obtain ⟨ia, rfl⟩ : ∃ z : Nat, ka = (z : Int) := ⟨ka.toNat, by omega⟩
 obtain ⟨ib, rfl⟩ : ∃ z : Nat, kb = (z : Int) := ⟨kb.toNat, by omega⟩
 rw [Int.toNat_natCast] at ta tb'
 have eab : cmpK nodes (ndAt nodes k) (a : Int) (b : Int) = sclV (mks (ndAt nodes ia).text) (mks (ndAt nodes ib).text) := by
  unfold cmpK keyT
  rw [Int.toNat_natCast, Int.toNat_natCast, List.getD_eq_getElem?_getD, List.getD_eq_getElem?_getD, hka, hkb]
  rfl
 rw [eab] at hne ⊢
 have ht' := ht
 rw [← hn] at ht'
 have D := Lib.hid (fun m => ccompare_ne (ca := c) (cb := c) (ta := tb) (tb := tb) ta tb' (w.drewN m) (hG.below (Below.drewN' (Below.refl _ _) m) hG.2.1) (hG.below (Below.drewN' (Below.refl _ _) m) hG.2.1) (drw_cell m ht') (drw_cell m ht') hne)
 obtain ⟨K, ck, I, ci, _, _, _, c3, _, ⟨hK, _⟩, _⟩ := hG.of_at hk
 obtain ⟨ad, rfl, hca⟩ := hK.at_ (I64_get hka)
 obtain ⟨ad', had', hcb⟩ := hK.at_ (I64_get hkb)
 obtain rfl := Option.some.inj had'
 obtain ⟨lk, hlk⟩ : ∃ z, (ndAt nodes k).keys.length = z := ⟨_, rfl⟩
 rw [hlk] at c3
 have a0 : (0 : Int) ≤ a := by omega
 have a1 : (a : Int) < lk := by omega
 have b0 : (0 : Int) ≤ b := by omega
 have b1 : (b : Int) < lk := by omega
 generalize sclV (mks (ndAt nodes ia).text) (mks (ndAt nodes ib).text) = r at *
 clear hG hK hka hkb hlk eab hE hne hlen ha hb hab ht' had' hn hk ta tb'
 go_enter Tryz.func50, Tryz.ntmps50
 go_upto_region 1 with (fail)
 go_quiet (((go_at_call 51; exact Calls.quiet_of (D.out _))))
 go_wp2_with (fail)
 go_ret
 exact ⟨rfl, nq, rfl⟩
def EntS (w6 : World) (ob m : Nat) (l : List Int) (W : World) : Prop := w6.grownBy W (some ob) ∧ Arr W ob 3 (I64 l) ∧ l.Nodup ∧ InR m l ∧ l.length = m
theorem EntS.swap {w6 W : World} {ob m : Nat} {l : List Int} {j : Nat} (h : EntS w6 ob m l W) (hj : j + 1 < m) : EntS w6 ob m (swp l j) ((W.setCell ⟨ob, j + 1, none⟩ (.int .i64 (l.getD j 0))).setCell ⟨ob, j, none⟩ (.int .i64 (l.getD (j + 1) 0))) := by
 obtain ⟨h1, h2, h3, h4, h5⟩ := h
 refine ⟨grown_trans (grown_trans h1 (grown_set W ⟨ob, j + 1, none⟩ _)) (grown_set _ ⟨ob, j, none⟩ _), ?_, swp_nodup (by omega) h3, fun x hx => h4 x (swp_mem (by omega) hx), by rw [swp_len]; exact h5⟩
 have h := (h2.store (j + 1) (.int .i64 (l.getD j 0))).store j (.int .i64 (l.getD (j + 1) 0))
 rw [I64_set, I64_set] at h
 exact h
def EntR (w : World) (sb : Nat) (nodes : List GNode) (k : Nat) (es : List Value) (e : Ending) (w' : World) : Prop :=
 ∃ ob, e = .returned (.slice (some ⟨ob, 0, none⟩) (ndAt nodes k).items.length (ndAt nodes k).items.length) ∧ w.heap.size ≤ ob ∧ ob < w'.heap.size ∧ Hid (w.grownBy w' (some sb)) ∧ Hid (Arr w' sb 44 (es.set k (.slice (some ⟨ob, 0, none⟩) (ndAt nodes k).items.length (ndAt nodes k).items.length))) ∧ Hid (Rd w' (some ⟨ob, 0, none⟩) (I64 (entV nodes k)))
set_option maxRecDepth 20000 in
set_option maxHeartbeats 16000000 in
theorem centries_any {B g o c tb sb k : Nat} {nodes : List GNode} {root : Int} {es : List Value} (hL : NL 65536 nodes) (hk : k < nodes.length) (hE : (ndAt nodes k).kind = 10 → (ndAt nodes k).ord = false → EntOK nodes (ndAt nodes k)) (w : World) (hG : GRd w B g o nodes) (hT : TabN w tb sb g o c nodes.length root es) (hes : es[k]? = some (.slice none 0 0)) (hB : B ≤ sb) :
  Calls Tryz.prog 34 #[.pointer (some ⟨tb, 0, none⟩), .int .i64 (k : Int)] w (EntR w sb nodes k es) := by
 have h1 : Hid (Arr (w.alloc (.cells #[.pointer (some ⟨tb, 0, none⟩)] 92)) w.heap.size 92 [.pointer (some ⟨tb, 0, none⟩)]) := Arr.new w _ _
 have hB1 : Hid (Below w.heap.size w (w.alloc (.cells #[.pointer (some ⟨tb, 0, none⟩)] 92))) := (Below.refl _ _).alloc (Nat.le_refl _) _
 have HG := Lib.hid hG
 have HT := Lib.hid (hT.keep hB1.out)
 have htl := hT.tab.lt
 have hsl := hT.srt.lt
 have hts : tb ≠ sb := Arr.ne hT.tab hT.srt (by decide)
 have HES := Lib.hid hes
 have HE := Lib.hid hE
 have HL := Lib.hid (hL k hk)
 have HNL := Lib.hid hL
 have hmf : ∀ (fn : Fn) (first cap : Array Value) (w : World), (Instr.makeFunc fn first cap).run Tryz.prog w = .ok (.func fn first cap) w := fun _ _ _ _ => rfl
 have k0 : (0 : Int) ≤ k := by omega
 have k1 : (k : Int) < nodes.length := by omega
 clear hG hT hes hE hL
 go_enter Tryz.func34, Tryz.ntmps34
 go_upto_region 1 with (fail)
 generalize w.alloc (.cells #[.pointer (some ⟨tb, 0, none⟩)] 92) = W at *
 obtain ⟨pb, hpb⟩ : ∃ b, w.heap.size = b := ⟨_, rfl⟩
 rw [hpb] at h1 hB1 htl hsl
 have HPB := Lib.hid hpb
 rw [hpb]
 clear hpb
 obtain ⟨n, hn⟩ : ∃ n, nodes.length = n := ⟨_, rfl⟩
 rw [hn] at HT k1 hk
 have HN := Lib.hid hn
 clear hn
 have hGW := Lib.hid (HG.out.below hB1.out (by have := HG.out.2.1; have := HPB.out; omega))
 have x0 := h1.out.cell' (i := 0) rfl
 have t0 := HT.out.tab.cell' (i := 0) rfl
 have t2 := HT.out.tab.cell' (i := 2) rfl
 have s0 := HT.out.srt.cell' HES.out
 have hn5 : Hid (Arr (W.alloc (.cells #[.pointer (some ⟨g, o + k * 5, none⟩)] 95)) W.heap.size 95 [.pointer (some ⟨g, o + k * 5, none⟩)]) := Arr.new W _ _
 have hb5 : Hid (Below W.heap.size W (W.alloc (.cells #[.pointer (some ⟨g, o + k * 5, none⟩)] 95))) := (Below.refl _ _).alloc (Nat.le_refl _) _
 go_upto_region 2 with (fail)
 clear x0 t0
 generalize (W.alloc (.cells #[.pointer (some ⟨g, o + k * 5, none⟩)] 95)) = w5 at *
 obtain ⟨qb, hqb⟩ : ∃ b, W.heap.size = b := ⟨_, rfl⟩
 have hs1 := hB1.out.size
 have hpl := h1.out.lt
 rw [hqb] at hn5 hpl ⊢
 have HP5 := Lib.hid (h1.out.keep hb5.out)
 have HT5 := Lib.hid (HT.out.keep hb5.out)
 have hG5 := Lib.hid (hGW.out.below hb5.out (by exact hGW.out.2.1))
 have hB5 : Hid (Below w.heap.size w w5) := by have h := hB1.out; rw [← HPB.out] at h; exact h.trans (hb5.out.mono h.size)
 have hql := hn5.out.lt
 clear hqb t2 s0 h1 hB1 HT hGW hb5 hs1
 obtain ⟨K, ck, I, ci, c0, c1, c2, c3, c4, _, _⟩ := hG5.out.of_at (i := k) (by rw [HN.out]; exact hk)
 obtain ⟨m, hm⟩ : ∃ m, (ndAt nodes k).items.length = m := ⟨_, rfl⟩
 have HM := Lib.hid hm
 rw [hm] at c4
 have hml : m ≤ 65536 := by have := HL.out.2; omega
 clear hm
 have x0 := HP5.out.cell' (i := 0) rfl
 have n0 := hn5.out.cell' (i := 0) rfl
 have t2 := HT5.out.tab.cell' (i := 2) rfl
 have s0 := HT5.out.srt.cell' HES.out
 go_upto_region 5 with (at_make; go_loud (refine wpList_mk rfl _ _ 44 rfl 3 _ _ Tryz.underlying44 infoInt rfl _ _ _ _ rfl rfl m m (by omega) (by omega) (by omega) (by omega) (by unfold maxLen; omega) ?_; intro ob w6 hob hO hb6 hz6))
 have hOz : Hid (Arr w6 ob 3 (I64 (rngI 0 ++ List.replicate (m - 0) 0))) := by rw [Nat.sub_zero]; show Hid (Arr w6 ob 3 (I64 (List.replicate m 0))); rw [← I64_rep]; exact hO
 have hB6 := Lib.hid (hB5.out.trans (hb6.mono hB5.out.size))
 have HP6 := Lib.hid (HP5.out.keep hb6)
 have HN6 := Lib.hid (hn5.out.keep hb6)
 have HT6 := Lib.hid (HT5.out.keep hb6)
 have hG6 := Lib.hid (hG5.out.below hb6 hG5.out.2.1)
 have lo : qb < ob := by have := hob.out; omega
 have lsb : sb < ob := by omega
 have ltb : tb < ob := by omega
 have lpb : pb < ob := by omega
 have lgB : B ≤ ob := by omega
 have hwo : w.heap.size ≤ ob := by have := hB5.out.size; have := hob.out; omega
 clear x0 n0 t2 s0 c0 c1 c2 c3 c4 hob hO hb6 hz6 HP5 hn5 HT5 hG5 hB5
 go_upto_region 6 with (fail)
 go_loopw [38] (fun v wr => ∃ (i : Nat), i ≤ m ∧ v = .int .i64 (i : Int) ∧ Hid (Arr wr ob 3 (I64 (rngI i ++ List.replicate (m - i) 0))) ∧ Hid (w6.grownBy wr (some ob))) (fun v _ => m - (intOf v).toNat)
 case atStart => exact ⟨0, Nat.zero_le _, rfl, hOz, World.grownBy.refl _ _⟩
 case round =>
  obtain ⟨i, hi, rfl, hLr, hgr⟩ := hrel
  by_cases him : i = m
  ·have hi' : ¬ (i : Int) < m := by omega
   have hL7 : Hid (Arr wr ob 3 (I64 (rngI m))) := by
    have := hLr.out
    rw [him, Nat.sub_self, List.replicate_zero, List.append_nil] at this
    exact this
   obtain ⟨w7, hw7⟩ : ∃ x : World, x = wr := ⟨_, rfl⟩
   subst hw7
   have HP7 := Lib.hid (HP6.out.grown hgr.out (some_ne (by omega)))
   have HN7 := Lib.hid (HN6.out.grown hgr.out (some_ne (by omega)))
   have HTt7 := Lib.hid (HT6.out.tab.grown hgr.out (some_ne (by omega)))
   have HTs7 := Lib.hid (HT6.out.srt.grown hgr.out (some_ne (by omega)))
   have hG7 := Lib.hid (hG6.out.grown hgr.out lgB)
   have hwq : Hid (w.grownBy w7 (some sb)) := by
    have h : w.grownBy w6 (some sb) := ⟨hB6.out.os, hB6.out.tape, hB6.out.output, hB6.out.size, fun j hj _ => hB6.out.block j hj⟩
    exact ⟨hgr.out.os.trans h.os, hgr.out.tape.trans h.tape, hgr.out.output.trans h.output, Nat.le_trans h.size hgr.out.size, fun j hj hne => (hgr.out.block j (Nat.lt_of_lt_of_le hj h.size) (fun e => by have := Option.some.inj e; omega)).trans (h.block j hj hne)⟩
   have hol : ob < w7.heap.size := hL7.out.lt
   clear hLr hgr him hi hOz HP6 HN6 HT6 hG6 hB6
   obtain ⟨K, ck, I, ci, c0, c1, c2, c3, c4, _, _⟩ := hG7.out.of_at (i := k) (by rw [HN.out]; exact hk)
   have x0 := HP7.out.cell' (i := 0) rfl
   have n0 := HN7.out.cell' (i := 0) rfl
   have t0 := HTt7.out.cell' (i := 0) rfl
   have t2 := HTt7.out.cell' (i := 2) rfl
   have s0 := HTs7.out.cell' HES.out
   have sf := HTs7.out.frozen k
   clear c1 c3 c4
   by_cases hkd : (ndAt nodes k).kind = 10 ∧ (ndAt nodes k).ord = false
   ·obtain ⟨hkd, hod⟩ := hkd
    have hEO := HE.out hkd hod
    have hV : Hid (entV nodes k = insS (fun a b => decide (cmpK nodes (ndAt nodes k) a b < 0)) (rngI m)) := by show _ = _; unfold entV; rw [if_pos ⟨hkd, hod⟩, HM.out]
    have hSort : SortS ob m 50 pb qb (cmpK nodes (ndAt nodes k)) (EntS w7 ob m) := {
     len := fun l W h => h.2.2.2.2
     cell := fun l W i h hi => ⟨h.2.1.cell' (I64_getD (by have := h.2.2.2.2; omega)), h.2.1.frozen i⟩
     swap := fun l W j h hj => h.swap hj
     drew := fun l W q h => ⟨⟨h.1.os, h.1.tape, h.1.output, h.1.size, h.1.block⟩, h.2.1, h.2.2⟩
     cmp := fun l W j h hj => by
      obtain ⟨g1, g2, g3, g4, g5⟩ := h
      obtain ⟨a, ha, ham⟩ := InR_get g4 (k := j + 1) (by omega)
      obtain ⟨b, hb, hbm⟩ := InR_get g4 (k := j) (by omega)
      have ea : l.getD (j + 1) 0 = (a : Int) := by rw [List.getD_eq_getElem?_getD, ha]; rfl
      have eb : l.getD j 0 = (b : Int) := by rw [List.getD_eq_getElem?_getD, hb]; rfl
      have hab : a ≠ b := by
       rintro rfl
       have h1 := (List.getElem?_inj (i := j + 1) (j := j) (by omega) g3).1 (ha.trans hb.symm)
       omega
      rw [ea, eb]
      refine (centries1_any (k := k) (n := n) (c := c) (tb := tb) HN.out (by rw [HN.out]; exact hk) hEO (by rw [HM.out]; exact ham) (by rw [HM.out]; exact hbm) hab W (hG7.out.grown g1 lgB) ((HP7.out.grown g1 (some_ne (by omega))).cell' (i := 0) rfl) ((HN7.out.grown g1 (some_ne (by omega))).cell' (i := 0) rfl) ((HTt7.out.grown g1 (some_ne (by omega))).cell' (i := 0) rfl)).mono ?_
      rintro e w' ⟨rfl, q, rfl⟩
      exact ⟨rfl, ⟨g1.os, g1.tape, g1.output, g1.size, g1.block⟩, g2, g3, g4, g5⟩ }
    have D := Lib.hid (sortf_e (c := m) hSort (by have := hEO.few; have := HM.out; omega) (rngI m) w7 ⟨World.grownBy.refl _ _, hL7.out, rngI_nodup m, rngI_in m, rngI_len m⟩)
    rw [← hV.out] at D
    rw [hkd] at c0
    rw [hod] at c2
    clear hV hSort hEO hkd hod t0
    go_upto_region 12 with (go_at_call 49; ((with_reducible refine D.out.mono ?_)); rintro e w8 ⟨rfl, g1, g2, g3, g4, g5⟩)
    have HP8 := Lib.hid (HP7.out.grown g1 (some_ne (by omega)))
    have HTt8 := Lib.hid (HTt7.out.grown g1 (some_ne (by omega)))
    have HTs8 := Lib.hid (HTs7.out.grown g1 (some_ne (by omega)))
    have hw8 : Hid (w.grownBy w8 (some sb)) := ⟨g1.os.trans hwq.out.os, g1.tape.trans hwq.out.tape, g1.output.trans hwq.out.output, Nat.le_trans hwq.out.size g1.size, fun j hj hne => (g1.block j (Nat.lt_of_lt_of_le hj hwq.out.size) (fun e => by have := Option.some.inj e; omega)).trans (hwq.out.block j hj hne)⟩
    have hA8 := Lib.hid g2
    clear x0 n0 t2 s0 sf c0 c2 g1 g2 g3 g4 g5 HP7 HTt7 HTs7 hwq hL7 D hG7 HN7
    have x0 := HP8.out.cell' (i := 0) rfl
    have t2 := HTt8.out.cell' (i := 2) rfl
    have s0 := HTs8.out.cell' HES.out
    have sf := HTs8.out.frozen k
    have hF : Hid (EntR w sb nodes k es (.returned (.slice (some ⟨ob, 0, none⟩) m m)) (w8.setCell ⟨sb, k, none⟩ (.slice (some ⟨ob, 0, none⟩) m m))) := by
     have h := HM.out
     unfold EntR
     rw [h]
     exact ⟨ob, rfl, hwo, by simp [World.setCell]; exact hA8.out.lt, grown_trans hw8.out (grown_set w8 ⟨sb, k, none⟩ _), HTs8.out.store k _, (hA8.out.far (p := ⟨sb, k, none⟩) (show ob ≠ sb by omega) _).rd⟩
    clear HTs8 HTt8 HP8 hA8 hw8
    go_wp2_with (fail)
    go_ret
    exact hF.out
   ·have hV : Hid (entV nodes k = rngI m) := by show _ = _; unfold entV; rw [if_neg hkd, HM.out]
    have hF : Hid (EntR w sb nodes k es (.returned (.slice (some ⟨ob, 0, none⟩) m m)) (w7.setCell ⟨sb, k, none⟩ (.slice (some ⟨ob, 0, none⟩) m m))) := by
     have h := HM.out
     unfold EntR
     rw [h, hV.out]
     exact ⟨ob, rfl, hwo, by simp [World.setCell]; exact hol, grown_trans hwq.out (grown_set w7 ⟨sb, k, none⟩ _), HTs7.out.store k _, (hL7.out.far (p := ⟨sb, k, none⟩) (show ob ≠ sb by omega) _).rd⟩
    clear hV HTs7 HTt7 HP7 hwq hL7 hG7 HN7 t0
    by_cases hk10 : (ndAt nodes k).kind = 10
    ·have hod : (ndAt nodes k).ord = true := by
      cases ho : (ndAt nodes k).ord with
      | true => rfl
      | false => exact absurd ⟨hk10, ho⟩ hkd
     rw [hk10] at c0
     rw [hod] at c2
     clear hkd hk10 hod
     go_wp2_with (fail)
     go_ret
     exact hF.out
    ·have hk2 : ((ndAt nodes k).kind == 10) = false := by simpa using hk10
     clear hkd hk10
     go_wp2_with (fail)
     go_ret
     exact hF.out
  ·have hi' : (i : Int) < m := by omega
   have i0 : (0 : Int) ≤ i := by omega
   have p0 : wr.cell? ⟨ob, i, none⟩ = some (.int .i64 0) := hLr.out.cell' (i := i) (by
    unfold I64
    rw [List.getElem?_map, List.getElem?_append_right (by rw [rngI_len]; exact Nat.le_refl _), rngI_len, Nat.sub_self, List.getElem?_replicate, if_pos (by omega)]; rfl)
   have pf := hLr.out.frozen i
   have hL5 : Hid (Arr (wr.setCell ⟨ob, i, none⟩ (.int .i64 (i : Int))) ob 3 (I64 (rngI (i + 1) ++ List.replicate (m - (i + 1)) 0))) := by
    have h := hLr.out.store i (.int .i64 (i : Int))
    rw [I64_set, rng_set (by omega)] at h
    exact h
   have hg5 := Lib.hid (grown_trans hgr.out (grown_set wr ⟨ob, i, none⟩ (.int .i64 (i : Int))))
   clear hLr hgr
   go_wp2_with (fail)
   go_roundw
   case rel => exact ⟨i + 1, by omega, i64e (by omega), hL5, hg5⟩
   case measure => simp [intOf]; omega
end Go.Proofs.YtbhigefbihpnlaaGreatDoor
namespace Go.Proofs.YtbhigefbihpnlaaGreatDoor
open Go.RowKit
structure NSt where
 at_ : List Int
 cnt : Nat
 out : List GNode
def loopN (v : Int → NSt → Option (Int × NSt)) (nd : GNode) : List Int → List Int × List Int × NSt → Option (List Int × List Int × NSt)
 | [], x => some x
 | k :: r, (ks, is, s) =>
  match (if nd.kind = 10 then (v (nd.keys.getD k.toNat 0) s).map (fun p => (ks ++ [p.1], p.2)) else some (ks, s)) with
  | none => none
  | some (ks', s') => match v (nd.items.getD k.toNat 0) s' with
   | none => none
   | some (i, s'') => loopN v nd r (ks', is ++ [i], s'')
def visitN (nodes : List GNode) (ent : Nat → List Int) : Nat → Int → NSt → Option (Int × NSt)
 | 0, _, _ => none
 | f + 1, k, s =>
  if 0 ≤ s.at_.getD k.toNat 0 then some (s.at_.getD k.toNat 0, s)
  else match loopN (visitN nodes ent f) (ndAt nodes k.toNat) (ent k.toNat) ([], [], { s with at_ := s.at_.set k.toNat s.cnt, cnt := s.cnt + 1 }) with
   | none => none
   | some (ks, is, s') => some ((s.cnt : Int), { s' with out := s'.out.set s.cnt ⟨(ndAt nodes k.toNat).kind, (ndAt nodes k.toNat).text, (ndAt nodes k.toNat).ord, ks, is⟩ })
def nd0 : GNode := ⟨0, [], false, [], []⟩
end Go.Proofs.YtbhigefbihpnlaaGreatDoor
namespace Go.Proofs.YtbhigefbihpnlaaGreatDoor
open Go.RowKit
end Go.Proofs.YtbhigefbihpnlaaGreatDoor
