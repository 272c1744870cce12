/- The plain law of the widths: the document. -/
import Derived.Test.YtbhigefbihpnlaaGreatDoorMBm
import Derived.Test.YtbhigefbihpnlaaGreatDoorMBj
import Derived.Test.YtbhigefbihpnlaaGreatDoorMAo
import Derived.Test.YtbhigefbihpnlaaGreatDoorShelf
import Derived.Deep.QuietTactic
import Derived.BigQuiet
import Derived.Test.YtbhigefbihpnlaaGreatDoorMBa
import Derived.Maps.OwnSet
import Derived.DeepKeys4
import Derived.Test.YtbhigefbihpnlaaGreatDoorMAa
import Derived.Test.YtbhigefbihpnlaaGreatDoorMAh
import Derived.Test.YtbhigefbihpnlaaGreatDoorProg
import Derived.Deep.RegionHeld3
import Derived.IntWalk
set_option linter.unusedVariables false
set_option linter.unusedSimpArgs false
set_option linter.defProp false
set_option linter.constructorNameAsVariable false
namespace Go.Proofs.YtbhigefbihpnlaaGreatDoor
open Go.RowKit
theorem list_item {s : List Nat} {h x : CH} {n k i i1 i2 f : Nat} {N : List GNode} {sps : List JSpan} {y : GNode} {L : GNode} {R : List GNode} (hN : N = L :: R) (hc : h.info = 31 ∨ k < h.arg) (h4 : h.major = 4) (hx : hdC s i = .ok (x, i1)) (x4 : x.major ≠ 4) (x5 : x.major ≠ 5) (x6 : x.major ≠ 6) (x7 : x.major ≠ 7)
  (hy : scalarC s x i1 = .ok (y, i2)) (k9 : y.kind ≠ 9) (k10 : y.kind ≠ 10) (hn : N.length < 4096) (hnn : N.length = n) :
  ∃ sps', contentC s (f + 3) h 0 0 1 k ⟨i, N, sps, [], []⟩ = contentC s (f + 2) h 0 0 1 (k + 1) ⟨i2, { L with items := L.items ++ [(n : Int)] } :: (R ++ [y]), sps', [], []⟩ := by
 subst hN hnn
 obtain ⟨sps', hv⟩ := scal_ok (s := s) (f := f) (depth := 1) (h := x) (x := y) (i := i1) (i1 := i2) (N := L :: R) (sps := sps) (sh := []) (mk := []) ⟨0, ((0 : Nat) : Int), (k : Int), 0, 0, 0, 0, false, false⟩ hy x6 x4 x5 k9 k10 (by decide) hn
 refine ⟨sps', ?_⟩
 have xe : x.ends = false := by unfold CH.ends; simp [x7]
 rw [item_ok (f := f + 2) (st := ⟨i, L :: R, sps, [], []⟩) hc hx (by rw [xe]; simp) (by rw [h4]; decide) hv]
 rfl
theorem doc_ok {s : List Nat} {h0 x1 x2 x3 x4 x5 : CH} {m i0 i1 i2 i3 i4 i5 i6 i7 i8 i9 : Nat} {t : List Nat}
  (e0 : hdC s 0 = .ok (h0, i0)) (h4 : h0.major = 4) (c0 : h0.info = 31 ∨ (h0.info ≠ 31 ∧ h0.arg = 4))
  (e1 : hdC s i0 = .ok (x1, i1)) (m1 : x1.major = 0) (a1 : x1.arg = m) (e2 : hdC s i1 = .ok (x2, i2)) (m2 : x2.major = 1) (a2 : x2.arg = m)
  (e3 : hdC s i2 = .ok (x3, i3)) (m3 : x3.major = 2) (sc3 : scalarC s x3 i3 = .ok (⟨6, t, false, [], []⟩, i4))
  (e4 : hdC s i4 = .ok (x4, i5)) (m4 : x4.major = 5) (c4 : x4.info = 31 ∨ (x4.info ≠ 31 ∧ x4.arg = 1))
  (e5 : hdC s i5 = .ok (x5, i6)) (m5 : x5.major = 0) (a5 : x5.arg = m) (e6 : hdC s i6 = .ok (⟨i6, 7, 22, 22⟩, i7))
  (e7 : (x4.info = 31 → ∃ y, hdC s i7 = .ok (y, i8) ∧ y.ends = true) ∧ (x4.info ≠ 31 → i8 = i7))
  (e8 : (h0.info = 31 → ∃ y, hdC s i8 = .ok (y, i9) ∧ y.ends = true) ∧ (h0.info ≠ 31 → i9 = i8)) (he : i9 = s.length) :
  ∃ sps, sourceC 40 s = .ok (nodesW m t, sps) := by
 have t0 : ∀ n, h0.tag n = false := fun n => by unfold CH.tag; simp [h4]
 have t4 : ∀ n, x4.tag n = false := fun n => by unfold CH.tag; simp [m4]
 have hc : ∀ k, k < 4 → h0.info = 31 ∨ k < h0.arg := fun k hk => by rcases c0 with e | ⟨_, e⟩; exact .inl e; right; omega
 have s1 : scalarC s x1 i1 = .ok (intW false m, i1) := by rw [int_ok (by omega)]; unfold intC intW; rw [m1, a1]; rfl
 have s2 : scalarC s x2 i2 = .ok (intW true (m + 1), i2) := by rw [int_ok (by omega)]; unfold intC intW; rw [m2, a2]; rfl
 obtain ⟨p1, q1⟩ := list_item (n := 1) (f := 35) (k := 0) (N := [⟨9, [], false, [], []⟩]) (sps := [⟨0, -1, 0, h0.at_, 0, 0, 0, false, true⟩]) rfl (hc 0 (by decide)) h4 e1 (by omega) (by omega) (by omega) (by omega) s1 (by show (2 : Int) ≠ 9; decide) (by show (2 : Int) ≠ 10; decide) (by simp) rfl
 obtain ⟨p2, q2⟩ := list_item (n := 2) (f := 34) (k := 1) (N := [⟨9, [], false, [], [1]⟩, intW false m]) (sps := p1) rfl (hc 1 (by decide)) h4 e2 (by omega) (by omega) (by omega) (by omega) s2 (by show (2 : Int) ≠ 9; decide) (by show (2 : Int) ≠ 10; decide) (by simp) rfl
 obtain ⟨p3, q3⟩ := list_item (n := 3) (f := 33) (k := 2) (N := [⟨9, [], false, [], [1, 2]⟩, intW false m, intW true (m + 1)]) (sps := p2) rfl (hc 2 (by decide)) h4 e3 (by omega) (by omega) (by omega) (by omega) sc3 (by show (6 : Int) ≠ 9; decide) (by show (6 : Int) ≠ 10; decide) (by simp) rfl
 -- the map
 obtain ⟨p4, q4⟩ := map_ok (s := s) (h := x4) (x := x5) (m := m) (i := i5) (i1 := i6) (i2 := i7) (i3 := i8) (f := 28) (span := p3.length) (N := [⟨9, [], false, [], [1, 2, 3]⟩, intW false m, intW true (m + 1), ⟨6, t, false, [], []⟩]) (sps := p3 ++ [⟨0, ((0 : Nat) : Int), ((3 : Nat) : Int), x4.at_, 0, 0, 0, false, true⟩]) (sh := []) (mk := []) (M := ⟨10, [], false, [], []⟩) rfl rfl m4 c4 e5 m5 a5 e6 e7
 have hv : valueC s 34 x4 ⟨0, ((0 : Nat) : Int), ((3 : Nat) : Int), 0, 0, 0, 0, false, false⟩ 1 ⟨i5, [⟨9, [], false, [], [1, 2, 3]⟩, intW false m, intW true (m + 1), ⟨6, t, false, [], []⟩], p3, [], []⟩ = .ok (4, ⟨i8, [⟨9, [], false, [], [1, 2, 3]⟩, intW false m, intW true (m + 1), ⟨6, t, false, [], []⟩, ⟨10, [], false, [5], [6]⟩, intW false m, nullN], p4.modify p3.length fun y => { y with node := 4, to_ := (i8 : Int) }, [], []⟩) := by
  unfold valueC
  simp only [t4, CR.bind, Bool.false_and, Bool.false_eq_true, if_false]
  unfold defineC
  simp only [m4, t4, CR.bind, addC]
  simp
  rw [show ((0 : Nat) : Int) = 0 from rfl, show ((3 : Nat) : Int) = 3 from rfl] at q4
  simp at q4
  rw [q4]
 have he4 : x4.ends = false := by unfold CH.ends; simp [m4]
 have q5 := item_ok (f := 34) (n := 0) (span := 0) (depth := 1) (k := 3) (h := h0) (st := ⟨i4, [⟨9, [], false, [], [1, 2, 3]⟩, intW false m, intW true (m + 1), ⟨6, t, false, [], []⟩], p3, [], []⟩) (hc 3 (by decide)) e4 (by rw [he4]; simp) (by rw [h4]; decide) hv
 have q6 : ∃ p, contentC s 34 h0 0 0 1 4 ⟨i8, nodesW m t, p4.modify p3.length fun y => { y with node := 4, to_ := (i8 : Int) }, [], []⟩ = .ok ⟨i9, nodesW m t, p, [], []⟩ := by
  refine ⟨p4.modify p3.length fun y => { y with node := 4, to_ := (i8 : Int) }, ?_⟩
  rcases c0 with e | ⟨e, a⟩
  ·obtain ⟨y, hy, hye⟩ := e8.1 e
   rw [items_break e hy hye]
  ·rw [items_end e (by rw [a]; decide), e8.2 e]
 obtain ⟨p, q6⟩ := q6
 have q7 : contentC s 38 h0 0 0 1 0 ⟨i0, [⟨9, [], false, [], []⟩], [⟨0, -1, 0, h0.at_, 0, 0, 0, false, true⟩], [], []⟩ = .ok ⟨i9, nodesW m t, p, [], []⟩ := by
  rw [q1]
  show contentC s 37 h0 0 0 1 1 ⟨i1, [⟨9, [], false, [], [1]⟩, intW false m], p1, [], []⟩ = _
  rw [q2]
  show contentC s 36 h0 0 0 1 2 ⟨i2, [⟨9, [], false, [], [1, 2]⟩, intW false m, intW true (m + 1)], p2, [], []⟩ = _
  rw [q3]
  show contentC s (34 + 1) h0 0 0 1 3 ⟨i4, [⟨9, [], false, [], [1, 2, 3]⟩, intW false m, intW true (m + 1), ⟨6, t, false, [], []⟩], p3, [], []⟩ = _
  rw [q5]
  exact q6
 refine ⟨wholeC [] (p.modify 0 fun y => { y with node := 0, to_ := (i9 : Int) }), ?_⟩
 unfold sourceC
 simp only [e0, CR.bind]
 unfold valueC
 simp only [t0, CR.bind, Bool.false_and, Bool.false_eq_true, if_false]
 unfold defineC
 simp only [h4, t0, CR.bind, addC]
 simp
 rw [q7]
 simp [he]
def aV (m : Nat) (t : List Nat) : List Nat := startV 4 4 ++ (startV 0 m ++ (startV 1 m ++ (startV 2 t.length ++ (t ++ (startV 5 1 ++ (startV 0 m ++ [246]))))))
def bV (m : Nat) (ps : List (List Nat)) (w : Nat) : List Nat := [159] ++ (wideV 0 m w ++ (wideV 1 m w ++ ([95] ++ (piecesV 0 ps ++ ([255] ++ ([191] ++ (wideV 0 m w ++ ([246] ++ ([255] ++ [255])))))))))
def cV (m : Nat) (t : List Nat) (w : Nat) : List Nat := wideV 4 4 w ++ (wideV 0 m w ++ (wideV 1 m w ++ (wideV 2 t.length (max w 1) ++ (t ++ (wideV 5 1 w ++ (wideV 0 m w ++ [246]))))))
theorem pieces_len : ∀ (ps : List (List Nat)) (k : Nat), ps.length ≤ (piecesV k ps).length := by
 intro ps
 induction ps with
 | nil => intro k; simp
 | cons p ps ih => intro k; have := ih (k + 1); have h2 : 0 < 2 ^ (k % 4) := Nat.two_pow_pos _; simp [piecesV, wideV, len_beV]; omega
theorem a_doc {m : Nat} {t : List Nat} (hm : m < 18446744073709551616) (ht : t.length ≤ 200) : ∃ sps, sourceC 40 (aV m t) = .ok (nodesW m t, sps) := by
 obtain ⟨s, hs⟩ : ∃ s, aV m t = s := ⟨_, rfl⟩
 rw [hs]
 have d0 : s.drop 0 = startV 4 4 ++ (startV 0 m ++ (startV 1 m ++ (startV 2 t.length ++ (t ++ (startV 5 1 ++ (startV 0 m ++ [246])))))) := by rw [← hs]; rfl
 have d1 := drop_more d0
 have d2 := drop_more d1
 have d3 := drop_more d2
 have d4 := drop_more d3
 have d5 := drop_more d4
 have d6 := drop_more d5
 have d7 := drop_more d6
 have hl := len_drop (H := [246]) (r := []) d7 (by decide)
 obtain ⟨u0, l0, k0, _⟩ := hd_start (by decide) d0
 obtain ⟨u1, l1, k1, _⟩ := hd_start hm d1
 obtain ⟨u2, l2, k2, _⟩ := hd_start hm d2
 obtain ⟨u3, l3, k3, _⟩ := hd_start (by omega) d3
 obtain ⟨u5, l5, k5, _⟩ := hd_start (by decide) d5
 obtain ⟨u6, l6, k6, _⟩ := hd_start hm d6
 obtain ⟨k7, _⟩ := hd_one (c := 246) (r := []) (.inl (by decide)) d7
 have sc3 := bytes_def (j := 0 + (startV 4 4).length + (startV 0 m).length + (startV 1 m).length) (info := u3) (by omega) d4 (fun _ => by
  have := len_drop d3 (by unfold startV; split <;> (try split) <;> (try split) <;> (try split) <;> simp [wideV])
  omega)
 exact doc_ok k0 rfl (.inr ⟨by show u0 ≠ 31; omega, rfl⟩) k1 rfl rfl k2 rfl rfl k3 rfl sc3 k5 rfl (.inr ⟨by show u5 ≠ 31; omega, rfl⟩) k6 rfl rfl k7 ⟨fun h => absurd h (by show u5 ≠ 31; omega), fun _ => rfl⟩ ⟨fun h => absurd h (by show u0 ≠ 31; omega), fun _ => rfl⟩ (by rw [hl]; rfl)
theorem c_doc {m w : Nat} {t : List Nat} (hw : w < 4) (hm : m < 256 ^ 2 ^ w) (ht : t.length ≤ 200) : ∃ sps, sourceC 40 (cV m t w) = .ok (nodesW m t, sps) := by
 obtain ⟨s, hs⟩ : ∃ s, cV m t w = s := ⟨_, rfl⟩
 rw [hs]
 have d0 : s.drop 0 = wideV 4 4 w ++ (wideV 0 m w ++ (wideV 1 m w ++ (wideV 2 t.length (max w 1) ++ (t ++ (wideV 5 1 w ++ (wideV 0 m w ++ [246])))))) := by rw [← hs]; rfl
 have d1 := drop_more d0
 have d2 := drop_more d1
 have d3 := drop_more d2
 have d4 := drop_more d3
 have d5 := drop_more d4
 have d6 := drop_more d5
 have d7 := drop_more d6
 have hl := len_drop (H := [246]) (r := []) d7 (by decide)
 have small : ∀ n, n < 256 → ∀ v, n < 256 ^ 2 ^ v := fun n hn v => Nat.lt_of_lt_of_le hn (by
  have h1 : 256 ^ 1 ≤ 256 ^ 2 ^ v := Nat.pow_le_pow_right (by decide) (Nat.one_le_two_pow)
  simpa using h1)
 have k0 := (hd_wide hw (small 4 (by decide) w) d0).1
 have k1 := (hd_wide hw hm d1).1
 have k2 := (hd_wide hw hm d2).1
 have k3 := (hd_wide (by omega) (small _ (by omega) _) d3).1
 have k5 := (hd_wide hw (small 1 (by decide) w) d5).1
 have k6 := (hd_wide hw hm d6).1
 obtain ⟨k7, _⟩ := hd_one (c := 246) (r := []) (.inl (by decide)) d7
 have sc3 := bytes_def (j := 0 + (wideV 4 4 w).length + (wideV 0 m w).length + (wideV 1 m w).length) (info := 24 + max w 1) (by omega) d4 (fun _ => by
  have := len_drop d3 (by simp [wideV])
  omega)
 exact doc_ok k0 rfl (.inr ⟨by show 24 + w ≠ 31; omega, rfl⟩) k1 rfl rfl k2 rfl rfl k3 rfl sc3 k5 rfl (.inr ⟨by show 24 + w ≠ 31; omega, rfl⟩) k6 rfl rfl k7 ⟨fun h => absurd h (by show 24 + w ≠ 31; omega), fun _ => rfl⟩ ⟨fun h => absurd h (by show 24 + w ≠ 31; omega), fun _ => rfl⟩ (by rw [hl]; rfl)
theorem b_doc {m w : Nat} {ps : List (List Nat)} (hw : w < 4) (hm : m < 256 ^ 2 ^ w) (hp : ∀ p ∈ ps, p.length < 256) : ∃ sps, sourceC 40 (bV m ps w) = .ok (nodesW m ps.flatten, sps) := by
 obtain ⟨s, hs⟩ : ∃ s, bV m ps w = s := ⟨_, rfl⟩
 rw [hs]
 have d0 : s.drop 0 = [159] ++ (wideV 0 m w ++ (wideV 1 m w ++ ([95] ++ (piecesV 0 ps ++ ([255] ++ ([191] ++ (wideV 0 m w ++ ([246] ++ ([255] ++ [255]))))))))) := by rw [← hs]; rfl
 have d1 := drop_more d0
 have d2 := drop_more d1
 have d3 := drop_more d2
 have d4 := drop_more d3
 have d5 := drop_more d4
 have d6 := drop_more d5
 have d7 := drop_more d6
 have d8 := drop_more d7
 have d9 := drop_more d8
 have d10 := drop_more d9
 have hl := len_drop (H := [255]) (r := []) d10 (by decide)
 obtain ⟨k0, _⟩ := hd_one (c := 159) (.inr (.inl rfl)) d0
 have k1 := (hd_wide hw hm d1).1
 have k2 := (hd_wide hw hm d2).1
 obtain ⟨k3, _⟩ := hd_one (c := 95) (.inr (.inr (.inr (.inr rfl)))) d3
 have sc3 := pieces_sc (j := 0 + 1 + (wideV 0 m w).length + (wideV 1 m w).length) (r := [191] ++ (wideV 0 m w ++ ([246] ++ ([255] ++ [255])))) d4 hp (by have := pieces_len ps 0; have h4 := congrArg List.length d4; rw [List.length_drop, List.length_append] at h4; omega)
 obtain ⟨k6, _⟩ := hd_one (c := 191) (.inr (.inr (.inl rfl))) d6
 have k7 := (hd_wide hw hm d7).1
 obtain ⟨k8, _⟩ := hd_one (c := 246) (.inl (by decide)) d8
 obtain ⟨k9, _⟩ := hd_one (c := 255) (.inr (.inr (.inr (.inl rfl)))) d9
 obtain ⟨k10, _⟩ := hd_one (c := 255) (r := []) (.inr (.inr (.inr (.inl rfl)))) d10
 exact doc_ok k0 rfl (.inl rfl) k1 rfl rfl k2 rfl rfl k3 rfl sc3 k6 rfl (.inl rfl) k7 rfl rfl k8 ⟨fun _ => ⟨_, k9, rfl⟩, fun h => absurd rfl h⟩ ⟨fun _ => ⟨_, k10, rfl⟩, fun h => absurd rfl h⟩ (by rw [hl]; rfl)
end Go.Proofs.YtbhigefbihpnlaaGreatDoor
namespace Go.Proofs.YtbhigefbihpnlaaGreatDoor
open Go.RowKit
def sclV (s t : ByteArray) : Int := if s.toList = t.toList then 0 else Lib.compareBytes s.data.toList t.data.toList
set_option maxRecDepth 20000 in
set_option maxHeartbeats 4000000 in
theorem cscalar_any (s t : ByteArray) (w : World) : Calls Tryz.prog 97 #[.int .i64 5, .string s, .string t] w fun e w' => e = .returned (.int .i64 (sclV s t)) ∧ w' = w := by
 obtain ⟨v, hv⟩ : ∃ v, sclV s t = v := ⟨_, rfl⟩
 rw [hv]
 unfold sclV at hv
 by_cases h : s.toList = t.toList
 ·rw [if_pos h] at hv
  subst hv
  have hb : (s.toList == t.toList) = true := by simpa using h
  go_enter Tryz.func97, Tryz.ntmps97
  go_wp2_with (fail)
  go_ret
  exact ⟨rfl, rfl⟩
 ·rw [if_neg h] at hv
  have DC := Lib.hid (Tryz.strings_Compare s t)
  rw [hv] at DC
  clear hv
  have hb : (s.toList == t.toList) = false := by simpa using h
  go_enter Tryz.func97, Tryz.ntmps97
  go_wp2_with (go_at_call 142; ((with_reducible refine (DC.out _).mono ?_)); rintro e w2 ⟨rfl, rfl⟩)
  go_ret
  exact ⟨rfl, rfl⟩
structure TabR (w : World) (tb sb g c : Nat) : Prop where
 tab : Arr w tb 125 [.slice (some ⟨g, 0, none⟩) 1 c, .int .i64 0, .slice (some ⟨sb, 0, none⟩) 1 1]
 srt : Arr w sb 44 [.slice none 0 0]
theorem TabR.below {w w' : World} {B tb sb g c : Nat} (h : TabR w tb sb g c) (hb : Below B w w') (h1 : tb < B) (h2 : sb < B) : TabR w' tb sb g c := ⟨h.tab.below hb h1, h.srt.below hb h2⟩
theorem TabR.keep {w w' : World} {tb sb g c : Nat} (h : TabR w tb sb g c) (hb : Below w.heap.size w w') : TabR w' tb sb g c := ⟨h.tab.keep hb, h.srt.keep hb⟩
end Go.Proofs.YtbhigefbihpnlaaGreatDoor
namespace Go.Proofs.YtbhigefbihpnlaaGreatDoor
open Go.RowKit Go.Maps
def TextN (nodes : List GNode) (k : Nat) : Prop := k < nodes.length ∧ (ndAt nodes k).kind = 5 ∧ (ndAt nodes k).ord = false
theorem text_cells {w : World} {B g o : Nat} {nodes : List GNode} {k : Nat} (hG : GRd w B g o nodes) (hk : TextN nodes k) : w.cell? ⟨g, o + k * 5, none⟩ = some (.int .i64 5) ∧ w.cell? ⟨g, o + k * 5 + 1, none⟩ = some (.string (mks (ndAt nodes k).text)) ∧ w.cell? ⟨g, o + k * 5 + 2, none⟩ = some (.bool false) := by
 obtain ⟨K, ck, I, ci, c0, c1, c2, _⟩ := hG.of_at hk.1
 rw [hk.2.1] at c0
 rw [hk.2.2] at c2
 exact ⟨c0, c1, c2⟩
def RetQ (v : Int) (w : World) (e : Ending) (w' : World) : Prop := e = .returned (.int .i64 v) ∧ ∃ m, w' = w.drewN m
theorem drw_cell {w : World} {a : Addr} {u : Value} (n : Nat) (h : w.cell? a = some u) : (w.drewN n).cell? a = some u := h
set_option maxRecDepth 20000 in
set_option maxHeartbeats 8000000 in
theorem cdiffer_ne {B ta tb ga oa ca gb ob cb i j : Nat} {na nb : List GNode} (mv : Value) (hi : TextN na i) (hj : TextN nb j) (w : World) (hA : GRd w B ga oa na) (hB : GRd w B gb ob nb)
  (hTA : w.cell? ⟨ta, 0, none⟩ = some (.slice (some ⟨ga, oa, none⟩) na.length ca)) (hTB : w.cell? ⟨tb, 0, none⟩ = some (.slice (some ⟨gb, ob, none⟩) nb.length cb)) (hne : sclV (mks (ndAt na i).text) (mks (ndAt nb j).text) ≠ 0) :
  Calls Tryz.prog 66 #[.pointer (some ⟨ta, 0, none⟩), .int .i64 (i : Int), .pointer (some ⟨tb, 0, none⟩), .int .i64 (j : Int), mv] w (RetQ (sclV (mks (ndAt na i).text) (mks (ndAt nb j).text)) w) := by
 obtain ⟨a0, a1, a3⟩ := text_cells hA hi
 obtain ⟨b0, b1, b3⟩ := text_cells hB hj
 have t0 := hTA
 have u0 := hTB
 have i0 : (0 : Int) ≤ i := by omega
 have i1 : (i : Int) < na.length := by have := hi.1; omega
 have j0 : (0 : Int) ≤ j := by omega
 have j1 : (j : Int) < nb.length := by have := hj.1; omega
 generalize mks (ndAt na i).text = sx at *
 generalize mks (ndAt nb j).text = sy at *
 obtain ⟨r, hr⟩ : ∃ r, sclV sx sy = r := ⟨_, rfl⟩
 have DS := Lib.hid (fun w' => cscalar_any sx sy w')
 rw [hr] at DS hne ⊢
 generalize na.length = ln at *
 generalize nb.length = lm at *
 have hr1 : (r != 0) = true := by simpa using hne
 clear hr hA hB hTA hTB hi hj hne
 go_enter Tryz.func66, Tryz.ntmps66
 go_upto_region 1 with (fail)
 go_quiet (fail)
 have HD : Hid (∃ m, w.drewN nq = w.drewN m) := ⟨nq, rfl⟩
 replace a0 := drw_cell nq a0
 replace a1 := drw_cell nq a1
 replace a3 := drw_cell nq a3
 replace b0 := drw_cell nq b0
 replace b1 := drw_cell nq b1
 replace b3 := drw_cell nq b3
 replace t0 := drw_cell nq t0
 replace u0 := drw_cell nq u0
 generalize (w.drewN nq) = w1 at *
 go_upto_region 2 with (fail)
 go_quiet (fail)
 replace HD : Hid (∃ m, w1.drewN nq = w.drewN m) := by obtain ⟨m, hm⟩ := HD.out; exact ⟨m + nq, by rw [hm, World.drewN_drewN]⟩
 replace a0 := drw_cell nq a0
 replace a1 := drw_cell nq a1
 replace a3 := drw_cell nq a3
 replace b0 := drw_cell nq b0
 replace b1 := drw_cell nq b1
 replace b3 := drw_cell nq b3
 replace t0 := drw_cell nq t0
 replace u0 := drw_cell nq u0
 generalize (w1.drewN nq) = w2 at *
 go_upto_region 4 with (fail)
 go_quiet (fail)
 replace HD : Hid (∃ m, w2.drewN nq = w.drewN m) := by obtain ⟨m, hm⟩ := HD.out; exact ⟨m + nq, by rw [hm, World.drewN_drewN]⟩
 replace a0 := drw_cell nq a0
 replace a1 := drw_cell nq a1
 replace a3 := drw_cell nq a3
 replace b0 := drw_cell nq b0
 replace b1 := drw_cell nq b1
 replace b3 := drw_cell nq b3
 replace t0 := drw_cell nq t0
 replace u0 := drw_cell nq u0
 generalize (w2.drewN nq) = w3 at *
 go_upto_region 6 with (fail)
 go_quiet (fail)
 replace HD : Hid (∃ m, w3.drewN nq = w.drewN m) := by obtain ⟨m, hm⟩ := HD.out; exact ⟨m + nq, by rw [hm, World.drewN_drewN]⟩
 replace a0 := drw_cell nq a0
 replace a1 := drw_cell nq a1
 replace a3 := drw_cell nq a3
 replace b0 := drw_cell nq b0
 replace b1 := drw_cell nq b1
 replace b3 := drw_cell nq b3
 replace t0 := drw_cell nq t0
 replace u0 := drw_cell nq u0
 generalize (w3.drewN nq) = w4 at *
 go_upto_region 10 with (fail)
 go_quiet (((go_at_call 97; exact Calls.quiet_of_same (DS.out _))))
 replace HD : Hid (∃ m, w4.drewN nq = w.drewN m) := by obtain ⟨m, hm⟩ := HD.out; exact ⟨m + nq, by rw [hm, World.drewN_drewN]⟩
 replace a0 := drw_cell nq a0
 replace a1 := drw_cell nq a1
 replace a3 := drw_cell nq a3
 replace b0 := drw_cell nq b0
 replace b1 := drw_cell nq b1
 replace b3 := drw_cell nq b3
 replace t0 := drw_cell nq t0
 replace u0 := drw_cell nq u0
 generalize (w4.drewN nq) = w5 at *
 clear a0 a1 a3 b0 b1 b3 t0 u0
 go_wp2_with (fail)
 go_ret
 exact ⟨rfl, HD.out⟩
theorem look_nil (i j : Int) (w : World) : (Instr.lookup 142 (.map none) (.agg #[.int .i64 i, .int .i64 j]) true).run Tryz.prog w = .ok (.tuple #[.int .i64 0, .bool false]) w := by kernel_rfl
theorem neqm_nil (w : World) : (binOp BinOp.neq 142 (.map none) (.map none)).run Tryz.prog w = .ok (.bool false) w := by kernel_rfl
set_option maxRecDepth 20000 in
set_option maxHeartbeats 8000000 in
theorem ccompare_ne {B ta tb ga oa ca gb ob cb i j : Nat} {na nb : List GNode} (hi : TextN na i) (hj : TextN nb j) (w : World) (hA : GRd w B ga oa na) (hB : GRd w B gb ob nb)
  (hTA : w.cell? ⟨ta, 0, none⟩ = some (.slice (some ⟨ga, oa, none⟩) na.length ca)) (hTB : w.cell? ⟨tb, 0, none⟩ = some (.slice (some ⟨gb, ob, none⟩) nb.length cb)) (hne : sclV (mks (ndAt na i).text) (mks (ndAt nb j).text) ≠ 0) :
  Calls Tryz.prog 51 #[.pointer (some ⟨ta, 0, none⟩), .int .i64 (i : Int), .pointer (some ⟨tb, 0, none⟩), .int .i64 (j : Int), .map none] w (RetQ (sclV (mks (ndAt na i).text) (mks (ndAt nb j).text)) w) := by
 have D := Lib.hid (cdiffer_ne (.map none) hi hj w hA hB hTA hTB hne)
 have hl := look_nil (i : Int) (j : Int) w
 have hn := neqm_nil
 generalize sclV (mks (ndAt na i).text) (mks (ndAt nb j).text) = r at *
 clear hA hB hTA hTB hi hj hne
 go_enter Tryz.func51, Tryz.ntmps51
 go_wp2_with (go_at_call 66; ((with_reducible refine D.out.mono ?_)); rintro e w2 ⟨rfl, m, rfl⟩)
 go_ret
 exact ⟨rfl, m, rfl⟩
end Go.Proofs.YtbhigefbihpnlaaGreatDoor
namespace Go.Proofs.YtbhigefbihpnlaaGreatDoor
def swp (l : List Int) (j : Nat) : List Int := (l.set (j + 1) (l.getD j 0)).set j (l.getD (j + 1) 0)
def insJ (lt : Int → Int → Bool) : Nat → List Int → List Int
 | 0, l => l
 | j + 1, l => if lt (l.getD (j + 1) 0) (l.getD j 0) then insJ lt j (swp l j) else l
def insO (lt : Int → Int → Bool) : Nat → Nat → List Int → List Int
 | _, 0, l => l
 | i, m + 1, l => insO lt (i + 1) m (insJ lt i l)
def insS (lt : Int → Int → Bool) (l : List Int) : List Int := insO lt 1 (l.length - 1) l
theorem swp_len (l : List Int) (j : Nat) : (swp l j).length = l.length := by simp [swp]
theorem insJ_len (lt : Int → Int → Bool) (j : Nat) : ∀ l, (insJ lt j l).length = l.length := by
 induction j with
 | zero => intro l; rfl
 | succ j ih =>
  intro l
  unfold insJ
  split
  ·rw [ih, swp_len]
  ·rfl
theorem insO_len (lt : Int → Int → Bool) (m : Nat) : ∀ i l, (insO lt i m l).length = l.length := by
 induction m with
 | zero => intro i l; rfl
 | succ m ih => intro i l; unfold insO; rw [ih, insJ_len]
theorem insS_len (lt : Int → Int → Bool) (l : List Int) : (insS lt l).length = l.length := insO_len lt _ _ l
theorem swp_mem {l : List Int} {j : Nat} (h : j + 1 < l.length) {x : Int} (hx : x ∈ swp l j) : x ∈ l := by
 unfold swp at hx
 have h1 : l.getD (j + 1) 0 ∈ l := by rw [List.getD_eq_getElem?_getD, List.getElem?_eq_getElem h]; exact List.getElem_mem h
 have h2 : l.getD j 0 ∈ l := by rw [List.getD_eq_getElem?_getD, List.getElem?_eq_getElem (show j < l.length by omega)]; exact List.getElem_mem _
 rcases List.mem_or_eq_of_mem_set hx with h3 | rfl
 ·rcases List.mem_or_eq_of_mem_set h3 with h4 | rfl
  ·exact h4
  ·exact h2
 ·exact h1
theorem insJ_mem (lt : Int → Int → Bool) (j : Nat) : ∀ l, j < l.length → ∀ x ∈ insJ lt j l, x ∈ l := by
 induction j with
 | zero => intro l _ x hx; exact hx
 | succ j ih =>
  intro l hl x hx
  unfold insJ at hx
  split at hx
  ·exact swp_mem hl (ih _ (by rw [swp_len]; omega) x hx)
  ·exact hx
theorem insO_mem (lt : Int → Int → Bool) (m : Nat) : ∀ i l, i + m ≤ l.length → ∀ x ∈ insO lt i m l, x ∈ l := by
 induction m with
 | zero => intro i l _ x hx; exact hx
 | succ m ih =>
  intro i l hl x hx
  unfold insO at hx
  exact insJ_mem lt i l (by omega) x (ih (i + 1) _ (by rw [insJ_len]; omega) x hx)
theorem insS_mem (lt : Int → Int → Bool) (l : List Int) : ∀ x ∈ insS lt l, x ∈ l := fun x hx => by
 by_cases h : l.length = 0
 ·unfold insS at hx
  rw [h] at hx
  exact hx
 ·exact insO_mem lt _ _ l (by omega) x hx
theorem swp_nodup {l : List Int} {j : Nat} (h : j + 1 < l.length) (hn : l.Nodup) : (swp l j).Nodup := by
 have hp : (swp l j).Perm l := by
  unfold swp
  have e1 : l.getD j 0 = l[j] := by rw [List.getD_eq_getElem?_getD, List.getElem?_eq_getElem]; rfl
  have e2 : l.getD (j + 1) 0 = l[j + 1] := by rw [List.getD_eq_getElem?_getD, List.getElem?_eq_getElem]; rfl
  rw [e1, e2]
  rw [List.perm_iff_count]
  intro a
  rw [List.count_set (by simp; omega), List.count_set (by omega)]
  have : (l.set (j + 1) l[j])[j]'(by simp; omega) = l[j] := by rw [List.getElem_set_ne (by omega)]
  rw [this]
  by_cases ha : l[j] = a <;> by_cases hb : l[j + 1] = a <;> simp [ha, hb] <;> first | omega | (have := List.count_pos_iff.2 (ha ▸ List.getElem_mem (show j < l.length by omega)); omega) | (have := List.count_pos_iff.2 (hb ▸ List.getElem_mem h); omega)
 exact hp.nodup_iff.2 hn
end Go.Proofs.YtbhigefbihpnlaaGreatDoor
namespace Go.Proofs.YtbhigefbihpnlaaGreatDoor
open Go.RowKit
structure SortS (blk n : Nat) (g : FuncId) (x y : Nat) (cf : Int → Int → Int) (S : List Int → World → Prop) : Prop where
 len : ∀ l w, S l w → l.length = n
 cell : ∀ l w i, S l w → i < n → w.cell? ⟨blk, i, none⟩ = some (.int .i64 (l.getD i 0)) ∧ w.frozen? ⟨blk, i, none⟩ = false
 swap : ∀ l w j, S l w → j + 1 < n → S (swp l j) ((w.setCell ⟨blk, j + 1, none⟩ (.int .i64 (l.getD j 0))).setCell ⟨blk, j, none⟩ (.int .i64 (l.getD (j + 1) 0)))
 drew : ∀ l w k, S l w → S l (w.drewN k)
 cmp : ∀ l w j, S l w → j + 1 < n → Calls Tryz.prog g #[.int .i64 (l.getD (j + 1) 0), .int .i64 (l.getD j 0), .pointer (some ⟨x, 0, none⟩), .pointer (some ⟨y, 0, none⟩)] w fun e w' => e = .returned (.int .i64 (cf (l.getD (j + 1) 0) (l.getD j 0))) ∧ S l w'
set_option maxRecDepth 100000 in
set_option maxHeartbeats 4000000 in
theorem insertion_e {blk c n x y : Nat} {cf : Int → Int → Int} {S : List Int → World → Prop} (hS : SortS blk n 50 x y cf S) (hn : n ≤ 12) (l : List Int) (w : World) (h : S l w) :
  Calls Tryz.prog 87 #[.slice (some ⟨blk, 0, none⟩) n c, .int .i64 0, .int .i64 (n : Int), .func (.func 50) #[] #[.pointer (some ⟨x, 0, none⟩), .pointer (some ⟨y, 0, none⟩)]] w fun e w' => e = .returned (.tuple #[]) ∧ S (insS (fun a b => decide (cf a b < 0)) l) w' := by
 obtain ⟨R, hR⟩ : ∃ R, insS (fun a b => decide (cf a b < 0)) l = R := ⟨_, rfl⟩
 have h0 : Hid (insO (fun a b => decide (cf a b < 0)) 1 (n - 1) l = R) := by show _ = _; rw [← hR]; unfold insS; rw [hS.len l w h]
 have HS := Lib.hid hS
 have H0 := Lib.hid h
 rw [hR]
 clear hR hS h
 go_enter Tryz.func87, Tryz.ntmps87
 go_wp2_with (fail)
 go_loopw [8] (fun v wr => ∃ (i : Nat) (l1 : List Int), v = .int .i64 (i : Int) ∧ 1 ≤ i ∧ i ≤ n + 1 ∧ Hid (S l1 wr) ∧ Hid (insO (fun a b => decide (cf a b < 0)) i (n - i) l1 = R)) (fun v _ => 13 - (intOf v).toNat)
 case atStart => exact ⟨1, l, by go_num, Nat.le_refl _, by omega, H0, h0⟩
 case round =>
  clear H0 h0
  obtain ⟨i, l1, rfl, hi1, hin, h1, h2⟩ := hrel
  by_cases hlt : i < n
  ·have hlt' : (i : Int) < n := by omega
   have h3 : Hid (insO (fun a b => decide (cf a b < 0)) (i + 1) (n - (i + 1)) (insJ (fun a b => decide (cf a b < 0)) i l1) = R) := by
    show _ = _
    rw [← h2.out, show n - i = (n - (i + 1)) + 1 by omega]; rfl
   clear h2
   go_wp2_with (fail)
   go_loopw [9] (fun v wr2 => ∃ (j : Nat) (l2 : List Int), v = .int .i64 (j : Int) ∧ j ≤ i ∧ Hid (S l2 wr2) ∧ Hid (insO (fun a b => decide (cf a b < 0)) (i + 1) (n - (i + 1)) (insJ (fun a b => decide (cf a b < 0)) j l2) = R)) (fun v _ => (intOf v).toNat)
   case atStart => exact ⟨i, l1, rfl, Nat.le_refl _, h1, h3⟩
   case round =>
    clear h1 h3
    obtain ⟨j, l2, rfl, hji, h4, h5⟩ := hrel
    obtain ⟨w2, hw2⟩ : ∃ x : World, x = wr := ⟨_, rfl⟩
    subst hw2
    by_cases hj0 : j = 0
    ·have hd : decide (0 < j) = false := decide_eq_false (by omega)
     have h6 : Hid (insO (fun a b => decide (cf a b < 0)) (i + 1) (n - (i + 1)) l2 = R) := by
      show _ = _
      rw [← h5.out, hj0]; rfl
     clear h5 hj0
     go_upto_region 4 with (fail)
     go_quiet (fail)
     have h7 := Lib.hid (HS.out.drew _ _ nq h4.out)
     generalize w2.drewN nq = w3 at *
     go_wp2_with (fail)
     go_roundw
     case rel => exact ⟨i + 1, l2, i64e (by omega), by omega, by omega, h7, h6⟩
     case measure => simp [intOf]; omega
    ·obtain ⟨jp, hjp⟩ : ∃ jp, j = jp + 1 := ⟨j - 1, by omega⟩
     have hjn : jp + 1 < n := by omega
     have D := Lib.hid (HS.out.cmp l2 w2.drew jp (HS.out.drew l2 w2 1 h4.out) hjn)
     obtain ⟨c1, f1⟩ := HS.out.cell l2 w2.drew (jp + 1) (HS.out.drew l2 w2 1 h4.out) hjn
     obtain ⟨c0, f0⟩ := HS.out.cell l2 w2.drew jp (HS.out.drew l2 w2 1 h4.out) (by omega)
     go_upto_region 4 with (fail)
     obtain ⟨X, hX⟩ : ∃ X, l2.getD jp 0 = X := ⟨_, rfl⟩
     obtain ⟨Y, hY⟩ : ∃ Y, l2.getD (jp + 1) 0 = Y := ⟨_, rfl⟩
     obtain ⟨r, hr⟩ : ∃ r, cf Y X = r := ⟨_, rfl⟩
     have HX := Lib.hid hX
     have HY := Lib.hid hY
     have HR := Lib.hid hr
     rw [hX, hY, hr] at D
     rw [hX] at c0
     rw [hY] at c1
     have h8 : Hid (insJ (fun a b => decide (cf a b < 0)) j l2 = if r < 0 then insJ (fun a b => decide (cf a b < 0)) jp (swp l2 jp) else l2) := by
      show _ = _
      rw [hjp, insJ, HX.out, HY.out, ← HR.out]
      simp
     rw [← hjp] at c1 f1
     have HJP := Lib.hid hjp
     have hd : decide (0 < j) = true := decide_eq_true (by omega)
     have hp0 : (0 : Int) ≤ (jp : Int) := by omega
     have hp1 : (jp : Int) < (n : Int) := by omega
     have hq0 : (0 : Int) ≤ (j : Int) := by omega
     have hq1 : (j : Int) < (n : Int) := by omega
     have hw : IntKind.i64.wrap ((j : Int) - 1) = (jp : Int) := by rw [IntWalk.i64_in _ (by omega)]; omega
     have hjn' : j < n := by omega
     have hjpn : jp < n := by omega
     clear hX hY hr h4 hjp hj0
     go_region_held3 (fun w' => w'.cell? ⟨blk, j, none⟩ = some (.int .i64 Y) ∧ w'.cell? ⟨blk, jp, none⟩ = some (.int .i64 X)) (first | exact ⟨by assumption, by assumption⟩ | go_keep) ((go_at_call 50; ((with_reducible refine D.out.mono ?_)); rintro e w5 ⟨rfl, hS5⟩; have hS5' := Lib.hid hS5; obtain ⟨c1', f1'⟩ := HS.out.cell l2 w5 j hS5 hjn'; obtain ⟨c0', f0'⟩ := HS.out.cell l2 w5 jp hS5 hjpn; rw [HX.out] at c0'; rw [HJP.out, HY.out, ← HJP.out] at c1'))
     clear c0 c1 f0 f1 D
     by_cases hr0 : r < 0
     ·have h9 : Hid (insO (fun a b => decide (cf a b < 0)) (i + 1) (n - (i + 1)) (insJ (fun a b => decide (cf a b < 0)) jp (swp l2 jp)) = R) := by
       have h := h8.out
       rw [if_pos hr0] at h
       show _ = _
       rw [← h]; exact h5.out
      have h10 : Hid (S (swp l2 jp) ((w5.drew.setCell ⟨blk, j, none⟩ (.int .i64 X)).setCell ⟨blk, jp, none⟩ (.int .i64 Y))) := by
       have h := HS.out.swap l2 w5.drew jp (HS.out.drew l2 w5 1 hS5'.out) hjn
       rw [HX.out, HY.out, ← HJP.out] at h
       exact h
      have e0 : w5.drew.cell? ⟨blk, jp, none⟩ = some (.int .i64 X) := c0'
      have e1 : w5.drew.cell? ⟨blk, j, none⟩ = some (.int .i64 Y) := c1'
      have e2 : w5.drew.frozen? ⟨blk, jp, none⟩ = false := f0'
      have e3 : w5.drew.frozen? ⟨blk, j, none⟩ = false := f1'
      have hjne : ¬ jp = j := by have := HJP.out; omega
      have hjne2 : ¬ j = jp := by have := HJP.out; omega
      have hji2 : jp ≤ i := by have := HJP.out; omega
      clear h8 h5 hS5' e0 e1 e2 e3
      go_upto_region 6 with (fail)
      go_region
      go_wp2_with (fail)
      go_roundw
      case rel => exact ⟨jp, swp l2 jp, rfl, hji2, h10, h9⟩
      case measure => have := HJP.out; clear hw; simp [intOf]; omega
     ·have h9 : Hid (insO (fun a b => decide (cf a b < 0)) (i + 1) (n - (i + 1)) l2 = R) := by
       have h := h8.out
       rw [if_neg hr0] at h
       show _ = _
       rw [← h5.out, h]
      clear h8 h5 c0' c1' f0' f1'
      go_wp2_with (fail)
      go_roundw
      case rel => exact ⟨i + 1, l2, i64e (by omega), by omega, by omega, hS5', h9⟩
      case measure => simp [intOf]; omega
  ·go_wp2_with (fail)
   go_end0
   refine ⟨rfl, ?_⟩
   have h3 := h2.out
   rw [show n - i = 0 by omega] at h3
   rw [← h3]
   exact h1.out
end Go.Proofs.YtbhigefbihpnlaaGreatDoor
