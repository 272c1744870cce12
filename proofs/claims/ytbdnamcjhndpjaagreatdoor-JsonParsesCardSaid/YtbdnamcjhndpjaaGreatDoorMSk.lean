/- The walk of the reference's Parse. -/
import Derived.Test.YtbdnamcjhndpjaaGreatDoorMSj
import Derived.Test.YtbdnamcjhndpjaaGreatDoorMQk
import Derived.Test.YtbdnamcjhndpjaaGreatDoorMP
set_option linter.unusedVariables false
set_option linter.unusedSimpArgs false
set_option linter.defProp false
set_option linter.constructorNameAsVariable false
namespace Go.Proofs.YtbdnamcjhndpjaaGreatDoor
open Go.RowKit
theorem RM.nodesRd {w : World} {B : Nat} {k : RK} {vn vs : Value} {ncs : List Value} {lab : Nat → Option Nat} {st : RSt} (h : RM w B k vn vs ncs lab st) : NodesRd w (fun _ => True) ncs st.nodes := by
 refine ⟨h.nlen, fun i nd hi => ?_⟩
 obtain ⟨vk, vi, h1, h2, h3, _, _⟩ := h.nds i nd hi
 have hI : ∀ (v : Value) (xs : List Int), w.ownsRow B 3 1 v xs.length (I64 xs) → ∃ K n c, v = .slice K n c ∧ IntsRd w (fun _ => True) K n xs := by
  intro v xs ho
  obtain ⟨A, c, rfl, _, _, _, hr, _⟩ := own_rd ho
  refine ⟨A, xs.length, c, rfl, rfl, hr, fun ad e => ⟨trivial, ?_⟩⟩
  subst e
  obtain ⟨C, fz, hb⟩ := own_kind ho (g := ad.block) rfl
  exact ⟨C, fz, hb⟩
 obtain ⟨K, nk, ck, rfl, hk⟩ := hI _ _ h2
 obtain ⟨I, ni, ci, rfl, hi2⟩ := hI _ _ h3
 exact ⟨K, nk, ck, I, ni, ci, h1, hk, hi2⟩
def endV (ns : List JNote) : Except PErr (List JTok × List GNode × List JSpan) → Except PErr JDoc
 | .error e => .error e
 | .ok p => match p.1 with
  | [] => .ok ⟨p.2.1, p.2.2, ns⟩
  | t :: _ => .error (t.from_, 4)
theorem rparse_eq {s : List Nat} (h : (scanV s).err = 0) : parseJ s = endV (scanV s).notes (rvalV s.length (2 * (scanV s).toks.length + 1) (scanV s).toks 0 0 spanZ 0) := by
 unfold parseJ
 rw [if_neg (by simp [h])]
 have := (rval_law s.length (2 * (scanV s).toks.length + 1)).1 (scanV s).toks [] [] spanZ 0
 rw [this]
 simp only [List.length_nil, List.nil_append]
 cases rvalV s.length (2 * (scanV s).toks.length + 1) (scanV s).toks 0 0 spanZ 0 with
 | error e => rfl
 | ok p =>
  obtain ⟨l, dn, ds⟩ := p
  cases l with
  | nil => rfl
  | cons t r => rfl
abbrev rpC (A : Option Addr) (n c : Nat) (s : List Nat) (vo : Value) : List Value := [.slice A n c, .int .i64 0, .int .i64 0, .string (mks s), .slice none 0 0, .int .i64 0, .slice none 0 0, vo, .int .i64 0, .int .i64 0]
theorem arr_drew22 {w : World} {g : Nat} {t : TypeId} {xs : List Value} (h : Arr w g t xs) : Arr w.drew g t xs := h
theorem zdoc_stores {w : World} {g : Nat} (h : Arr w g 29 zDoc) : Arr ((((((w.setCell ⟨g, 0, none⟩ (.int .i64 0)).setCell ⟨g, 1, none⟩ (.string ⟨#[]⟩)).setCell ⟨g, 2, none⟩ (.slice none 0 0)).setCell ⟨g, 3, none⟩ (.int .i64 0)).setCell ⟨g, 4, none⟩ (.slice none 0 0)).setCell ⟨g, 5, none⟩ (.slice none 0 0)).drew g 29 zDoc ∧ ∀ B, B ≤ g → Below B w ((((((w.setCell ⟨g, 0, none⟩ (.int .i64 0)).setCell ⟨g, 1, none⟩ (.string ⟨#[]⟩)).setCell ⟨g, 2, none⟩ (.slice none 0 0)).setCell ⟨g, 3, none⟩ (.int .i64 0)).setCell ⟨g, 4, none⟩ (.slice none 0 0)).setCell ⟨g, 5, none⟩ (.slice none 0 0)).drew := by
 refine ⟨?_, fun B hb => ?_⟩
 ·have h1 := ((((((h.store 0 (.int .i64 0)).store 1 (.string ⟨#[]⟩)).store 2 (.slice none 0 0)).store 3 (.int .i64 0)).store 4 (.slice none 0 0)).store 5 (.slice none 0 0))
  have e : ((((((zDoc.set 0 (.int .i64 0)).set 1 (.string ⟨#[]⟩)).set 2 (.slice none 0 0)).set 3 (.int .i64 0)).set 4 (.slice none 0 0)).set 5 (.slice none 0 0)) = zDoc := rfl
  rw [e] at h1
  exact arr_drew22 h1
 ·have h1 : Below B w ((((((w.setCell ⟨g, 0, none⟩ (.int .i64 0)).setCell ⟨g, 1, none⟩ (.string ⟨#[]⟩)).setCell ⟨g, 2, none⟩ (.slice none 0 0)).setCell ⟨g, 3, none⟩ (.int .i64 0)).setCell ⟨g, 4, none⟩ (.slice none 0 0)).setCell ⟨g, 5, none⟩ (.slice none 0 0)) := (((((((Below.refl _ _).setCell hb _).setCell hb _).setCell hb _).setCell hb _).setCell hb _).setCell hb _)
  exact Below.drew h1
set_option maxRecDepth 100000 in
set_option maxHeartbeats 8000000 in
theorem rparse22_any (s : List Nat) (hs : By s) (hlen : s.length ≤ 60000) (w : World) : Calls Tryz.prog 6 #[.string (mks s)] w (ParseR w s (parseJ s)) := by
 have HD := Lib.hid (Arr.new w 29 zDoc)
 have HBd : Below w.heap.size w (w.alloc (.cells #[.int .i64 0, .string ⟨#[]⟩, .slice none 0 0, .int .i64 0, .slice none 0 0, .slice none 0 0] 29)) := (Below.refl _ _).alloc (Nat.le_refl _) _
 change Hid (Arr (w.alloc (.cells #[.int .i64 0, .string ⟨#[]⟩, .slice none 0 0, .int .i64 0, .slice none 0 0, .slice none 0 0] 29)) w.heap.size 29 zDoc) at HD
 go_enter Tryz.func6, Tryz.ntmps6
 go_upto_region 1 with (fail)
 have hlow := HD.out.lt
 generalize (w.alloc (.cells #[.int .i64 0, .string ⟨#[]⟩, .slice none 0 0, .int .i64 0, .slice none 0 0, .slice none 0 0] 29)) = W at *
 have DS := Lib.hid (rscan_any s hs (by omega) W)
 go_upto_region 2 with (go_at_call 12; ((with_reducible refine DS.out.mono ?_)); rintro e w4 ⟨hb4, vo, vn, rfl, ho, hn⟩)
 clear DS
 have HD4 := Lib.hid (HD.out.keep hb4)
 have hB4 : Below w.heap.size w w4 := HBd.trans (hb4.mono HBd.size)
 have hs4 := hb4.size
 by_cases hse : (scanV s).err = 0
 ·have hse' : (((scanV s).err : Int) != 0) = false := by simp [hse]
  obtain ⟨A, cT, hvo, hcA, hcM⟩ := own_slice ho
  subst hvo
  obtain ⟨An, cn, hvn, _, _⟩ := own_slice hn
  subst hvn
  have hke := scanV_kd s
  obtain ⟨hT1, hT2, hT3⟩ := scanV_toks s hs
  have hpj := rparse_eq hse
  have HPJ := Lib.hid hpj
  have HX := Lib.hid (Arr.new w4 60 (rpC A (scanV s).toks.length cT s (.slice An (scanV s).notes.length cn)))
  have hb5 : Below w4.heap.size w4 (w4.alloc (.cells #[.slice A (scanV s).toks.length cT, .int .i64 0, .int .i64 0, .string (mks s), .slice none 0 0, .int .i64 0, .slice none 0 0, (.slice An (scanV s).notes.length cn), .int .i64 0, .int .i64 0] 60)) := (Below.refl _ _).alloc (Nat.le_refl _) _
  change Hid (Arr (w4.alloc (.cells #[.slice A (scanV s).toks.length cT, .int .i64 0, .int .i64 0, .string (mks s), .slice none 0 0, .int .i64 0, .slice none 0 0, (.slice An (scanV s).notes.length cn), .int .i64 0, .int .i64 0] 60)) w4.heap.size 60 (rpC A (scanV s).toks.length cT s (.slice An (scanV s).notes.length cn))) at HX
  clear hse hpj
  go_upto_region 5 with (fail)
  generalize (w4.alloc (.cells #[.slice A (scanV s).toks.length cT, .int .i64 0, .int .i64 0, .string (mks s), .slice none 0 0, .int .i64 0, .slice none 0 0, (.slice An (scanV s).notes.length cn), .int .i64 0, .int .i64 0] 60)) = w5 at *
  obtain ⟨k, hk⟩ : ∃ k : RK, Hid (k = ⟨A, cT, (scanV s).toks, s, (.slice An (scanV s).notes.length cn)⟩) := ⟨_, Lib.hid rfl⟩
  have kts : k.ts = (scanV s).toks := by rw [hk.out]
  have ks : k.s = s := by rw [hk.out]
  have hM : RM w5 w4.heap.size k (.slice none 0 0) (.slice none 0 0) [] (fun _ => none) ⟨0, [], [], 0, 0⟩ := by
   rw [hk.out]
   refine ⟨HX.out, ?_, ?_, World.ownsRow_nil _ _ _ _, fun i nd hi => by simp at hi, World.ownsRow_nil _ _ _ _, fun g hg => by simp at hg⟩
   ·have ho5 := own_same ho (fun g hg => hb5.block g (ho.lt g hg).2)
    intro j u hj
    rcases ho5.2 with ⟨_, h0⟩ | ⟨g, cap, cur, hv, _⟩
    ·rw [List.eq_nil_of_length_eq_zero h0] at hj; simp [toksC] at hj
    ·injection hv with hv1 _ _
     exact ⟨_, hv1, ho5.cells (g := g) (by rw [hv1]; rfl) j u hj⟩
   ·intro ad e
    have e' : A = some ad := e
    subst e'
    refine ⟨?_, (ho.lt ad.block rfl).2⟩
    rcases ho.2 with ⟨hv, _⟩ | ⟨g, cap, cur, hv, _⟩
    ·cases hv
    ·injection hv with hv1 _ _
     exact ⟨g, 0, Option.some.inj hv1⟩
  have hRB : RB2 k := by
   refine ⟨⟨by rw [kts]; omega, by rw [ks]; omega, by rw [kts]; exact hT1⟩, by rw [kts]; exact fun t ht => (hke t ht).1, ?_⟩
   rw [kts]
   intro t ht h1 h2 h4
   have := (hke t ht).2 h1 h2 h4
   omega
  have hIN : RIn k ⟨0, [], [], 0, 0⟩ 0 := ⟨rfl, Nat.zero_le _, by simp, by simp, by omega⟩
  have hlf : leftA k 0 = (scanV s).toks := by unfold leftA; rw [kts]; rfl
  obtain ⟨rv, hrv⟩ : ∃ rv, rvalV s.length (2 * (scanV s).toks.length + 1) (scanV s).toks 0 0 spanZ 0 = rv := ⟨_, rfl⟩
  have hne : rv ≠ .error (0, 0) := by rw [← hrv]; exact (rv_fuel _ _).1 _ _ _ _ _ (Nat.le_refl _) 0
  have DV := Lib.hid (pvalue_any (2 * (scanV s).toks.length + 1) w5 w4.heap.size k (.slice none 0 0) (.slice none 0 0) [] (fun _ => none) ⟨0, [], [], 0, 0⟩ spanZ 0 hM hRB hIN (by show rvalV k.s.length _ (leftA k 0) 0 0 spanZ 0 ≠ _; rw [hlf, ks, hrv]; exact hne))
  change Hid (Calls Tryz.prog 13 #[.pointer (some ⟨w4.heap.size, 0, none⟩), .agg #[.int .i64 0, .int .i64 (-1), .int .i64 0, .int .i64 0, .int .i64 0, .int .i64 0, .int .i64 0, .bool false, .bool false], .int .i64 0] w5 (RValR w5 w4.heap.size k (RF w4.heap.size (.slice none 0 0) (.slice none 0 0) (fun _ => none)) ⟨0, [], [], 0, 0⟩ 0 (rvalV k.s.length (2 * (scanV s).toks.length + 1) (leftA k 0) 0 0 spanZ 0))) at DV
  rw [hlf, ks, hrv] at DV
  have hPJ2 : parseJ s = endV (scanV s).notes rv := by rw [HPJ.out, hrv]
  have HPJ2 := Lib.hid hPJ2
  have HRB := Lib.hid hRB
  have hF0 : Hid (∀ g, RF w4.heap.size (.slice none 0 0) (.slice none 0 0) (fun _ => none) g → g = w4.heap.size) := by
   show ∀ g, _
   rintro g (e | e | e | e)
   ·exact e
   ·simp [Value.ownBlock] at e
   ·simp [Value.ownBlock] at e
   ·simp at e
  have HK := Lib.hid ks
  have HKT := Lib.hid kts
  have HN4 := Lib.hid hn
  have HB45 := Lib.hid hb5
  have HD5 := Lib.hid (HD4.out.keep hb5)
  have hB5 : Below w.heap.size w w5 := hB4.trans (hb5.mono hB4.size)
  clear hPJ2 hrv hlf hRB hIN hM hke hT1 kts ks HX hn ho hs hne HD4 HD
  obtain ⟨B, hB⟩ : ∃ B, w4.heap.size = B := ⟨_, rfl⟩
  have hs5 := hb5.size
  rw [hB] at DV hF0 hs5 hs4 HB45 ⊢
  have hBW : W.heap.size ≤ B := hs4
  have hBw : w.heap.size < B := by omega
  cases rv with
  | error q =>
   go_upto_region 6 with (go_at_call 13; ((with_reducible refine DV.out.mono ?_)); rintro e w6 ⟨xv, st6, rfl, ⟨vn6, vs6, ncs6, lab6, h6, hP6⟩, hfl⟩)
   have hb6 : Below B w5 w6 := hP6.below (fun g e => by rw [hF0.out g e]; exact Nat.le_refl _) hs5
   have hqn : ((q.2 : Int) == 0) = false := by have := hfl.ne; simp; omega
   have hqn2 : ((q.2 : Int) != 0) = true := by have := hfl.ne; simp; omega
   have c8 : w6.cell? ⟨B, 8, none⟩ = some (.int .i64 (q.2 : Int)) := by have := h6.c8; rw [show (parC k _ _ st6)[8] = Value.int .i64 (st6.err : Int) from rfl, hfl.err] at this; exact this
   have c9 : w6.cell? ⟨B, 9, none⟩ = some (.int .i64 (q.1 : Int)) := by have := h6.c9; rw [show (parC k _ _ st6)[9] = Value.int .i64 (st6.at_ : Int) from rfl, hfl.at_] at this; exact this
   clear hfl h6 hP6 DV
   have HDe := Lib.hid (HD5.out.below hb6 (by omega))
   have c8e : w6.cell? ⟨B, 8, none⟩ = some (.int .i64 (q.2 : Int)) := c8
   have c9e : w6.cell? ⟨B, 9, none⟩ = some (.int .i64 (q.1 : Int)) := c9
   have hB6e : Below w.heap.size w w6 := hB5.trans (Below.mono hb6 (by omega))
   have hle : w.heap.size < w6.heap.size := HDe.out.lt
   go_upto_region 9 with (fail)
   have d0 := HDe.out.cell' (i := 0) rfl
   have d1 := HDe.out.cell' (i := 1) rfl
   have d2 := HDe.out.cell' (i := 2) rfl
   have d3 := HDe.out.cell' (i := 3) rfl
   have d4 := HDe.out.cell' (i := 4) rfl
   have d5 := HDe.out.cell' (i := 5) rfl
   have dz0 := HDe.out.frozen 0
   have dz1 := HDe.out.frozen 1
   have dz2 := HDe.out.frozen 2
   have dz3 := HDe.out.frozen 3
   have dz4 := HDe.out.frozen 4
   have dz5 := HDe.out.frozen 5
   go_region
   obtain ⟨hr9, hB9'⟩ := zdoc_stores HDe.out
   have hB9 := hB6e.trans (hB9' w.heap.size (Nat.le_refl _))
   clear hB9'
   clear d0 d1 d2 d3 d4 d5 dz0 dz1 dz2 dz3 dz4 dz5
   generalize ((((((w6.setCell ⟨w.heap.size, 0, none⟩ (.int .i64 0)).setCell ⟨w.heap.size, 1, none⟩ (.string ⟨#[]⟩)).setCell ⟨w.heap.size, 2, none⟩ (.slice none 0 0)).setCell ⟨w.heap.size, 3, none⟩ (.int .i64 0)).setCell ⟨w.heap.size, 4, none⟩ (.slice none 0 0)).setCell ⟨w.heap.size, 5, none⟩ (.slice none 0 0)).drew = w9 at *
   have r0 := hr9.cell' (i := 0) rfl
   have r1 := hr9.cell' (i := 1) rfl
   have r2 := hr9.cell' (i := 2) rfl
   have r3 := hr9.cell' (i := 3) rfl
   have r4 := hr9.cell' (i := 4) rfl
   have r5 := hr9.cell' (i := 5) rfl
   go_wp2_with (fail)
   refine bodyPost_ret (v := .tuple #[.agg #[.int .i64 0, .string ⟨#[]⟩, .slice none 0 0, .int .i64 0, .slice none 0 0, .slice none 0 0], .int .i64 (q.1 : Int), .int .i64 (q.2 : Int)]) (by simp [results, Tryz.results6, go_sem, r0, r1, r2, r3, r4, r5]) rfl ?_
   rw [HPJ2.out]
   exact ⟨hB9, rfl⟩
  | ok p =>
   go_upto_region 6 with (go_at_call 13; ((with_reducible refine DV.out.mono ?_)); rintro e w6 ⟨rfl, st6, ⟨vn6, vs6, ncs6, lab6, h6, hP6⟩, hok⟩)
   have hb6 : Below B w5 w6 := hP6.below (fun g e => by rw [hF0.out g e]; exact Nat.le_refl _) hs5
   have c8 := h6.e0 hok.err
   have hi6 := hok.i
   have hRl : k.ts.length ≤ 70000 := HRB.out.tl
   have DT := ptoken_h h6 HRB.out.toRB (by omega)
   have hlf := hok.left
   have hb00 : Below w6.heap.size w6 w6 := Below.refl _ _
   have g0 := ptok_f0 (tokAt k st6.i)
   cases hp1 : p.1 with
   | nil =>
    rw [hp1] at hlf
    have hk0 : (tokAt k st6.i).kind = 0 := by unfold tokAt; unfold leftA at hlf; rw [hlf]
    have hpj : parseJ s = .ok ⟨p.2.1, p.2.2, (scanV s).notes⟩ := by rw [HPJ2.out]; unfold endV; simp only [hp1]
    have HPO := Lib.hid hpj
    have hkk : (((tokAt k st6.i).kind : Int) != 0) = false := by rw [hk0]; rfl
    have HOK := Lib.hid hok
    have he6 := hok.err
    clear hpj hk0 hlf hok hp1
    generalize tokAt k st6.i = t at *
    go_upto_region 10 with (go_at_call 14; ((with_reducible refine (DT.out _ hb00).mono ?_)); rintro e w7 ⟨rfl, hb7⟩; have h7 := h6.below hb7; have c87 := h7.e0 he6)
    have hb67 : Below B w5 w7 := hb6.trans (hb7.mono (Nat.le_trans hs5 hb6.size))
    have HD7 := Lib.hid (HD5.out.below hb67 (by omega))
    have hB7 : Below w.heap.size w w7 := hB5.trans (hb67.mono (by omega))
    obtain ⟨AN, cN, hvN, _, _⟩ := own_slice h7.nod
    obtain ⟨AS, cS, hvS, _, _⟩ := own_slice h7.spn
    obtain ⟨nN, hnN⟩ : ∃ n, st6.nodes.length = n := ⟨_, rfl⟩
    obtain ⟨nS, hnS⟩ : ∃ n, st6.spans.length = n := ⟨_, rfl⟩
    rw [hnN] at hvN
    rw [hnS] at hvS
    have hkvo : k.vo = (.slice An (scanV s).notes.length cn) := by rw [hk.out]
    have hks : k.s = s := HK.out
    have c2 : w7.cell? ⟨B, 2, none⟩ = some (.int .i64 0) := h7.c2
    have c3 : w7.cell? ⟨B, 3, none⟩ = some (.string (mks s)) := by rw [← hks]; exact h7.c3
    have c4 : w7.cell? ⟨B, 4, none⟩ = some (.slice AN nN cN) := by rw [← hvN]; exact h7.c4
    have c5 : w7.cell? ⟨B, 5, none⟩ = some (.int .i64 0) := h7.c5
    have c6 : w7.cell? ⟨B, 6, none⟩ = some (.slice AS nS cS) := by rw [← hvS]; exact h7.c6
    have c7 : w7.cell? ⟨B, 7, none⟩ = some (.slice An (scanV s).notes.length cn) := by rw [← hkvo]; exact h7.c7
    have hrg : Hid (w7.rangeAt B 2 [.int .i64 0, .string (mks s), .slice AN nN cN, .int .i64 0, .slice AS nS cS, (.slice An (scanV s).notes.length cn)]) := by
     show ∀ j v, _
     intro j v hj
     match j, hj with
     | 0, hj => obtain rfl := Option.some.inj hj; exact c2
     | 1, hj => obtain rfl := Option.some.inj hj; exact c3
     | 2, hj => obtain rfl := Option.some.inj hj; exact c4
     | 3, hj => obtain rfl := Option.some.inj hj; exact c5
     | 4, hj => obtain rfl := Option.some.inj hj; exact c6
     | 5, hj => obtain rfl := Option.some.inj hj; exact c7
     | j + 6, hj => cases hj
    have H7 := Lib.hid h7
    have HVN := Lib.hid hvN
    have HVS := Lib.hid hvS
    clear c2 c3 c4 c5 c6 c7 hkvo hks h7 hvN hvS h6 hP6 DT
    have hle : w.heap.size < w7.heap.size := HD7.out.lt
    go_wp2_with (first | ((with_reducible show wpList _ _ _ (Oper.mk _ (Op.load 29 (Operand.tmp 60)) _ _ _ _ :: _) _ _); go_loud (refine wpList_load_mid rfl 29 (.tmp 60) rfl (B) (2) rfl ([.int .i64 0, .string (mks s), .slice AN nN cN, .int .i64 0, .slice AS nS cS, (.slice An (scanV s).notes.length cn)]) _ (hrg.out) Tryz.underlying29 rfl Tryz.sz29 ?_)) | ((with_reducible show wpList _ _ _ (Oper.mk none (Op.store 29 (Operand.tmp 2) (Operand.tmp 61)) _ _ _ _ :: _) _ _); go_loud (refine wpList_sr rfl rfl 29 (.tmp 2) (.tmp 61) rfl (w.heap.size) [.int .i64 0, .string (mks s), .slice AN nN cN, .int .i64 0, .slice AS nS cS, (.slice An (scanV s).notes.length cn)] rfl rfl 29 _ HD7.out _ Tryz.sz29 (by first | rfl | simp) (by first | rfl | simp) (by first | rfl | simp [Value.oneCell']) ?_; intro w9 hr9 hg9 hz9)))
    have r0 := hr9.out.cell' (i := 0) rfl
    have r1 := hr9.out.cell' (i := 1) rfl
    have r2 := hr9.out.cell' (i := 2) rfl
    have r3 := hr9.out.cell' (i := 3) rfl
    have r4 := hr9.out.cell' (i := 4) rfl
    have r5 := hr9.out.cell' (i := 5) rfl
    refine bodyPost_ret (v := .tuple #[.agg #[.int .i64 0, .string (mks s), .slice AN nN cN, .int .i64 0, .slice AS nS cS, (.slice An (scanV s).notes.length cn)], .int .i64 0, .int .i64 0]) (by simp [results, Tryz.results6, go_sem, r0, r1, r2, r3, r4, r5]) rfl ?_
    rw [HPO.out]
    have hB9 : Below w.heap.size w w9 := hB7.grown hg9 hB7.size (fun k e => by have := Option.some.inj e; omega)
    have hK : ∀ g, g < w7.heap.size → g ≠ w.heap.size → w9.heap[g]? = w7.heap[g]? := fun g h1 h2 => hg9.block g h1 (fun e => h2 (Option.some.inj e))
    have hn6 : st6.nodes = p.2.1 := by rw [HOK.out.nod]; rfl
    have hs6 : st6.spans = p.2.2 := by rw [HOK.out.spn]; rfl
    have hNd := own_low (own_same H7.out.nod (fun g hg => hK g (H7.out.nod.lt g hg).2 (by have := (H7.out.nod.lt g hg).1; omega))) (show w.heap.size ≤ B by omega)
    have hSp := own_low (own_same H7.out.spn (fun g hg => hK g (H7.out.spn.lt g hg).2 (by have := (H7.out.spn.lt g hg).1; omega))) (show w.heap.size ≤ B by omega)
    have hNr : NodesRd w9 (fun _ => True) ncs6 st6.nodes := H7.out.nodesRd.keep (fun g C fz _ hg => by
     rw [hK g (Array.getElem?_eq_some_iff.1 hg).1 (fun e => by rw [e] at hg; exact absurd (cells_kind HD7.out hg) (by decide))]; exact hg) (fun _ _ => trivial)
    have hb47 : Below B w4 w7 := (HB45.out).trans hb67
    have hNt := own_low (own_same (own_same HN4.out (fun g hg => hb47.block g (by rw [← hB]; exact (HN4.out.lt g hg).2))) (fun g hg => hK g (Nat.lt_of_lt_of_le (HN4.out.lt g hg).2 hb47.size) (by have := (HN4.out.lt g hg).1; omega))) (show w.heap.size ≤ W.heap.size by omega)
    rw [HVN.out, hn6] at hNd
    rw [HVS.out, hs6] at hSp
    rw [hn6] at hNr
    exact ⟨hB9, _, _, _, _, rfl, hNd, hNr, hSp, hNt⟩
   | cons t0 r0 =>
    rw [hp1] at hlf
    have hkt : tokAt k st6.i = t0 := by unfold tokAt; unfold leftA at hlf; rw [hlf]
    have hm0 : t0 ∈ k.ts := by unfold leftA at hlf; exact List.mem_of_mem_drop (i := st6.i) (by rw [hlf]; simp)
    have hk1 := HRB.out.kd t0 hm0
    have hpj : parseJ s = .error (t0.from_, 4) := by rw [HPJ2.out]; unfold endV; simp only [hp1]
    have HPO := Lib.hid hpj
    have hkk : (((tokAt k st6.i).kind : Int) != 0) = true := by rw [hkt]; simp; omega
    have hof : offV k.s.length (leftA k st6.i) = t0.from_ := by rw [hlf]; rfl
    have HOF := Lib.hid hof
    have HOK := Lib.hid hok
    have he6 := hok.err
    clear hpj hlf hok hp1 hkt hof
    generalize tokAt k st6.i = t at *
    have D4 : Hid (∀ w', Below w6.heap.size w6 w' → Hid (Calls Tryz.prog 15 #[.pointer (some ⟨B, 0, none⟩), .int .i64 4] w' (fun e w'' => e = .returned (.tuple #[]) ∧ RM w'' B k vn6 vs6 ncs6 lab6 (failS k st6 4) ∧ PStep w' w'' (RF B vn6 vs6 lab6) (RF B vn6 vs6 lab6)))) := by
     show ∀ w', _
     exact fun w' hb' => pfail_h (h6.below hb') HRB.out.toRB (by omega) 4 4 rfl
    have HRBB := Lib.hid h6.rfB
    go_upto_region 8 with (first | (go_at_call 14; ((with_reducible refine (DT.out _ hb00).mono ?_)); rintro e w7 ⟨rfl, hb7⟩) | (go_at_call 15; ((with_reducible refine (D4.out _ hb7).out.mono ?_)); rintro e w8 ⟨rfl, h8, hP8⟩))
    have hb67 : Below B w5 w7 := hb6.trans (hb7.mono (Nat.le_trans hs5 hb6.size))
    have hb78 : Below B w7 w8 := hP8.below HRBB.out (Nat.le_trans hs5 (Nat.le_trans hb6.size hb7.size))
    have hb68 : Below B w5 w8 := hb67.trans hb78
    have hfs : failS k st6 4 = { st6 with err := 4, at_ := t0.from_ } := by rw [failS_yes he6, HOF.out]
    have c88 : w8.cell? ⟨B, 8, none⟩ = some (.int .i64 4) := by have := h8.c8; rw [hfs] at this; exact this
    have c98 : w8.cell? ⟨B, 9, none⟩ = some (.int .i64 (t0.from_ : Int)) := by have := h8.c9; rw [hfs] at this; exact this
    clear h8 hP8 hfs h6 hP6 DT c8
    have HDe := Lib.hid (HD5.out.below hb68 (by omega))
    have c8e : w8.cell? ⟨B, 8, none⟩ = some (.int .i64 ((4 : Nat) : Int)) := c88
    have c9e : w8.cell? ⟨B, 9, none⟩ = some (.int .i64 (t0.from_ : Int)) := c98
    have hB6e : Below w.heap.size w w8 := hB5.trans (Below.mono hb68 (by omega))
    have hle : w.heap.size < w8.heap.size := HDe.out.lt
    go_upto_region 9 with (fail)
    have d0 := HDe.out.cell' (i := 0) rfl
    have d1 := HDe.out.cell' (i := 1) rfl
    have d2 := HDe.out.cell' (i := 2) rfl
    have d3 := HDe.out.cell' (i := 3) rfl
    have d4 := HDe.out.cell' (i := 4) rfl
    have d5 := HDe.out.cell' (i := 5) rfl
    have dz0 := HDe.out.frozen 0
    have dz1 := HDe.out.frozen 1
    have dz2 := HDe.out.frozen 2
    have dz3 := HDe.out.frozen 3
    have dz4 := HDe.out.frozen 4
    have dz5 := HDe.out.frozen 5
    go_region
    obtain ⟨hr9, hB9'⟩ := zdoc_stores HDe.out
    have hB9 := hB6e.trans (hB9' w.heap.size (Nat.le_refl _))
    clear hB9'
    clear d0 d1 d2 d3 d4 d5 dz0 dz1 dz2 dz3 dz4 dz5
    generalize ((((((w8.setCell ⟨w.heap.size, 0, none⟩ (.int .i64 0)).setCell ⟨w.heap.size, 1, none⟩ (.string ⟨#[]⟩)).setCell ⟨w.heap.size, 2, none⟩ (.slice none 0 0)).setCell ⟨w.heap.size, 3, none⟩ (.int .i64 0)).setCell ⟨w.heap.size, 4, none⟩ (.slice none 0 0)).setCell ⟨w.heap.size, 5, none⟩ (.slice none 0 0)).drew = w9 at *
    have r0 := hr9.cell' (i := 0) rfl
    have r1 := hr9.cell' (i := 1) rfl
    have r2 := hr9.cell' (i := 2) rfl
    have r3 := hr9.cell' (i := 3) rfl
    have r4 := hr9.cell' (i := 4) rfl
    have r5 := hr9.cell' (i := 5) rfl
    go_wp2_with (fail)
    refine bodyPost_ret (v := .tuple #[.agg #[.int .i64 0, .string ⟨#[]⟩, .slice none 0 0, .int .i64 0, .slice none 0 0, .slice none 0 0], .int .i64 (t0.from_ : Int), .int .i64 4]) (by simp [results, Tryz.results6, go_sem, r0, r1, r2, r3, r4, r5]) rfl ?_
    rw [HPO.out]
    exact ⟨hB9, rfl⟩
 ·have hse' : (((scanV s).err : Int) != 0) = true := by simp; omega
  have hpj : parseJ s = .error ((scanV s).at_, (scanV s).err) := by unfold parseJ; rw [if_pos (by simpa using hse)]
  have HPO := Lib.hid hpj
  have hle : w.heap.size < w4.heap.size := HD4.out.lt
  clear hpj hse HD
  generalize (scanV s).err = eN at *
  generalize (scanV s).at_ = aN at *
  go_wp2_with ((with_reducible show wpList _ _ _ (Oper.mk none (Op.store 29 (Operand.tmp 2) (Operand.tmp 19)) _ _ _ _ :: _) _ _); go_loud (refine wpList_sr rfl rfl 29 (.tmp 2) (.tmp 19) rfl (w.heap.size) [.int .i64 0, .string ⟨#[]⟩, .slice none 0 0, .int .i64 0, .slice none 0 0, .slice none 0 0] rfl rfl 29 _ HD4.out _ Tryz.sz29 (by first | rfl | simp) (by first | rfl | simp) (by first | rfl | simp [Value.oneCell']) ?_; intro w9 hr9 hg9 hz9))
  have r0 := hr9.out.cell' (i := 0) rfl
  have r1 := hr9.out.cell' (i := 1) rfl
  have r2 := hr9.out.cell' (i := 2) rfl
  have r3 := hr9.out.cell' (i := 3) rfl
  have r4 := hr9.out.cell' (i := 4) rfl
  have r5 := hr9.out.cell' (i := 5) rfl
  refine bodyPost_ret (v := .tuple #[.agg #[.int .i64 0, .string ⟨#[]⟩, .slice none 0 0, .int .i64 0, .slice none 0 0, .slice none 0 0], .int .i64 (aN : Int), .int .i64 (eN : Int)]) (by simp [results, Tryz.results6, go_sem, r0, r1, r2, r3, r4, r5]) rfl ?_
  rw [HPO.out]
  exact ⟨hB4.grown hg9 hB4.size (fun k e => by have := Option.some.inj e; omega), rfl⟩
end Go.Proofs.YtbdnamcjhndpjaaGreatDoor
