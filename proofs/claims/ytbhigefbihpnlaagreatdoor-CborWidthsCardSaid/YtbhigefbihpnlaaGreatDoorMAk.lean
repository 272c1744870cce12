/- The walk of (*cbor.parser).head. -/
import Derived.Test.YtbhigefbihpnlaaGreatDoorMAj
import Derived.Laws.ResultCell
import Derived.Laws.Rows
import Derived.Test.YtbhigefbihpnlaaGreatDoorMAh
import Derived.Test.YtbhigefbihpnlaaGreatDoorMAg
set_option linter.unusedVariables false
set_option linter.unusedSimpArgs false
set_option linter.defProp false
set_option linter.constructorNameAsVariable false
namespace Go.Proofs.YtbhigefbihpnlaaGreatDoor
open Go.RowKit
theorem results_rt {P : Program} {fn : Func} {p u : Tmp} {ty : TypeId} (h : fn.results = #[.cell p ty, .tmp u]) (tmps : Array Value) (w : World) (g : Nat) (t : TypeId) (cs : Array Value) (fr : Nat × Nat) (d : TypeDesc) (x : Value)
    (hp : tmps.getD p undef = .pointer (some ⟨g, 0, none⟩)) (hx : tmps.getD u undef = x) (hg : w.heap[g]? = some (.cells cs t fr))
    (hu : P.underlying ty = some d) (hd : (match d with | .struct _ | .array _ _ => true | _ => false) = true) (hi : (P.info? ty).map (·.size) = some cs.size) :
    (results fn tmps).run P w = .ok (.tuple #[.agg cs, x]) w := by
  rw [results_cell_tmp h, hp, hx]
  simp [asAddr, run_loadVar_row w g t ty cs fr d hg hu hd hi, Result.andThen]
def HeadP (s : List Nat) (w : World) (B i : Nat) (e : Ending) (w' : World) : Prop :=
  match hdC s i with
  | .ok (x, j) => e = .returned (.tuple #[headV x, .nilIface]) ∧ AtW w B j w'
  | .err a c => e = .returned (.tuple #[headV ⟨0, 0, 0, 0⟩, faultV a c]) ∧ ∃ j, AtW w B j w'
  | .no => True
theorem HeadP.of_ok {s : List Nat} {w w' : World} {B i j : Nat} {e : Ending} {x : CH} (h : hdC s i = .ok (x, j)) (he : e = .returned (.tuple #[headV x, .nilIface])) (hk : AtW w B j w') : HeadP s w B i e w' := by
  unfold HeadP; rw [h]; exact ⟨he, hk⟩
theorem HeadP.of_err {s : List Nat} {w w' : World} {B i j a c : Nat} {e : Ending} (h : hdC s i = .err a c) (he : e = .returned (.tuple #[headV ⟨0, 0, 0, 0⟩, faultV a c])) (hk : AtW w B j w') : HeadP s w B i e w' := by
  unfold HeadP; rw [h]; exact ⟨he, j, hk⟩
theorem hsz_head : (Tryz.prog.info? 76).map (·.size) = some 4 := by kernel_rfl
theorem atw_self {w w' : World} {B i : Nat} {t : TypeId} {P : List Value} (hP : Arr w B t P) (h1 : P[1]? = some (.int .i64 (i : Int))) (hF : HF w.heap.size B w w') (hP' : Arr w' B t P) : AtW w B i w' := by
  refine HF.fin hF hP ?_
  have e : P.set 1 (.int .i64 (i : Int)) = P := by
    obtain ⟨hl, he⟩ := List.getElem?_eq_some_iff.1 h1
    rw [← he, List.set_getElem_self]
  rw [e]
  exact hP'
theorem and31 (c : Nat) : bits .and .u8 (c : Int) 31 = ((c % 32 : Nat) : Int) := by
  unfold bits
  show IntKind.u8.wrap (((c % 256 &&& 31 % 256 : Nat)) : Int) = _
  have e : c % 256 &&& 31 % 256 = c % 32 := by
    have := Nat.and_two_pow_sub_one_eq_mod (c % 256) 5
    simp at this ⊢
    omega
  rw [e]
  simp [IntKind.wrap, IntKind.bits]
  omega
theorem row4 {w : World} {z B rb : Nat} {w0 : World} {t t' : TypeId} {P : List Value} {a b c d x0 x1 x2 x3 : Value} (hZ : Arr w rb t [a, b, c, d]) (hF : HF z B w0 w) (hz : z ≤ rb) (hB : B < rb) (hP : Arr w B t' P) :
    Arr ((((w.setCell ⟨rb, 0, none⟩ x0).setCell ⟨rb, 1, none⟩ x1).setCell ⟨rb, 2, none⟩ x2).setCell ⟨rb, 3, none⟩ x3) rb t [x0, x1, x2, x3] ∧
    HF z B w0 ((((w.setCell ⟨rb, 0, none⟩ x0).setCell ⟨rb, 1, none⟩ x1).setCell ⟨rb, 2, none⟩ x2).setCell ⟨rb, 3, none⟩ x3) ∧
    Arr ((((w.setCell ⟨rb, 0, none⟩ x0).setCell ⟨rb, 1, none⟩ x1).setCell ⟨rb, 2, none⟩ x2).setCell ⟨rb, 3, none⟩ x3) B t' P :=
  ⟨(((hZ.store 0 x0).store 1 x1).store 2 x2).store 3 x3, (((hF.set (.inr hz) 0 x0).set (.inr hz) 1 x1).set (.inr hz) 2 x2).set (.inr hz) 3 x3,
   (((hP.far (p := ⟨rb, 0, none⟩) (Nat.ne_of_lt hB) x0).far (p := ⟨rb, 1, none⟩) (Nat.ne_of_lt hB) x1).far (p := ⟨rb, 2, none⟩) (Nat.ne_of_lt hB) x2).far (p := ⟨rb, 3, none⟩) (Nat.ne_of_lt hB) x3⟩
theorem u64_or8 (a d : Nat) (ha : a < 72057594037927936) (hd : d < 256) : bits .or .u64 ((a : Int) * 256) (d : Int) = ((a * 256 + d : Nat) : Int) := by
  have e : ((a : Int) * 256) = ((a * 256 : Nat) : Int) := by omega
  have h2 : a * 256 ||| d = a * 256 + d := by
    rw [← Nat.shiftLeft_eq a 8, ← Nat.shiftLeft_add_eq_or_of_lt (by omega : d < 2 ^ 8)]
  have hA : (BitVec.ofInt IntKind.u64.bits ((a * 256 : Nat) : Int)).toNat = a * 256 := by show (BitVec.ofInt 64 ((a * 256 : Nat) : Int)).toNat = a * 256; simp; omega
  have hB : (BitVec.ofInt IntKind.u64.bits (d : Int)).toNat = d := by show (BitVec.ofInt 64 (d : Int)).toNat = d; simp; omega
  rw [e]
  unfold bits
  simp only [BitVec.toNat_or, hA, hB, h2]
  rw [IntKind.wrap_u64]
  omega
theorem AtW.drew {w w1 : World} {B i : Nat} (h : AtW w B i w1) : AtW w B i w1.drew := Below.drew h
set_option maxRecDepth 20000 in
set_option maxHeartbeats 16000000 in
theorem head_cb {B i : Nat} {s : List Nat} {R : List Value} (hs : By s) (hl : s.length ≤ 65536) (hi : i ≤ 70000) (w : World) (hP : Arr w B 46 (PC s i R)) :
    Calls Tryz.prog 21 #[.pointer (some ⟨B, 0, none⟩)] w (HeadP s w B i) := by
  obtain ⟨n, hn⟩ : ∃ n, s.length = n := ⟨_, rfl⟩
  have hsz : (mks s).size = n := by rw [size_mks]; exact hn
  have HN := Lib.hid hn
  have HS := Lib.hid hs
  have HP0 := Lib.hid hP
  rw [hn] at hl
  have hz := Lib.hid (Arr.new w 76 [.int .i64 0, .int .i64 0, .int .i64 0, .int .u64 0])
  have hF := Lib.hid ((HF.refl (B := B) (Nat.le_refl w.heap.size)).alloc (.cells #[.int .i64 0, .int .i64 0, .int .i64 0, .int .u64 0] 76))
  have hP1 := Lib.hid (hP.alloc (.cells #[.int .i64 0, .int .i64 0, .int .i64 0, .int .u64 0] 76))
  have hBl := hP.lt
  clear hn hs hP
  go_enter Tryz.func21, Tryz.ntmps21
  go_upto_region 1 with (fail)
  obtain ⟨rb, hrb⟩ : ∃ x, w.heap.size = x := ⟨_, rfl⟩
  have HRB := Lib.hid hrb
  change Hid (Arr (w.alloc (.cells #[.int .i64 0, .int .i64 0, .int .i64 0, .int .u64 0] 76)) _ _ _) at hz
  generalize (w.alloc (.cells #[.int .i64 0, .int .i64 0, .int .i64 0, .int .u64 0] 76)) = W at *
  rw [hrb] at hz hF hBl ⊢
  clear hrb
  have hzl := hz.out.lt
  have c0 := hP1.out.cell' (i := 0) rfl
  have c1 := hP1.out.cell' (i := 1) rfl
  by_cases hin : i < n
  · obtain ⟨c, hc⟩ : ∃ c, s[i]? = some c := ⟨_, List.getElem?_eq_getElem (by have := HN.out; omega)⟩
    have cb := HS.out.get hc
    have hgt := get_mks hc cb (by rw [hsz]; exact hin)
    have hin' : (i : Int) < n := by omega
    have hin2 : ¬ ((n : Int) ≤ i) := by omega
    have HC := Lib.hid hc
    have r1 : (c : Int) / 32 = ((c / 32 : Nat) : Int) := by omega
    have r2 := and31 c
    obtain ⟨q, hq⟩ : ∃ q, c / 32 = q := ⟨_, rfl⟩
    obtain ⟨v, hv⟩ : ∃ v, c % 32 = v := ⟨_, rfl⟩
    have HQ := Lib.hid hq
    have HV := Lib.hid hv
    have hq8 : q < 8 := by omega
    have hv32 : v < 32 := by omega
    rw [hq] at r1
    rw [hv] at r2
    clear hq hv
    go_quiet (fail)
    have P2 : Hid (Arr (W.drewN nq) B 46 (PC s i R)) := hP1
    have Z2 : Hid (Arr (W.drewN nq) rb 76 [.int .i64 0, .int .i64 0, .int .i64 0, .int .u64 0]) := hz
    have F2 := Lib.hid (hF.out.drewN nq)
    generalize W.drewN nq = W2 at *
    have d0 := P2.out.cell' (i := 0) rfl
    have d1 := P2.out.cell' (i := 1) rfl
    clear c0 c1 hP1 hz hF
    go_upto_region 3 with (fail)
    go_quiet (fail)
    have P3 : Hid (Arr (W2.drewN nq) B 46 (PC s i R)) := P2
    have Z3 : Hid (Arr (W2.drewN nq) rb 76 [.int .i64 0, .int .i64 0, .int .i64 0, .int .u64 0]) := Z2
    have F3 := Lib.hid (F2.out.drewN nq)
    generalize W2.drewN nq = W3 at *
    have d1 := P3.out.cell' (i := 1) rfl
    clear P2 Z2 F2 hgt
    have P4 := Lib.hid (P3.out.alloc (.cells #[.int .i64 (i : Int), .int .i64 (q : Int), .int .i64 (v : Int), .int .u64 (v : Int)] 76))
    have Z4 := Lib.hid (Z3.out.alloc (.cells #[.int .i64 (i : Int), .int .i64 (q : Int), .int .i64 (v : Int), .int .u64 (v : Int)] 76))
    have F4 := Lib.hid (F3.out.alloc (.cells #[.int .i64 (i : Int), .int .i64 (q : Int), .int .i64 (v : Int), .int .u64 (v : Int)] 76))
    have H4 := Lib.hid (Arr.new W3 76 [.int .i64 (i : Int), .int .i64 (q : Int), .int .i64 (v : Int), .int .u64 (v : Int)])
    go_upto_region 5 with (fail)
    have hh0 : Hid (hdC s i = if v < 24 then .ok (⟨i, q, v, v⟩, i + 1) else if v < 28 then (if n - (i + 1) < 2 ^ (v - 24) then .err n 4 else .ok (⟨i, q, v, hor 256 id ((s.drop (i + 1)).take (2 ^ (v - 24)))⟩, i + 1 + 2 ^ (v - 24))) else if v < 31 ∨ q = 0 ∨ q = 1 ∨ q = 6 then .err i 4 else .ok (⟨i, q, v, v⟩, i + 1)) := by
      show _ = _
      unfold hdC
      rw [HC.out]
      simp only [HQ.out, HV.out, HN.out]
    obtain ⟨hb, hhb⟩ : ∃ x, W3.heap.size = x := ⟨_, rfl⟩
    have hbr : rb < hb := by rw [← hhb]; exact Z3.out.lt
    change Hid (Arr (W3.alloc (.cells #[.int .i64 (i : Int), .int .i64 (q : Int), .int .i64 (v : Int), .int .u64 (v : Int)] 76)) _ _ _) at H4
    generalize (W3.alloc (.cells #[.int .i64 (i : Int), .int .i64 (q : Int), .int .i64 (v : Int), .int .u64 (v : Int)] 76)) = W4 at *
    rw [hhb] at H4 ⊢
    clear hhb d1 P3 Z3 F3 r1 r2 HC HQ HV
    have d1 := P4.out.cell' (i := 1) rfl
    have e1 := P4.out.frozen 1
    go_upto_region 6 with (fail)
    have P5 : Hid (Arr (W4.setCell ⟨B, 1, none⟩ (.int .i64 ((i : Int) + 1))) B 46 (PC s (i + 1) R)) := P4.out.store 1 (.int .i64 ((i : Int) + 1))
    have Z5 := Lib.hid (Z4.out.far (p := ⟨B, 1, none⟩) (Ne.symm (Nat.ne_of_lt hBl)) (.int .i64 ((i : Int) + 1)))
    have H5 := Lib.hid (H4.out.far (p := ⟨B, 1, none⟩) (Ne.symm (Nat.ne_of_lt (Nat.lt_trans hBl hbr))) (.int .i64 ((i : Int) + 1)))
    have F5 := Lib.hid (F4.out.set (.inl rfl) 1 (.int .i64 ((i : Int) + 1)))
    generalize (W4.setCell ⟨B, 1, none⟩ (.int .i64 ((i : Int) + 1))) = W5 at *
    clear d1 e1 P4 Z4 H4 F4
    have x0 := H5.out.cell' (i := 0) rfl
    have x1 := H5.out.cell' (i := 1) rfl
    have x2 := H5.out.cell' (i := 2) rfl
    have x3 := H5.out.cell' (i := 3) rfl
    have z0 := Z5.out.cell' (i := 0) rfl
    have z1 := Z5.out.cell' (i := 1) rfl
    have z2 := Z5.out.cell' (i := 2) rfl
    have z3 := Z5.out.cell' (i := 3) rfl
    have f0 := Z5.out.frozen 0
    have f1 := Z5.out.frozen 1
    have f2 := Z5.out.frozen 2
    have f3 := Z5.out.frozen 3
    by_cases h24 : v < 24
    · have h24' : (v : Int) < 24 := by omega
      have hh := hh0.out
      rw [if_pos h24] at hh
      clear hh0
      go_wp2_with (fail)
      obtain ⟨g1, g2, g3⟩ := row4 (x0 := .int .i64 (i : Int)) (x1 := .int .i64 (q : Int)) (x2 := .int .i64 (v : Int)) (x3 := .int .u64 (v : Int)) Z5.out F5.out (Nat.le_refl _) hBl P5.out
      exact bodyPost_ret (results_rt Tryz.results21 _ _ _ _ #[.int .i64 (i : Int), .int .i64 (q : Int), .int .i64 (v : Int), .int .u64 (v : Int)] (0, 0) _ _ rfl rfl g1 Tryz.underlying76 rfl hsz_head) rfl (HeadP.of_ok hh rfl (HF.fin (by rw [HRB.out]; exact g2) HP0.out g3))
    have h24' : ¬ (v : Int) < 24 := by omega
    by_cases h28 : v < 28
    · have h28' : (v : Int) < 28 := by omega
      obtain ⟨k, hk⟩ : ∃ k, v = 24 + k := ⟨v - 24, by omega⟩
      have hk1 : (v : Int) - 24 = (k : Int) := by omega
      have HK := Lib.hid hk
      clear hk
      go_upto_region 9 with (fail)
      obtain ⟨b, hb1, hb2⟩ : ∃ b : Nat, 2 ^ k = b ∧ b ≤ 8 := ⟨2 ^ k, rfl, by
        have h := HK.out
        have hk3 : k ≤ 3 := by omega
        exact Nat.le_trans (Nat.pow_le_pow_right (by decide) hk3) (by decide)⟩
      have hk3 : (k : Int) ≤ 3 := by omega
      have hk0 : (0 : Int) ≤ k := by omega
      have hsh : IntKind.i64.wrap (2 ^ k) = (b : Int) := by
        have e : (2 : Int) ^ k = (b : Int) := by rw [← hb1]; simp
        rw [e, IntKind.wrap_i64]
        omega
      have HB := Lib.hid hb1
      clear hb1
      go_upto_region 10 with (fail)
      clear hsh hk1 hk3 hk0
      have hkv : v - 24 = k := by have := HK.out; omega
      have hh1 := hh0.out
      rw [if_neg h24, if_pos h28, hkv, HB.out] at hh1
      have HH1 := Lib.hid hh1
      clear hh0 hh1 hkv HK HB
      have d0 := P5.out.cell' (i := 0) rfl
      have d1 : W5.cell? ⟨B, 1, none⟩ = some (.int .i64 ((i : Int) + 1)) := P5.out.cell' (i := 1) rfl
      have DS := Lib.hid (fun (w' : World) (h : Arr w' B 46 (PC s (i + 1) R)) => short_cb w' h)
      rw [HN.out] at DS
      by_cases hsh : n - (i + 1) < b
      · have hsh' : (n : Int) - ((i : Int) + 1) < b := by omega
        have hh := HH1.out
        rw [if_pos hsh] at hh
        go_quiet (fail)
        have P6 : Hid (Arr (W5.drewN nq) B 46 (PC s (i + 1) R)) := P5
        have Z6 : Hid (Arr (W5.drewN nq) rb 76 [.int .i64 0, .int .i64 0, .int .i64 0, .int .u64 0]) := Z5
        have F6 := Lib.hid (F5.out.drewN nq)
        generalize W5.drewN nq = W6 at *
        have y0 := Z6.out.cell' (i := 0) rfl
        have y1 := Z6.out.cell' (i := 1) rfl
        have y2 := Z6.out.cell' (i := 2) rfl
        have y3 := Z6.out.cell' (i := 3) rfl
        have j0 := Z6.out.frozen 0
        have j1 := Z6.out.frozen 1
        have j2 := Z6.out.frozen 2
        have j3 := Z6.out.frozen 3
        clear x0 x1 x2 x3 z0 z1 z2 z3 f0 f1 f2 f3 d0 d1 Z5 F5 P5 H5 HH1
        go_wp2_with (go_at_call 38; ((with_reducible refine (DS.out _ P6.out).mono ?_)); rintro e w3 ⟨rfl, rfl⟩)
        obtain ⟨g1, g2, g3⟩ := row4 (x0 := .int .i64 0) (x1 := .int .i64 0) (x2 := .int .i64 0) (x3 := .int .u64 0) Z6.out F6.out (Nat.le_refl _) hBl P6.out
        exact bodyPost_ret (results_rt Tryz.results21 _ _ _ _ #[.int .i64 0, .int .i64 0, .int .i64 0, .int .u64 0] (0, 0) _ _ rfl rfl g1 Tryz.underlying76 rfl hsz_head) rfl (HeadP.of_err hh rfl (HF.fin (by rw [HRB.out]; exact g2) HP0.out g3))
      · have hsh' : ¬ (n : Int) - ((i : Int) + 1) < b := by omega
        have hh := HH1.out
        rw [if_neg hsh] at hh
        go_quiet (fail)
        have P6 : Hid (Arr (W5.drewN nq) B 46 (PC s (i + 1) R)) := P5
        have Z6 : Hid (Arr (W5.drewN nq) rb 76 [.int .i64 0, .int .i64 0, .int .i64 0, .int .u64 0]) := Z5
        have H6 : Hid (Arr (W5.drewN nq) hb 76 [.int .i64 (i : Int), .int .i64 (q : Int), .int .i64 (v : Int), .int .u64 (v : Int)]) := H5
        have F6 := Lib.hid (F5.out.drewN nq)
        generalize W5.drewN nq = W6 at *
        have y3 := H6.out.cell' (i := 3) rfl
        have j3 := H6.out.frozen 3
        clear x0 x1 x2 x3 z0 z1 z2 z3 f0 f1 f2 f3 d0 d1 Z5 F5 P5 H5 HH1 DS
        have hbB : B < hb := Nat.lt_trans hBl hbr
        have H7 := Lib.hid (H6.out.store 3 (.int .u64 0))
        have P7 := Lib.hid (P6.out.far (p := ⟨hb, 3, none⟩) (Nat.ne_of_lt hbB) (.int .u64 0))
        have Z7 := Lib.hid (Z6.out.far (p := ⟨hb, 3, none⟩) (Nat.ne_of_lt hbr) (.int .u64 0))
        have F7 := Lib.hid (F6.out.set (.inr (Nat.le_of_lt hbr)) 3 (.int .u64 0))
        go_upto_region 14 with (fail)
        generalize (W6.setCell ⟨hb, 3, none⟩ (.int .u64 0)) = W7 at *
        clear y3 j3 P6 Z6 H6 F6
        obtain ⟨t, ht⟩ : ∃ t, s.drop (i + 1) = t := ⟨_, rfl⟩
        have HT := Lib.hid ht
        rw [ht] at hh
        have htl : b ≤ t.length := by rw [← ht, List.length_drop]; have := HN.out; omega
        have htb : By t := by rw [← ht]; exact HS.out.drop _
        have htg : ∀ j d, t[j]? = some d → s[i + 1 + j]? = some d := fun j d h => by rw [← ht, List.getElem?_drop] at h; exact h
        have HTB := Lib.hid htb
        have HTG := Lib.hid htg
        clear ht htb htg
        have R0 : Hid (Arr W7 B 46 (PC s (i + 1 + 0) R)) := P7
        have L0 : Hid (Arr W7 hb 76 [.int .i64 (i : Int), .int .i64 (q : Int), .int .i64 (v : Int), .int .u64 ((hor 256 id (t.take 0) : Nat) : Int)]) := H7
        clear P7 H7
        go_loopw [80] (fun u wr => ∃ j : Nat, j ≤ b ∧ u = .int .i64 (j : Int) ∧ Hid (Arr wr B 46 (PC s (i + 1 + j) R)) ∧ Hid (Arr wr hb 76 [.int .i64 (i : Int), .int .i64 (q : Int), .int .i64 (v : Int), .int .u64 ((hor 256 id (t.take j) : Nat) : Int)]) ∧ Hid (Arr wr rb 76 [.int .i64 0, .int .i64 0, .int .i64 0, .int .u64 0]) ∧ Hid (HF rb B w wr)) (fun u _ => b - (intOf u).toNat)
        case atStart => exact ⟨0, Nat.zero_le _, rfl, R0, L0, Z7, F7⟩
        case round =>
          clear R0 L0 Z7 F7
          obtain ⟨j, hj, rfl, hR, hL, hZ, hF⟩ := hrel
          have a0 := hR.out.cell' (i := 0) rfl
          have a1 := hR.out.cell' (i := 1) rfl
          have l3 := hL.out.cell' (i := 3) rfl
          have l3f := hL.out.frozen 3
          by_cases hjb : j < b
          · have hjb' : (j : Int) < b := by omega
            obtain ⟨d, hd⟩ : ∃ d, t[j]? = some d := ⟨_, List.getElem?_eq_getElem (by omega)⟩
            have hdb := HTB.out.get hd
            have hst := hor_step (b := 256) (f := id) hd
            have hlt : hor 256 id (t.take j) < 72057594037927936 := by
              have h1 := horF_lt (b := 256) (f := id) (l := t.take j) (fun c hc => HTB.out.take _ c hc) 0
              have h2 : (t.take j).length ≤ 7 := by rw [List.length_take]; omega
              have h3 : (256 : Nat) ^ (t.take j).length ≤ 256 ^ 7 := Nat.pow_le_pow_right (by decide) h2
              have h4 : hor 256 id (t.take j) < 1 * 256 ^ (t.take j).length := by simpa [hor] using h1
              omega
            rw [id_eq] at hst
            obtain ⟨A, hA⟩ : ∃ A, hor 256 id (t.take j) = A := ⟨_, rfl⟩
            rw [hA] at hst hlt hL l3
            have HST := Lib.hid hst
            have hor8 := u64_or8 A d hlt hdb
            rw [← hst] at hor8
            obtain ⟨A2, hA2⟩ : ∃ A2, hor 256 id (t.take (j + 1)) = A2 := ⟨_, rfl⟩
            rw [hA2] at hor8
            have HA3 := Lib.hid hA2
            have hsj := HTG.out j d hd
            obtain ⟨m, hm⟩ : ∃ m, i + 1 + j = m := ⟨_, rfl⟩
            have hm2 : i + 1 + (j + 1) = m + 1 := by omega
            have hM2 := Lib.hid hm2
            rw [hm] at hsj hR
            have a1' : wr.cell? ⟨B, 1, none⟩ = some (.int .i64 (m : Int)) := hR.out.cell' (i := 1) rfl
            have hin3 : m < n := by have := (List.getElem?_eq_some_iff.1 hsj).1; have := HN.out; omega
            have hgt := get_mks hsj hdb (by rw [hsz]; exact hin3)
            have hin4 : (m : Int) < n := by omega
            have hm7 : m ≤ 70000 := by omega
            clear hm hm2 hst hA hA2 hd hsj a1
            have L8 : Hid (Arr (wr.setCell ⟨hb, 3, none⟩ (.int .u64 (A2 : Int))).drew hb 76 [.int .i64 (i : Int), .int .i64 (q : Int), .int .i64 (v : Int), .int .u64 (A2 : Int)]) := Arr.store hL.out 3 (.int .u64 (A2 : Int))
            have P8 : Hid (Arr (wr.setCell ⟨hb, 3, none⟩ (.int .u64 (A2 : Int))).drew B 46 (PC s m R)) := Arr.far hR.out (p := ⟨hb, 3, none⟩) (Nat.ne_of_lt hbB) _
            have Z8 : Hid (Arr (wr.setCell ⟨hb, 3, none⟩ (.int .u64 (A2 : Int))).drew rb 76 [.int .i64 0, .int .i64 0, .int .i64 0, .int .u64 0]) := Arr.far hZ.out (p := ⟨hb, 3, none⟩) (Nat.ne_of_lt hbr) _
            have F8 := Lib.hid ((hF.out.set (.inr (Nat.le_of_lt hbr)) 3 (.int .u64 (A2 : Int))).drew)
            have HO8 := Lib.hid hor8
            clear hor8
            go_upto_region 15 with (fail)
            go_still_tail 14, (by kernel_rfl)
            change wpList _ _ _ _ _ wr.drew
            go_upto_region 16 with (fail)
            rw [HO8.out]
            generalize (wr.setCell ⟨hb, 3, none⟩ (.int .u64 (A2 : Int))).drew = w8 at *
            clear a0 a1' l3 l3f hR hL hZ hF hgt HO8
            have a1 := P8.out.cell' (i := 1) rfl
            have a1f := P8.out.frozen 1
            have P9 : Hid (Arr (w8.setCell ⟨B, 1, none⟩ (.int .i64 ((m : Int) + 1))) B 46 (PC s (i + 1 + (j + 1)) R)) := by rw [hM2.out]; exact P8.out.store 1 (.int .i64 ((m : Int) + 1))
            have L9 := Lib.hid (L8.out.far (p := ⟨B, 1, none⟩) (Ne.symm (Nat.ne_of_lt hbB)) (.int .i64 ((m : Int) + 1)))
            have Z9 := Lib.hid (Z8.out.far (p := ⟨B, 1, none⟩) (Ne.symm (Nat.ne_of_lt hBl)) (.int .i64 ((m : Int) + 1)))
            have F9 := Lib.hid (F8.out.set (.inl rfl) 1 (.int .i64 ((m : Int) + 1)))
            rw [← HA3.out] at L9
            go_wp2_with (fail)
            go_roundw
            case rel => exact ⟨j + 1, by omega, i64e (by omega), P9, L9, Z9, F9⟩
            case measure => simp [intOf]; omega
          · obtain rfl : j = b := by omega
            have hjb' : ¬ (j : Int) < j := by omega
            have l0 := hL.out.cell' (i := 0) rfl
            have l1 := hL.out.cell' (i := 1) rfl
            have l2 := hL.out.cell' (i := 2) rfl
            have z0 := hZ.out.cell' (i := 0) rfl
            have z1 := hZ.out.cell' (i := 1) rfl
            have z2 := hZ.out.cell' (i := 2) rfl
            have z3 := hZ.out.cell' (i := 3) rfl
            have f0 := hZ.out.frozen 0
            have f1 := hZ.out.frozen 1
            have f2 := hZ.out.frozen 2
            have f3 := hZ.out.frozen 3
            obtain ⟨A, hA⟩ : ∃ A, hor 256 id (t.take j) = A := ⟨_, rfl⟩
            rw [hA] at hh l3
            clear a0 a1 l3f hA
            go_wp2_with (fail)
            obtain ⟨g1, g2, g3⟩ := row4 (x0 := .int .i64 (i : Int)) (x1 := .int .i64 (q : Int)) (x2 := .int .i64 (v : Int)) (x3 := .int .u64 (A : Int)) hZ.out hF.out (Nat.le_refl _) hBl hR.out
            exact bodyPost_ret (results_rt Tryz.results21 _ _ _ _ #[.int .i64 (i : Int), .int .i64 (q : Int), .int .i64 (v : Int), .int .u64 (A : Int)] (0, 0) _ _ rfl rfl g1 Tryz.underlying76 rfl hsz_head) rfl (HeadP.of_ok hh rfl (HF.fin (by rw [HRB.out]; exact g2) HP0.out g3))
    have h28' : ¬ (v : Int) < 28 := by omega
    by_cases h31 : v < 31 ∨ q = 0 ∨ q = 1 ∨ q = 6
    · have hh := hh0.out
      rw [if_neg h24, if_neg h28, if_pos h31] at hh
      clear hh0
      have h31' : (v : Int) < 31 ∨ (¬ (v : Int) < 31 ∧ ((q : Int) == 0) = true) ∨ (¬ (v : Int) < 31 ∧ ((q : Int) == 0) = false ∧ ((q : Int) == 1) = true) ∨ (¬ (v : Int) < 31 ∧ ((q : Int) == 0) = false ∧ ((q : Int) == 1) = false ∧ ((q : Int) == 6) = true) := by
        simp only [beq_iff_eq, beq_eq_false_iff_ne]
        omega
      obtain ⟨g1, g2, g3⟩ := row4 (x0 := .int .i64 0) (x1 := .int .i64 0) (x2 := .int .i64 0) (x3 := .int .u64 0) Z5.out F5.out (Nat.le_refl _) hBl P5.out
      have G1 := Lib.hid g1
      have G2 := Lib.hid (HF.fin (by rw [HRB.out]; exact g2) HP0.out g3)
      clear g1 g2 g3 h31
      rcases h31' with h1 | ⟨h1, h2⟩ | ⟨h1, h2, h3⟩ | ⟨h1, h2, h3, h4⟩
      all_goals
        go_upto_region 20 with (fail)
        clear x1 x2 x3
        go_region
        all_goals
          go_wp2_with (fail)
          exact bodyPost_ret (results_rt Tryz.results21 _ _ _ _ #[.int .i64 0, .int .i64 0, .int .i64 0, .int .u64 0] (0, 0) _ _ rfl rfl G1.out Tryz.underlying76 rfl hsz_head) rfl (HeadP.of_err hh rfl (AtW.drew G2.out))
    · have hh := hh0.out
      rw [if_neg h24, if_neg h28, if_neg h31] at hh
      clear hh0
      have h1 : ¬ (v : Int) < 31 := by omega
      have h2 : ((q : Int) == 0) = false := by rw [beq_eq_false_iff_ne]; omega
      have h3 : ((q : Int) == 1) = false := by rw [beq_eq_false_iff_ne]; omega
      have h4 : ((q : Int) == 6) = false := by rw [beq_eq_false_iff_ne]; omega
      clear h31
      go_wp2_with (fail)
      obtain ⟨g1, g2, g3⟩ := row4 (x0 := .int .i64 (i : Int)) (x1 := .int .i64 (q : Int)) (x2 := .int .i64 (v : Int)) (x3 := .int .u64 (v : Int)) Z5.out F5.out (Nat.le_refl _) hBl P5.out
      exact bodyPost_ret (results_rt Tryz.results21 _ _ _ _ #[.int .i64 (i : Int), .int .i64 (q : Int), .int .i64 (v : Int), .int .u64 (v : Int)] (0, 0) _ _ rfl rfl g1 Tryz.underlying76 rfl hsz_head) rfl (HeadP.of_ok hh rfl (HF.fin (by rw [HRB.out]; exact g2) HP0.out g3))
  · have hin' : (n : Int) ≤ i := by omega
    have hh : hdC s i = .err s.length 4 := by
      unfold hdC
      rw [List.getElem?_eq_none (by have := HN.out; omega)]
    have DS := Lib.hid (fun (w' : World) (h : Arr w' B 46 (PC s i R)) => short_cb w' h)
    rw [HN.out] at DS hh
    go_quiet (fail)
    have P2 : Hid (Arr (W.drewN nq) B 46 (PC s i R)) := hP1
    have Z2 : Hid (Arr (W.drewN nq) rb 76 [.int .i64 0, .int .i64 0, .int .i64 0, .int .u64 0]) := hz
    have F2 := Lib.hid (hF.out.drewN nq)
    generalize W.drewN nq = W2 at *
    have z0 := Z2.out.cell' (i := 0) rfl
    have z1 := Z2.out.cell' (i := 1) rfl
    have z2 := Z2.out.cell' (i := 2) rfl
    have z3 := Z2.out.cell' (i := 3) rfl
    have f0 := Z2.out.frozen 0
    have f1 := Z2.out.frozen 1
    have f2 := Z2.out.frozen 2
    have f3 := Z2.out.frozen 3
    clear c0 c1
    go_wp2_with (go_at_call 38; ((with_reducible refine (DS.out _ P2.out).mono ?_)); rintro e w3 ⟨rfl, rfl⟩)
    obtain ⟨g1, g2, g3⟩ := row4 (x0 := .int .i64 0) (x1 := .int .i64 0) (x2 := .int .i64 0) (x3 := .int .u64 0) Z2.out F2.out (Nat.le_refl _) hBl P2.out
    exact bodyPost_ret (results_rt Tryz.results21 _ _ _ _ #[.int .i64 0, .int .i64 0, .int .i64 0, .int .u64 0] (0, 0) _ _ rfl rfl g1 Tryz.underlying76 rfl hsz_head) rfl (HeadP.of_err hh rfl (atw_self HP0.out rfl (by rw [HRB.out]; exact g2) g3))
end Go.Proofs.YtbhigefbihpnlaaGreatDoor
namespace Go.Proofs.YtbhigefbihpnlaaGreatDoor
open Go.RowKit
theorem idxB_at {c : Nat} {l : List Nat} {n : Nat} (h : idxB c l = some n) : n < l.length ∧ l.getD n 0 = c := by
 induction l generalizing n with
 | nil => cases h
 | cons a l ih =>
  unfold idxB at h
  split at h
  ·rename_i e; cases h; exact ⟨by simp, e⟩
  ·cases h1 : idxB c l with
   | none => rw [h1] at h; cases h
   | some m => rw [h1] at h; cases h; have := ih h1; exact ⟨by simp; omega, this.2⟩
end Go.Proofs.YtbhigefbihpnlaaGreatDoor
namespace Go.Proofs.YtbhigefbihpnlaaGreatDoor
structure TS where
 nx : Nat
 index : List Int
 low : List Int
 inn : List Int
 sizes : List Int
 stack : List Int
 on : List Bool
def gI (l : List Int) (x : Int) : Int := l.getD x.toNat 0
def sI (l : List Int) (x v : Int) : List Int := l.set x.toNat v
def pushT (at_ : Int) (s : TS) : TS := ⟨s.nx + 1, sI s.index at_ (s.nx + 1 : Nat), sI s.low at_ (s.nx + 1 : Nat), s.inn, s.sizes, s.stack ++ [at_], s.on.set at_.toNat true⟩
def stepT (g : Int → TS → Option TS) (at_ x : Int) (s : TS) : Option TS :=
 if gI s.index x = 0 then match g x s with
  | none => none
  | some s' => some { s' with low := sI s'.low at_ (min (gI s'.low at_) (gI s'.low x)) }
 else if s.on.getD x.toNat false then some { s with low := sI s.low at_ (min (gI s.low at_) (gI s.index x)) }
 else some s
def popT (at_ : Int) : Nat → Nat → TS → Option TS
 | 0, _, _ => none
 | f + 1, k, s => match s.stack.getLast? with
  | none => none
  | some x =>
   let s' : TS := { s with stack := s.stack.dropLast, on := s.on.set x.toNat false, inn := sI s.inn x (s.sizes.length : Nat) }
   if x = at_ then some { s' with sizes := s'.sizes ++ [((k + 1 : Nat) : Int)] } else popT at_ f (k + 1) s'
def doneT (at_ : Int) (s : TS) : Option TS :=
 if gI s.low at_ = gI s.index at_ then popT at_ (s.stack.length + 1) 0 s else some s
def visitT (nodes : List GNode) : Nat → Int → TS → Option TS
 | 0, _, _ => none
 | f + 1, at_, s => match runG (stepT (visitT nodes f) at_) (ndAt nodes at_.toNat).keys (pushT at_ s) with
  | none => none
  | some s1 => match runG (stepT (visitT nodes f) at_) (ndAt nodes at_.toNat).items s1 with
   | none => none
   | some s2 => doneT at_ s2
def startT (n : Nat) : TS := ⟨0, List.replicate n 0, List.replicate n 0, List.replicate n (-1), [], [], List.replicate n false⟩
def compV (nodes : List GNode) (root : Int) : Option TS := visitT nodes (nodes.length + 1) root (startT nodes.length)
/-! ### Depth -/
def edgeD (inn : List Int) (c : Nat) (st : List Int × Bool) (x : Int) : List Int × Bool :=
 if gI inn x = (c : Int) then (st.1, false) else (st.1.set c (max (st.1.getD c 0) (gI st.1 (gI inn x))), st.2)
def nodeD (nodes : List GNode) (inn : List Int) (c : Nat) (st : List Int × Bool) (i : Nat) : List Int × Bool := (refs (ndAt nodes i)).foldl (edgeD inn c) st
def membersV (inn : List Int) (c : Nat) : List Nat := (List.range inn.length).filter fun i => decide (inn.getD i 0 = (c : Int))
def compD (nodes : List GNode) (inn sizes : List Int) (st : List Int × Bool) (c : Nat) : List Int × Bool :=
 let st' := (membersV inn c).foldl (nodeD nodes inn c) st
 (st'.1.set c (st'.1.getD c 0 + sizes.getD c 0), st'.2)
def belowV (nodes : List GNode) (inn sizes : List Int) : List Int × Bool := (List.range sizes.length).foldl (compD nodes inn sizes) (List.replicate sizes.length 0, true)
def depthV (nodes : List GNode) (root : Int) : Option (Int × Bool) := (compV nodes root).map fun s =>
 let b := belowV nodes s.inn s.sizes
 (gI b.1 (gI s.inn root) - 1, b.2)
end Go.Proofs.YtbhigefbihpnlaaGreatDoor
