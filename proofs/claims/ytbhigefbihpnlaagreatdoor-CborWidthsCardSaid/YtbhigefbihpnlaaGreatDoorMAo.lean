/- Rows of the call's own: small laws. -/
import Derived.Test.YtbhigefbihpnlaaGreatDoorMAg
import Derived.Test.YtbhigefbihpnlaaGreatDoorMAn
import Derived.Test.YtbhigefbihpnlaaGreatDoorMAe
set_option linter.unusedVariables false
set_option linter.unusedSimpArgs false
set_option linter.defProp false
set_option linter.constructorNameAsVariable false
namespace Go.Proofs.YtbhigefbihpnlaaGreatDoor
open Go.RowKit
theorem own_some {w : World} {b : Nat} {e : TypeId} {k : Nat} {v : Value} {n : Nat} {xs : List Value} (h : w.ownsRow b e k v n xs) (hn : 0 < n) : ∃ g c, v = .slice (some ⟨g, 0, none⟩) n c ∧ n ≤ c ∧ c ≤ maxLen := by
 rcases h.2 with ⟨rfl, h0⟩ | ⟨g, cap, cur, rfl, _, _, h1, h2, _⟩
 ·omega
 ·exact ⟨g, cap, rfl, h1, h2⟩
theorem own_set1 {w : World} {b : Nat} {e : TypeId} {k g n cap : Nat} {xs : List Value} (h : w.ownsRow b e k (.slice (some ⟨g, 0, none⟩) n cap) n xs) (i : Nat) (u : Value) : (w.setCell ⟨g, i, none⟩ u).ownsRow b e k (.slice (some ⟨g, 0, none⟩) n cap) n (xs.set i u) := by
 refine ⟨by rw [List.length_set]; exact h.1, ?_⟩
 rcases h.2 with ⟨hv, _⟩ | ⟨g', cap', cur, hv, hb, hg, h1, h2, h3, h4⟩
 ·cases hv
 ·injection hv with hv1 _ hv3
  injection hv1 with hv1
  injection hv1 with hv1
  subst hv1
  subst hv3
  refine .inr ⟨g, cap, cur.setIfInBounds i u, rfl, hb, ?_, h1, h2, by simpa using h3, ?_⟩
  ·simp [World.setCell, Array.getElem?_modify, hg]
  ·rw [Array.toList_setIfInBounds, List.take_set, h4]
theorem own_cell1 {w : World} {b : Nat} {e : TypeId} {k g n cap : Nat} {xs : List Value} (h : w.ownsRow b e k (.slice (some ⟨g, 0, none⟩) n cap) n xs) {i : Nat} {u : Value} (hu : xs[i]? = some u) : w.cell? ⟨g, i, none⟩ = some u ∧ w.frozen? ⟨g, i, none⟩ = false := by
 have h1 := h.cells (g := g) rfl i u hu
 rw [Addr.add_mid, Nat.zero_add] at h1
 rcases h.2 with ⟨hv, _⟩ | ⟨g', cap', cur, hv, hb, hg, _⟩
 ·cases hv
 ·injection hv with hv1 _ hv3
  injection hv1 with hv1
  injection hv1 with hv1
  subst hv1
  exact ⟨h1, frozen_of_row w g i cur e hg⟩
theorem InR_get {N : Nat} {xs : List Int} (h : ∀ x ∈ xs, 0 ≤ x ∧ x < (N : Int)) {k : Nat} (hk : k < xs.length) : ∃ a : Nat, xs[k]? = some (a : Int) ∧ a < N := by
 obtain ⟨h1, h2⟩ := h xs[k] (List.getElem_mem hk)
 exact ⟨xs[k].toNat, by rw [List.getElem?_eq_getElem hk]; congr 1; omega, by omega⟩
structure KP (N0 g0 : Nat) (w w' : World) : Prop where
 os : w'.os = w.os
 tape : w'.tape = w.tape
 output : w'.output = w.output
 size : w.heap.size ≤ w'.heap.size
 keep : ∀ b, b < N0 → b ≠ g0 → w'.heap[b]? = w.heap[b]?
theorem KP.of_below {N0 g0 B : Nat} {w w' : World} (h : Below B w w') (hB : N0 ≤ B) : KP N0 g0 w w' := ⟨h.os, h.tape, h.output, h.size, fun b hb _ => h.block b (by omega)⟩
theorem KP.trans {N0 g0 : Nat} {a b c : World} (h : KP N0 g0 a b) (k : KP N0 g0 b c) : KP N0 g0 a c := ⟨k.os.trans h.os, k.tape.trans h.tape, k.output.trans h.output, Nat.le_trans h.size k.size, fun j hj hn => (k.keep j hj hn).trans (h.keep j hj hn)⟩
theorem KP.drew {N0 g0 : Nat} {w w' : World} (h : KP N0 g0 w w') : KP N0 g0 w w'.drew := ⟨h.os, h.tape, h.output, h.size, h.keep⟩
theorem KP.set {N0 g0 : Nat} {w w' : World} (h : KP N0 g0 w w') {p : Addr} (hp : p.block = g0 ∨ N0 ≤ p.block) (u : Value) : KP N0 g0 w (w'.setCell p u) :=
 ⟨h.os, h.tape, h.output, by simpa [World.setCell] using h.size, fun b hb hn => (Below.heap_setCell w' p u b (by rcases hp with e | e <;> omega)).trans (h.keep b hb hn)⟩
theorem KP.grown {N0 g0 r : Nat} {w w' w2 : World} (h : KP N0 g0 w w') (hg : w'.grownBy w2 (some r)) (hr : r = g0 ∨ N0 ≤ r) (hN : N0 ≤ w'.heap.size) : KP N0 g0 w w2 :=
 ⟨hg.os.trans h.os, hg.tape.trans h.tape, hg.output.trans h.output, Nat.le_trans h.size hg.size, fun b hb hn => (hg.block b (by omega) (fun e => by have := Option.some.inj e; rcases hr with e2 | e2 <;> omega)).trans (h.keep b hb hn)⟩
theorem KP.refl (N0 g0 : Nat) (w : World) : KP N0 g0 w w := ⟨rfl, rfl, rfl, Nat.le_refl _, fun _ _ _ => rfl⟩
theorem KP.below {N0 g0 B : Nat} {w w' : World} (h : KP N0 g0 w w') (h1 : B ≤ N0) (h2 : B ≤ g0) : Below B w w' := ⟨h.os, h.tape, h.output, h.size, fun b hb => h.keep b (by omega) (by omega)⟩
theorem KP.cell {N0 g0 : Nat} {w w' : World} (h : KP N0 g0 w w') {a : Addr} {u : Value} (hc : w.cell? a = some u) (h1 : a.block < N0) (h2 : a.block ≠ g0) : w'.cell? a = some u := by
 rw [← hc]
 exact World.cell?_of_block (h.keep a.block h1 h2)
theorem KP.own {N0 g0 : Nat} {w w' : World} (h : KP N0 g0 w w') {b : Nat} {e : TypeId} {k : Nat} {v : Value} {n : Nat} {xs : List Value} (ho : w.ownsRow b e k v n xs) (h1 : ∀ g, v.ownBlock = some g → g < N0 ∧ g ≠ g0) : w'.ownsRow b e k v n xs :=
 own_same ho fun g hg => h.keep g (h1 g hg).1 (h1 g hg).2
section
variable {P : Program} {w : World} {ops : Array Oper} {rest : List Oper} {o : Oper} {a : Act} {Q : Exit → Act → World → Prop}
end
end Go.Proofs.YtbhigefbihpnlaaGreatDoor
namespace Go.Proofs.YtbhigefbihpnlaaGreatDoor
open Go.RowKit
def U32 (l : List Nat) : List Value := l.map fun (d : Nat) => Value.int .u32 (d : Int)
theorem infoU32 : (Tryz.prog.info? 185).map (fun i => (i.zero, i.size, i.bytes)) = some (some (.int .u32 0), 1, 4) := by kernel_rfl
def inc3 (hi lo : Nat) : List Nat := if lo + 1 < 4294967296 then [0, hi, lo + 1] else if hi + 1 < 4294967296 then [0, hi + 1, 0] else [1, 0, 0]
theorem inc3_hor {hi lo : Nat} (h1 : hi < 4294967296) (h2 : lo < 4294967296) : hor 4294967296 id (inc3 hi lo) = hi * 4294967296 + lo + 1 := by
 unfold inc3 hor horF
 split
 ·simp; omega
 ·split
  ·simp; omega
  ·simp; omega
def LimbsP (w : World) (l : List Nat) (v : Value) (w' : World) : Prop := ∃ A c, v = .slice (some A) l.length c ∧ w.heap.size ≤ A.block ∧ Rd w' (some A) (U32 l) ∧ Below w.heap.size w w'
theorem limbs_of {w w' : World} {rb g c n : Nat} {l : List Nat} (hR : w'.ownsRow rb 185 1 (.slice (some ⟨g, 0, none⟩) n c) n (U32 l)) (hl : l.length = n) (hrb : w.heap.size = rb) (hb : Below w.heap.size w w') : LimbsP w l (.slice (some ⟨g, 0, none⟩) n c) w' :=
 ⟨⟨g, 0, none⟩, c, by rw [hl], by have := (hR.lt g rfl).1; show w.heap.size ≤ g; omega, fun j u hj => ⟨_, rfl, hR.cells rfl j u hj⟩, hb⟩
set_option maxRecDepth 20000 in
set_option maxHeartbeats 16000000 in
theorem next_cb {hi lo : Nat} (h1 : hi < 4294967296) (h2 : lo < 4294967296) (A : Addr) (c : Nat) (w : World) (hr : Rd w (some A) (U32 [hi, lo])) :
  Calls Tryz.prog 103 #[.slice (some A) 2 c] w fun e w' => ∃ v, e = .returned v ∧ LimbsP w (inc3 hi lo) v w' := by
 obtain ⟨V, hV⟩ : ∃ V, inc3 hi lo = V := ⟨_, rfl⟩
 rw [hV]
 have HV := Lib.hid hV
 clear hV
 have hb1 : Below w.heap.size w (w.alloc (.cells #[.int .u32 0] 185)) := (Below.refl _ _).alloc (Nat.le_refl _) _
 have hown0 := own_one w 185 (.int .u32 0) w.heap.size (Nat.le_refl _)
 have hr1 := hr.keep hb1
 have hone : ∀ u ∈ U32 [hi, lo], u.oneCell' = true := by intro u hu; simp [U32] at hu; rcases hu with rfl | rfl <;> rfl
 have hsz1 := hb1.size
 clear hr
 go_enter Tryz.func103, Tryz.ntmps103
 go_upto_region 3 with (at_builtin; go_loud (refine wpList_apl rfl (.tmp 5) (.tmp 6) 147 rfl w.heap.size 185 _ 4 Tryz.underlying147 infoU32 rfl _ 1 [.int .u32 0] rfl hown0 (some A) 2 c (U32 [hi, lo]) rfl hr1 rfl (fun e => nomatch e) hone (by unfold maxLen; omega) (by omega) hsz1 ?_; intro v3 w3 hown3 hgr3; obtain ⟨g3, c3, hv3, _, _⟩ := own_some hown3 (by omega); subst hv3))
 have hb3 : Hid (Below w.heap.size w w3) := hb1.grown hgr3 hsz1 (fun k e => by
  have e2 : w.heap.size = k := Option.some.inj e
  omega)
 have hR0 : Hid (w3.ownsRow w.heap.size 185 1 (.slice (some ⟨g3, 0, none⟩) 3 c3) 3 [.int .u32 ((0 : Nat) : Int), .int .u32 (hi : Int), .int .u32 (lo : Int)]) := hown3
 obtain ⟨rb, hrb⟩ : ∃ x, w.heap.size = x := ⟨_, rfl⟩
 have HRB := Lib.hid hrb
 rw [hrb] at hb3 hR0
 have hg3 := (hR0.out.lt g3 rfl).1
 clear hrb hown3 hgr3 hown0 hr1 hb1 hsz1 hone
 have h20 : (2 : Int) = ((2 - 0 : Nat) : Int) := rfl
 go_loopw [4] (fun v wr => ∃ j : Nat, j ≤ 2 ∧ v = .int .i64 (2 - (j : Int)) ∧ (0 < j → lo = 4294967295) ∧ (1 < j → hi = 4294967295) ∧ Hid (wr.ownsRow rb 185 1 (.slice (some ⟨g3, 0, none⟩) 3 c3) 3 [.int .u32 ((0 : Nat) : Int), .int .u32 ((if 1 < j then 0 else hi : Nat) : Int), .int .u32 ((if 0 < j then 0 else lo : Nat) : Int)]) ∧ Hid (Below rb w wr)) (fun v _ => (intOf v).toNat)
 case atStart => exact ⟨0, by omega, rfl, fun h => absurd h (by decide), fun h => absurd h (by decide), hR0, hb3⟩
 case round =>
  clear hR0 hb3 h20
  obtain ⟨j, hj, rfl, hl0, hl1, hR, hb⟩ := hrel
  have hj3 : j = 0 ∨ j = 1 ∨ j = 2 := by omega
  rcases hj3 with rfl | rfl | rfl
  ·have hR' : Hid (wr.ownsRow rb 185 1 (.slice (some ⟨g3, 0, none⟩) 3 c3) 3 [.int .u32 0, .int .u32 (hi : Int), .int .u32 (lo : Int)]) := hR
   obtain ⟨k2, f2⟩ := own_cell1 hR'.out (i := 2) rfl
   clear hR
   by_cases hlo : lo + 1 < 4294967296
   ·have hlo' : (lo : Int) + 1 ≤ 4294967295 := by omega
    have hpos : (0 : Int) < (lo : Int) + 1 := by omega
    have hV2 : V = [0, hi, lo + 1] := by rw [← HV.out]; unfold inc3; rw [if_pos hlo]
    have R2 : Hid ((wr.setCell ⟨g3, 2, none⟩ (.int .u32 ((lo : Int) + 1))).ownsRow rb 185 1 (.slice (some ⟨g3, 0, none⟩) 3 c3) 3 (U32 [0, hi, lo + 1])) := own_put hR'.out 2 _
    have B2 := Lib.hid (hb.out.setCell (p := ⟨g3, 2, none⟩) hg3 (.int .u32 ((lo : Int) + 1)))
    clear HV
    go_wp2_with (fail)
    go_ret
    exact ⟨_, rfl, by rw [hV2]; exact limbs_of R2.out rfl HRB.out (by rw [HRB.out]; exact B2.out)⟩
   ·obtain rfl : lo = 4294967295 := by omega
    have R2 : Hid ((wr.setCell ⟨g3, 2, none⟩ (.int .u32 0)).ownsRow rb 185 1 (.slice (some ⟨g3, 0, none⟩) 3 c3) 3 [.int .u32 ((0 : Nat) : Int), .int .u32 ((if 1 < 1 then 0 else hi : Nat) : Int), .int .u32 ((if 0 < 1 then 0 else 4294967295 : Nat) : Int)]) := own_put hR'.out 2 _
    have B2 := Lib.hid (hb.out.setCell (p := ⟨g3, 2, none⟩) hg3 (.int .u32 0))
    clear hlo
    go_wp2_with (fail)
    go_roundw
    case rel => exact ⟨1, by omega, i64e (by omega), fun _ => trivial, fun h => absurd h (by decide), R2, B2⟩
    case measure => simp [intOf]
  ·have hl := hl0 (by decide)
   subst hl
   have hR' : Hid (wr.ownsRow rb 185 1 (.slice (some ⟨g3, 0, none⟩) 3 c3) 3 [.int .u32 0, .int .u32 (hi : Int), .int .u32 0]) := hR
   obtain ⟨k2, f2⟩ := own_cell1 hR'.out (i := 1) rfl
   clear hR hl0 hl1
   by_cases hlo : hi + 1 < 4294967296
   ·have hlo' : (hi : Int) + 1 ≤ 4294967295 := by omega
    have hpos : (0 : Int) < (hi : Int) + 1 := by omega
    have hV2 : V = [0, hi + 1, 0] := by rw [← HV.out]; unfold inc3; rw [if_neg (by decide), if_pos hlo]
    have R2 : Hid ((wr.setCell ⟨g3, 1, none⟩ (.int .u32 ((hi : Int) + 1))).ownsRow rb 185 1 (.slice (some ⟨g3, 0, none⟩) 3 c3) 3 (U32 [0, hi + 1, 0])) := own_put hR'.out 1 _
    have B2 := Lib.hid (hb.out.setCell (p := ⟨g3, 1, none⟩) hg3 (.int .u32 ((hi : Int) + 1)))
    clear HV
    go_wp2_with (fail)
    go_ret
    exact ⟨_, rfl, by rw [hV2]; exact limbs_of R2.out rfl HRB.out (by rw [HRB.out]; exact B2.out)⟩
   ·obtain rfl : hi = 4294967295 := by omega
    have R2 : Hid ((wr.setCell ⟨g3, 1, none⟩ (.int .u32 0)).ownsRow rb 185 1 (.slice (some ⟨g3, 0, none⟩) 3 c3) 3 [.int .u32 ((0 : Nat) : Int), .int .u32 ((if 1 < 2 then 0 else 4294967295 : Nat) : Int), .int .u32 ((if 0 < 2 then 0 else 4294967295 : Nat) : Int)]) := own_put hR'.out 1 _
    have B2 := Lib.hid (hb.out.setCell (p := ⟨g3, 1, none⟩) hg3 (.int .u32 0))
    clear hlo
    go_wp2_with (fail)
    go_roundw
    case rel => exact ⟨2, by omega, i64e (by omega), fun _ => trivial, fun _ => trivial, R2, B2⟩
    case measure => simp [intOf]
  ·have hl := hl0 (by decide)
   have hl2 := hl1 (by decide)
   subst hl hl2
   have hR' : Hid (wr.ownsRow rb 185 1 (.slice (some ⟨g3, 0, none⟩) 3 c3) 3 [.int .u32 0, .int .u32 0, .int .u32 0]) := hR
   obtain ⟨k2, f2⟩ := own_cell1 hR'.out (i := 0) rfl
   clear hR hl0 hl1
   have hV2 : V = [1, 0, 0] := by rw [← HV.out]; rfl
   have R2 : Hid ((wr.setCell ⟨g3, 0, none⟩ (.int .u32 1)).ownsRow rb 185 1 (.slice (some ⟨g3, 0, none⟩) 3 c3) 3 (U32 [1, 0, 0])) := own_put hR'.out 0 _
   have B2 := Lib.hid (hb.out.setCell (p := ⟨g3, 0, none⟩) hg3 (.int .u32 1))
   clear HV
   go_wp2_with (fail)
   go_ret
   exact ⟨_, rfl, by rw [hV2]; exact limbs_of R2.out rfl HRB.out (by rw [HRB.out]; exact B2.out)⟩
def limbV (h : CH) : List Nat := if h.major = 1 then inc3 (h.arg / 4294967296) (h.arg % 4294967296) else [h.arg / 4294967296, h.arg % 4294967296]
def OfP (w : World) (h : CH) (e : Ending) (w' : World) : Prop := ∃ A c, e = .returned (.agg #[.slice (some A) (limbV h).length c, .bool (h.major == 1)]) ∧ w.heap.size ≤ A.block ∧ Rd w' (some A) (U32 (limbV h)) ∧ Below w.heap.size w w'
theorem hsz_whole : (Tryz.prog.info? 149).map (·.size) = some 2 := by kernel_rfl
set_option maxRecDepth 20000 in
set_option maxHeartbeats 16000000 in
theorem of_cb {h : CH} (ha : h.arg < 18446744073709551616) (w : World) : Calls Tryz.prog 70 #[headV h] w (OfP w h) := by
 obtain ⟨hat, hm, hinf, a⟩ := h
 have ha' : a < 18446744073709551616 := ha
 obtain ⟨hi, hhi⟩ : ∃ x, a / 4294967296 = x := ⟨_, rfl⟩
 obtain ⟨lo, hlo⟩ : ∃ x, a % 4294967296 = x := ⟨_, rfl⟩
 have h1 : hi < 4294967296 := by omega
 have h2 : lo < 4294967296 := by omega
 have e1 : (a : Int) / 4294967296 = (hi : Int) := by omega
 have e2 : (a : Int) % 4294967296 = (lo : Int) := by omega
 have HH := Lib.hid hhi
 have HL := Lib.hid hlo
 obtain ⟨q1, q2, hb1, hz1⟩ := box2 w 76 149 [.int .i64 (hat : Int), .int .i64 (hm : Int), .int .i64 (hinf : Int), .int .u64 (a : Int)] [.slice none 0 0, .bool false]
 clear ha hhi hlo
 go_enter Tryz.func70, Tryz.ntmps70
 go_upto_region 1 with (fail)
 obtain ⟨gb, hgb⟩ : ∃ x, w.heap.size = x := ⟨_, rfl⟩
 have HGB := Lib.hid hgb
 have HB1 := Lib.hid hb1
 generalize ((w.alloc (.cells #[.int .i64 (hat : Int), .int .i64 (hm : Int), .int .i64 (hinf : Int), .int .u64 (a : Int)] 76)).alloc (.cells #[.slice none 0 0, .bool false] 149)) = W at *
 rw [hgb] at q1 q2 hz1 HB1 ⊢
 clear hgb hb1
 have hgl := q2.out.lt
 have x1 := q1.out.cell' (i := 1) rfl
 have x3 := q1.out.cell' (i := 3) rfl
 have hw1 : IntKind.u32.wrap (hi : Int) = (hi : Int) := by rw [IntKind.wrap_u32]; omega
 have hw2 : IntKind.u32.wrap (a : Int) = (lo : Int) := by rw [IntKind.wrap_u32]; omega
 have hb2 : Below W.heap.size W (W.alloc (.cells #[.int .u32 (hi : Int), .int .u32 (lo : Int)] 185)) := (Below.refl _ _).alloc (Nat.le_refl _) _
 have hA := Lib.hid (Arr.new W 185 [.int .u32 (hi : Int), .int .u32 (lo : Int)])
 go_upto_region 2 with (fail)
 clear x3 hw1 hw2 e1 e2
 have Q1 := Lib.hid (q1.out.keep hb2)
 have Q2 := Lib.hid (q2.out.keep hb2)
 have HB2 := Lib.hid (HB1.out.trans (hb2.mono (by omega)))
 have hs2 := hb2.size
 change Hid (Arr (W.alloc (.cells #[.int .u32 (hi : Int), .int .u32 (lo : Int)] 185)) _ _ _) at hA
 obtain ⟨lb, hlb⟩ : ∃ x, W.heap.size = x := ⟨_, rfl⟩
 have hlb2 : gb + 1 < lb := by omega
 generalize (W.alloc (.cells #[.int .u32 (hi : Int), .int .u32 (lo : Int)] 185)) = W2 at *
 rw [hlb] at hA ⊢
 clear hlb hb2 q1 q2 HB1 x1 hz1
 have x1 := Q1.out.cell' (i := 1) rfl
 have hsz := hsz_whole
 by_cases h1m : hm = 1
 ·have hm1 : ((hm : Int) == 1) = true := by simp; omega
  have hlim : limbV ⟨hat, hm, hinf, a⟩ = inc3 hi lo := by unfold limbV; rw [if_pos h1m, ← HH.out, ← HL.out]
  have D := Lib.hid (next_cb h1 h2 ⟨lb, 0, none⟩ 2 W2 hA.out.rd)
  have hil : (inc3 hi lo).length = 3 := by unfold inc3; split <;> (try split) <;> rfl
  obtain ⟨L, hL⟩ : ∃ L, inc3 hi lo = L := ⟨_, rfl⟩
  rw [hL] at hlim D hil
  have HIL := Lib.hid hil
  have HLM := Lib.hid hlim
  have H1M := Lib.hid h1m
  clear hlim hil hL h1m
  have g0 := Q2.out.lt
  go_wp2_with (go_at_call 103; ((with_reducible refine D.out.mono ?_)); rintro e w3 ⟨v3, rfl, A3, c3, hv3, hA3, hr3, hb3⟩; rw [HIL.out] at hv3; subst hv3; have k0 := (Q2.out.keep hb3).cell' (i := 0) rfl; have k1 := (Q2.out.keep hb3).cell' (i := 1) rfl; have f0 := (Q2.out.keep hb3).frozen 0; have f1 := (Q2.out.keep hb3).frozen 1)
  have h6 : Arr ((w3.setCell ⟨gb + 1, 0, none⟩ (.slice (some A3) 3 c3)).setCell ⟨gb + 1, 1, none⟩ (.bool true)) (gb + 1) 149 [.slice (some A3) 3 c3, .bool true] := ((Q2.out.keep hb3).store 0 _).store 1 _
  have hAb : A3.block ≠ gb + 1 := by omega
  exact bodyPost_ret (v := .agg #[.slice (some A3) 3 c3, .bool true]) (results_cell_row Tryz.results70 _ _ _ _ #[.slice (some A3) 3 c3, .bool true] (0, 0) _ rfl h6 Tryz.underlying149 rfl hsz) rfl ⟨A3, c3, by rw [HLM.out, HIL.out]; simp [H1M.out], by have := HGB.out; omega, by rw [HLM.out]; exact (hr3.setCell (p := ⟨gb + 1, 0, none⟩) _ (fun ad e => by obtain rfl := Option.some.inj e; exact hAb)).setCell (p := ⟨gb + 1, 1, none⟩) _ (fun ad e => by obtain rfl := Option.some.inj e; exact hAb), by rw [HGB.out]; exact (((HB2.out.trans (hb3.mono (by omega))).setCell (p := ⟨gb + 1, 0, none⟩) (by show gb ≤ gb + 1; omega) _).setCell (p := ⟨gb + 1, 1, none⟩) (by show gb ≤ gb + 1; omega) _)⟩
 ·have hm1 : ((hm : Int) == 1) = false := by simp; omega
  have hlim : limbV ⟨hat, hm, hinf, a⟩ = [hi, lo] := by unfold limbV; rw [if_neg h1m, ← HH.out, ← HL.out]
  have k0 := Q2.out.cell' (i := 0) rfl
  have k1 := Q2.out.cell' (i := 1) rfl
  have f0 := Q2.out.frozen 0
  have f1 := Q2.out.frozen 1
  go_wp2_with (fail)
  have h6 : Arr ((W2.setCell ⟨gb + 1, 0, none⟩ (.slice (some ⟨lb, 0, none⟩) 2 2)).setCell ⟨gb + 1, 1, none⟩ (.bool false)) (gb + 1) 149 [.slice (some ⟨lb, 0, none⟩) 2 2, .bool false] := (Q2.out.store 0 _).store 1 _
  have hA' := (hA.out.far (p := ⟨gb + 1, 0, none⟩) (show lb ≠ gb + 1 by omega) (.slice (some ⟨lb, 0, none⟩) 2 2)).far (p := ⟨gb + 1, 1, none⟩) (show lb ≠ gb + 1 by omega) (.bool false)
  exact bodyPost_ret (v := .agg #[.slice (some ⟨lb, 0, none⟩) 2 2, .bool false]) (results_cell_row Tryz.results70 _ _ _ _ #[.slice (some ⟨lb, 0, none⟩) 2 2, .bool false] (0, 0) _ rfl h6 Tryz.underlying149 rfl hsz) rfl ⟨⟨lb, 0, none⟩, 2, by rw [hlim]; show Ending.returned (.agg #[.slice (some ⟨lb, 0, none⟩) 2 2, .bool false]) = .returned (.agg #[.slice (some ⟨lb, 0, none⟩) 2 2, .bool (hm == 1)]); rw [beq_eq_false_iff_ne.2 h1m], by have := HGB.out; show w.heap.size ≤ lb; omega, by rw [hlim]; exact hA'.rd, by rw [HGB.out]; exact ((HB2.out.setCell (p := ⟨gb + 1, 0, none⟩) (by show gb ≤ gb + 1; omega) _).setCell (p := ⟨gb + 1, 1, none⟩) (by show gb ≤ gb + 1; omega) _)⟩
end Go.Proofs.YtbhigefbihpnlaaGreatDoor
namespace Go.Proofs.YtbhigefbihpnlaaGreatDoor
open Go.RowKit
theorem info8 : (Tryz.prog.info? 5).map (fun i => (i.zero, i.size, i.bytes)) = some (some (.int .u8 0), 1, 1) := by kernel_rfl
def be4 (x : Nat) : List Nat := [x / 16777216 % 256, x / 65536 % 256, x / 256 % 256, x % 256]
theorem hor_be4 (l : List Nat) {x : Nat} (hx : x < 4294967296) : hor 256 id (l ++ be4 x) = hor 256 id l * 4294967296 + x := by
 unfold hor
 rw [horF_append]
 generalize horF 256 id l 0 = a
 unfold be4 horF
 simp only [List.foldl_cons, List.foldl_nil, id_eq]
 omega
theorem be4_by (x : Nat) : By (be4 x) := by
 intro c hc
 simp [be4] at hc
 omega
set_option maxRecDepth 20000 in
set_option maxHeartbeats 16000000 in
theorem wint_cb {l : List Nat} (hl : ∀ x ∈ l, x < 4294967296) (hlen : l.length ≤ 16) (A : Addr) (c : Nat) (neg : Bool) (w : World) (hr : Rd w (some A) (U32 l)) :
  Calls Tryz.prog 75 #[.agg #[.slice (some A) l.length c, .bool neg]] w fun e w' => e = .returned (.tuple #[.string (mks (tS (sigN neg (hor 4294967296 id l)))), .int .i64 (tE (sigN neg (hor 4294967296 id l)))]) ∧ Below w.heap.size w w' := by
 obtain ⟨n, hn⟩ : ∃ n, l.length = n := ⟨_, rfl⟩
 obtain ⟨T, hT⟩ : ∃ T, tS (sigN neg (hor 4294967296 id l)) = T := ⟨_, rfl⟩
 obtain ⟨E, hE⟩ : ∃ E, tE (sigN neg (hor 4294967296 id l)) = E := ⟨_, rfl⟩
 have HT := Lib.hid hT
 have HE := Lib.hid hE
 have HN := Lib.hid hn
 have HLL := Lib.hid hl
 rw [hT, hE]
 rw [hn] at hlen ⊢
 clear hT hE hn hl
 have h1 := Lib.hid (Arr.new w 149 [.slice (some A) n c, .bool neg])
 have hb1 : Below w.heap.size w (w.alloc (.cells #[.slice (some A) n c, .bool neg] 149)) := (Below.refl _ _).alloc (Nat.le_refl _) _
 have HR := Lib.hid (hr.keep hb1)
 have hAg : 0 < n → A.block < w.heap.size := fun e => by
  obtain ⟨x, hx⟩ : ∃ x, l[0]? = some x := ⟨_, List.getElem?_eq_getElem (by have := HN.out; omega)⟩
  obtain ⟨ad, e2, hc⟩ := hr 0 (.int .u32 (x : Int)) (by simp [U32, hx])
  obtain rfl := Option.some.inj e2
  have := block_lt_of_cell hc
  rwa [blk_add] at this
 have HAg := Lib.hid hAg
 clear hr hAg
 go_enter Tryz.func75, Tryz.ntmps75
 go_upto_region 1 with (fail)
 obtain ⟨gb, hgb⟩ : ∃ x, w.heap.size = x := ⟨_, rfl⟩
 have HGB := Lib.hid hgb
 have HB1 := Lib.hid hb1
 change Hid (Arr (w.alloc (.cells #[.slice (some A) n c, .bool neg] 149)) _ _ _) at h1
 generalize (w.alloc (.cells #[.slice (some A) n c, .bool neg] 149)) = W at *
 rw [hgb] at h1 HB1 ⊢
 clear hgb hb1
 have hgl := h1.out.lt
 have x0 := h1.out.cell' (i := 0) rfl
 go_upto_region 2 with (at_make; go_loud (refine wpList_mk rfl _ _ 23 rfl 5 _ _ Tryz.underlying23 Tryz.info5 rfl _ _ _ _ rfl rfl (0) (4 * n) (by omega) (by omega) (by omega) (by omega) (by unfold maxLen; omega) ?_; intro ob w2 hob hO hb2 hz2))
 have hOw : Hid (w2.ownsRow gb 5 1 (.slice (some ⟨ob, 0, none⟩) 0 (4 * n)) 0 (B8 [])) := arr_own (n := 0) (c := 4 * n) hO.out (by have := hob.out; omega) (Nat.zero_le _) (by simp) (by unfold maxLen; omega)
 have H2 := Lib.hid (h1.out.keep hb2)
 have HR2 := Lib.hid (HR.out.keep hb2)
 have HB2 := Lib.hid (HB1.out.trans (hb2.mono (by omega)))
 have hs2 : gb < w2.heap.size := H2.out.lt
 clear hO hob hb2 hz2 x0 h1 HR HB1
 have x0 := H2.out.cell' (i := 0) rfl
 go_upto_region 3 with (fail)
 have hn16 : (n : Int) ≤ 16 := by omega
 go_loopw [4, 15] (fun bv iv wr => ∃ (k : Nat) (acc : List Nat), k ≤ n ∧ iv = .int .i64 (k : Int) ∧ acc.length = 4 * k ∧ Hid (hor 256 id acc = hor 4294967296 id (l.take k) ∧ By acc) ∧ Hid (wr.ownsRow gb 5 1 bv (4 * k) (B8 acc)) ∧ Hid (Arr wr gb 149 [.slice (some A) n c, .bool neg]) ∧ Hid (Rd wr (some A) (U32 l)) ∧ Hid (Below gb w wr)) (fun _ iv _ => n - (intOf iv).toNat)
 case atStart => exact ⟨0, [], Nat.zero_le _, rfl, rfl, ⟨by simp [hor, horF], By.nil⟩, hOw, H2, HR2, HB2⟩
 case round =>
  clear hOw H2 HR2 HB2 x0
  obtain ⟨k, acc, hk, rfl, hal, hac, hO, h1, hR, hB⟩ := hrel
  obtain ⟨Ao, co, hvs, hco, hco2⟩ := own_slice hO.out
  subst hvs
  by_cases hlt : k < n
  ·have hlt' : (k : Int) < n := by omega
   obtain ⟨x, hx⟩ : ∃ x, l[k]? = some x := ⟨_, List.getElem?_eq_getElem (by have := HN.out; omega)⟩
   have hx4 : x < 4294967296 := HLL.out x (List.mem_of_getElem? hx)
   obtain ⟨ad, e2, hc⟩ := hR.out k (.int .u32 (x : Int)) (by simp [U32, hx])
   obtain rfl := Option.some.inj e2
   have hst := hor_step (b := 4294967296) (f := id) hx
   have hst2 := hor_be4 acc hx4
   rw [id_eq] at hst
   have hac2 : Hid (hor 256 id (acc ++ be4 x) = hor 4294967296 id (l.take (k + 1)) ∧ By (acc ++ be4 x)) := ⟨by rw [hst2, hst, hac.out.1], hac.out.2.append (be4_by x)⟩
   have hbe : Hid (B8 (acc ++ be4 x) = B8 acc ++ [.int .u8 ((x / 16777216 % 256 : Nat) : Int), .int .u8 ((x / 65536 % 256 : Nat) : Int), .int .u8 ((x / 256 % 256 : Nat) : Int), .int .u8 ((x % 256 : Nat) : Int)]) := by show _ = _; rw [B8_append]; rfl
   obtain ⟨q3, hq3⟩ : ∃ q, x / 16777216 = q := ⟨_, rfl⟩
   obtain ⟨q2, hq2⟩ : ∃ q, x / 65536 = q := ⟨_, rfl⟩
   obtain ⟨q1, hq1⟩ : ∃ q, x / 256 = q := ⟨_, rfl⟩
   have r3 : (x : Int) / 16777216 = (q3 : Int) := by omega
   have r2 : (x : Int) / 65536 = (q2 : Int) := by omega
   have r1 : (x : Int) / 256 = (q1 : Int) := by omega
   rw [hq3, hq2, hq1] at hbe
   obtain ⟨b3, hb3⟩ : ∃ q, q3 % 256 = q := ⟨_, rfl⟩
   obtain ⟨b2, hb2⟩ : ∃ q, q2 % 256 = q := ⟨_, rfl⟩
   obtain ⟨b1, hb1⟩ : ∃ q, q1 % 256 = q := ⟨_, rfl⟩
   obtain ⟨b0, hb0⟩ : ∃ q, x % 256 = q := ⟨_, rfl⟩
   have w3 : IntKind.u8.wrap (q3 : Int) = (b3 : Int) := by rw [IntKind.wrap_u8]; omega
   have w2' : IntKind.u8.wrap (q2 : Int) = (b2 : Int) := by rw [IntKind.wrap_u8]; omega
   have w1 : IntKind.u8.wrap (q1 : Int) = (b1 : Int) := by rw [IntKind.wrap_u8]; omega
   have w0 : IntKind.u8.wrap (x : Int) = (b0 : Int) := by rw [IntKind.wrap_u8]; omega
   rw [hb3, hb2, hb1, hb0] at hbe
   clear hq3 hq2 hq1 hb3 hb2 hb1 hb0 hst hst2 hx
   have hgw : gb < wr.heap.size := h1.out.lt
   have hba : Below wr.heap.size wr (wr.alloc (.cells #[.int .u8 (b3 : Int), .int .u8 (b2 : Int), .int .u8 (b1 : Int), .int .u8 (b0 : Int)] 5)) := (Below.refl _ _).alloc (Nat.le_refl _) _
   have hN4 := (Arr.new wr 5 [.int .u8 (b3 : Int), .int .u8 (b2 : Int), .int .u8 (b1 : Int), .int .u8 (b0 : Int)]).rd
   have hOa := own_below hO.out hba
   have hone : ∀ u ∈ [Value.int .u8 (b3 : Int), .int .u8 (b2 : Int), .int .u8 (b1 : Int), .int .u8 (b0 : Int)], u.oneCell' = true := by intro u hu; simp at hu; rcases hu with rfl | rfl | rfl | rfl <;> rfl
   have hsa := hba.size
   go_upto_region 6 with (at_builtin; go_loud (refine wpList_apl rfl (.tmp 19) (.tmp 31) 23 rfl gb 5 _ 1 Tryz.underlying23 info8 rfl _ (4 * k) (B8 acc) rfl hOa (some ⟨wr.heap.size, 0, none⟩) 4 4 _ rfl hN4 rfl (fun e => nomatch e) hone (by unfold maxLen; omega) (by omega) (by omega) ?_; intro v8 w8 hown8 hgr8; obtain ⟨A8, c8, hv8, _, _⟩ := own_slice hown8; subst hv8))
   have hAl : A.block < gb := by have := HAg.out (by omega); have := HGB.out; omega
   have h8 := Lib.hid ((h1.out.keep hba).grown hgr8 (fun e => own_arr hOa (h1.out.keep hba) (by decide) e.symm))
   have hR8 := Lib.hid ((hR.out.keep hba).grown hgr8 (fun ad e e3 => by
    obtain rfl := Option.some.inj e
    have := (hOa.lt _ e3.symm).1
    omega))
   have hB8 := Lib.hid ((hB.out.trans (hba.mono (Nat.le_of_lt hgw))).grown hgr8 (by omega) (fun j e => (hOa.lt j e).1))
   have hO8 : Hid (w8.ownsRow gb 5 1 (.slice A8 (4 * k + 4) c8) (4 * (k + 1)) (B8 (acc ++ be4 x))) := by
    rw [hbe.out]
    exact hown8
   clear hown8 hgr8 hOa hba hN4 h1 hR hB hO hsa
   go_wp2_with (fail)
   go_roundw
   case rel => exact ⟨k + 1, acc ++ be4 x, by omega, i64e (by omega), by rw [List.length_append, hal]; simp [be4]; omega, hac2, hO8, h8, hR8, hB8⟩
   case measure => simp [intOf]; omega
  ·obtain rfl : k = n := by omega
   have hlt' : ¬ (k : Int) < k := by omega
   have hd : l.take k = l := List.take_of_length_le (by have := HN.out; omega)
   have hac1 := hac.out.1
   rw [hd] at hac1
   obtain ⟨A3, c3, hv3, hl3, hc3, hm3, hr3, _⟩ := own_rd hO.out
   injection hv3 with e1 e2 e3
   subst e1 e3
   have hcv := run_str (P := Tryz.prog) wr 23 9 5 Tryz.underlying23 Tryz.underlying5 Tryz.underlying9 Ao (4 * k) co acc hr3 hal.symm
   have D := ofmag_any acc neg wr hac.out.2 (by omega)
   rw [if_pos (Nat.le_trans (lead_le 0 acc) (by omega)), if_pos (Nat.le_trans (lead_le 0 acc) (by omega)), hor_lead rfl, hac1, HT.out, HE.out] at D
   have D' := Lib.hid D
   have x1 := h1.out.cell' (i := 1) rfl
   clear D hr3 hO hR hac1
   go_wp2_with (go_at_call 109; ((with_reducible refine D'.out.mono ?_)); rintro e w9 ⟨rfl, hb9⟩)
   go_ret2
   exact ⟨rfl, by rw [HGB.out]; exact hB.out.trans (hb9.mono (Nat.le_of_lt h1.out.lt))⟩
end Go.Proofs.YtbhigefbihpnlaaGreatDoor
