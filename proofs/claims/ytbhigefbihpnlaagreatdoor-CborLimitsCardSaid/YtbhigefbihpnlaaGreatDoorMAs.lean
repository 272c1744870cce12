/- The walk of cbor's simple (no floats). -/
import Derived.Test.YtbhigefbihpnlaaGreatDoorMAr
import Derived.Test.YtbhigefbihpnlaaGreatDoorMAh
set_option linter.unusedVariables false
set_option linter.unusedSimpArgs false
set_option linter.defProp false
set_option linter.constructorNameAsVariable false
namespace Go.Proofs.YtbhigefbihpnlaaGreatDoor
open Go.RowKit
abbrev leafV (k : Int) (t : List Nat) : Value := .agg #[.int .i64 k, .string (mks t), .bool false, .slice none 0 0, .slice none 0 0]
def LeafN (nd : GNode) : Prop := nd.ord = false ∧ nd.keys = [] ∧ nd.items = []
theorem hsz_node : (Tryz.prog.info? 60).map (·.size) = some 5 := by kernel_rfl
theorem row5 {w0 w : World} {rb gb : Nat} {t : TypeId} {a b c d e x0 x1 x2 x3 x4 : Value} (hZ : Arr w rb t [a, b, c, d, e]) (hB : Below gb w0 w) (hg : gb ≤ rb) :
  Arr (((((w.setCell ⟨rb, 0, none⟩ x0).setCell ⟨rb, 1, none⟩ x1).setCell ⟨rb, 2, none⟩ x2).setCell ⟨rb, 3, none⟩ x3).setCell ⟨rb, 4, none⟩ x4) rb t [x0, x1, x2, x3, x4] ∧
  Below gb w0 (((((w.setCell ⟨rb, 0, none⟩ x0).setCell ⟨rb, 1, none⟩ x1).setCell ⟨rb, 2, none⟩ x2).setCell ⟨rb, 3, none⟩ x3).setCell ⟨rb, 4, none⟩ x4) :=
 ⟨((((hZ.store 0 x0).store 1 x1).store 2 x2).store 3 x3).store 4 x4, ((((hB.setCell (p := ⟨rb, 0, none⟩) hg x0).setCell (p := ⟨rb, 1, none⟩) hg x1).setCell (p := ⟨rb, 2, none⟩) hg x2).setCell (p := ⟨rb, 3, none⟩) hg x3).setCell (p := ⟨rb, 4, none⟩) hg x4⟩
def SimpP (w : World) (h : CH) (e : Ending) (w' : World) : Prop := Below w.heap.size w w' ∧
 match simpleC h with
 | .ok nd => e = .returned (.tuple #[leafV nd.kind nd.text, .nilIface])
 | .err a c => e = .returned (.tuple #[leafV 0 [], faultV a c])
 | .no => True
theorem SimpP.of_ok {w w' : World} {h : CH} {e : Ending} {nd : GNode} (hh : simpleC h = .ok nd) (he : e = .returned (.tuple #[leafV nd.kind nd.text, .nilIface])) (hb : Below w.heap.size w w') : SimpP w h e w' := ⟨hb, by rw [hh]; exact he⟩
theorem SimpP.of_err {w w' : World} {h : CH} {e : Ending} {a c : Nat} (hh : simpleC h = .err a c) (he : e = .returned (.tuple #[leafV 0 [], faultV a c])) (hb : Below w.heap.size w w') : SimpP w h e w' := ⟨hb, by rw [hh]; exact he⟩
set_option maxRecDepth 20000 in
set_option maxHeartbeats 16000000 in
theorem simple_cb {h : CH} (hno : simpleC h ≠ .no) (w : World) : Calls Tryz.prog 71 #[headV h] w (SimpP w h) := by
 obtain ⟨hat, hm, k, a⟩ := h
 have HNO := Lib.hid hno
 obtain ⟨q1, q2, hb1, hz1⟩ := box2 w 76 60 [.int .i64 (hat : Int), .int .i64 (hm : Int), .int .i64 (k : Int), .int .u64 (a : Int)] [.int .i64 0, .string ⟨#[]⟩, .bool false, .slice none 0 0, .slice none 0 0]
 clear hno
 go_enter Tryz.func71, Tryz.ntmps71
 go_upto_region 1 with (fail)
 obtain ⟨gb, hgb⟩ : ∃ x, w.heap.size = x := ⟨_, rfl⟩
 have HGB := Lib.hid hgb
 have HB1 := Lib.hid hb1
 generalize ((w.alloc (.cells #[.int .i64 (hat : Int), .int .i64 (hm : Int), .int .i64 (k : Int), .int .u64 (a : Int)] 76)).alloc (.cells #[.int .i64 0, .string ⟨#[]⟩, .bool false, .slice none 0 0, .slice none 0 0] 60)) = W at *
 rw [hgb] at q1 q2 hz1 HB1 ⊢
 clear hgb hb1 hz1
 have hgl := q2.out.lt
 have x0 := q1.out.cell' (i := 0) rfl
 have x2 := q1.out.cell' (i := 2) rfl
 have z0 := q2.out.cell' (i := 0) rfl
 have z1 := q2.out.cell' (i := 1) rfl
 have z2 := q2.out.cell' (i := 2) rfl
 have z3 := q2.out.cell' (i := 3) rfl
 have z4 := q2.out.cell' (i := 4) rfl
 have f0 := q2.out.frozen 0
 have f1 := q2.out.frozen 1
 have f2 := q2.out.frozen 2
 have f3 := q2.out.frozen 3
 have f4 := q2.out.frozen 4
 by_cases h20 : k = 20
 ·subst h20
  obtain ⟨g1, g2⟩ := row5 (x0 := .int .i64 1) (x1 := .string ⟨#[102, 97, 108, 115, 101]⟩) (x2 := .bool false) (x3 := .slice none 0 0) (x4 := .slice none 0 0) q2.out HB1.out (Nat.le_succ gb)
  have G1 := Lib.hid g1
  have G2 := Lib.hid g2
  clear g1 g2
  go_wp2_with (fail)
  exact bodyPost_ret (results_rt Tryz.results71 _ _ _ _ #[.int .i64 1, .string ⟨#[102, 97, 108, 115, 101]⟩, .bool false, .slice none 0 0, .slice none 0 0] (0, 0) _ _ rfl rfl G1.out Tryz.underlying60 rfl hsz_node) rfl (SimpP.of_ok (nd := ⟨1, [102, 97, 108, 115, 101], false, [], []⟩) rfl rfl (by rw [HGB.out]; exact G2.out))
 have e20 : ((k : Int) == 20) = false := by rw [beq_eq_false_iff_ne]; omega
 by_cases h21 : k = 21
 ·subst h21
  obtain ⟨g1, g2⟩ := row5 (x0 := .int .i64 1) (x1 := .string ⟨#[116, 114, 117, 101]⟩) (x2 := .bool false) (x3 := .slice none 0 0) (x4 := .slice none 0 0) q2.out HB1.out (Nat.le_succ gb)
  have G1 := Lib.hid g1
  have G2 := Lib.hid g2
  clear g1 g2 e20 h20
  go_wp2_with (fail)
  exact bodyPost_ret (results_rt Tryz.results71 _ _ _ _ #[.int .i64 1, .string ⟨#[116, 114, 117, 101]⟩, .bool false, .slice none 0 0, .slice none 0 0] (0, 0) _ _ rfl rfl G1.out Tryz.underlying60 rfl hsz_node) rfl (SimpP.of_ok (nd := ⟨1, [116, 114, 117, 101], false, [], []⟩) rfl rfl (by rw [HGB.out]; exact G2.out))
 have e21 : ((k : Int) == 21) = false := by rw [beq_eq_false_iff_ne]; omega
 obtain ⟨g1, g2⟩ := row5 (x0 := .int .i64 0) (x1 := .string ⟨#[]⟩) (x2 := .bool false) (x3 := .slice none 0 0) (x4 := .slice none 0 0) q2.out HB1.out (Nat.le_succ gb)
 have G1 := Lib.hid g1
 have G2 := Lib.hid g2
 clear g1 g2
 by_cases h22 : k = 22
 ·subst h22
  clear e20 e21 h20 h21
  go_wp2_with (fail)
  exact bodyPost_ret (results_rt Tryz.results71 _ _ _ _ #[.int .i64 0, .string ⟨#[]⟩, .bool false, .slice none 0 0, .slice none 0 0] (0, 0) _ _ rfl rfl G1.out Tryz.underlying60 rfl hsz_node) rfl (SimpP.of_ok (nd := ⟨0, [], false, [], []⟩) rfl rfl (by rw [HGB.out]; exact G2.out))
 have e22 : ((k : Int) == 22) = false := by rw [beq_eq_false_iff_ne]; omega
 have hk3 : k ≠ 25 ∧ k ≠ 26 ∧ k ≠ 27 := by
  have := HNO.out
  unfold simpleC at this
  simp only [if_neg h20, if_neg h21, if_neg h22] at this
  refine ⟨?_, ?_, ?_⟩ <;> (intro e; apply this; simp [e])
 have e25 : ((k : Int) == 25) = false := by rw [beq_eq_false_iff_ne]; omega
 have e26 : ((k : Int) == 26) = false := by rw [beq_eq_false_iff_ne]; omega
 have e27 : ((k : Int) == 27) = false := by rw [beq_eq_false_iff_ne]; omega
 by_cases h31 : k = 31
 ·have hh : simpleC ⟨hat, hm, k, a⟩ = .err hat 4 := by subst h31; rfl
  have e31 : ((k : Int) == 31) = true := by rw [beq_iff_eq]; omega
  clear h31 hk3 h20 h21 h22
  go_upto_region 18 with (fail)
  clear x2 e20 e21 e22 e25 e26 e27 e31
  go_region
  all_goals
   go_wp2_with (fail)
   exact bodyPost_ret (results_rt Tryz.results71 _ _ _ _ #[.int .i64 0, .string ⟨#[]⟩, .bool false, .slice none 0 0, .slice none 0 0] (0, 0) _ _ rfl rfl G1.out Tryz.underlying60 rfl hsz_node) rfl (SimpP.of_err hh rfl (by rw [HGB.out]; exact Below.drew G2.out))
 ·have hh : simpleC ⟨hat, hm, k, a⟩ = .err hat 10 := by
   unfold simpleC
   simp only [if_neg h20, if_neg h21, if_neg h22, if_neg h31]
   rw [if_neg (by omega)]
  have e31 : ((k : Int) == 31) = false := by rw [beq_eq_false_iff_ne]; omega
  clear h31 hk3 h20 h21 h22
  go_upto_region 19 with (fail)
  clear x2 e20 e21 e22 e25 e26 e27 e31
  go_region
  all_goals
   go_wp2_with (fail)
   exact bodyPost_ret (results_rt Tryz.results71 _ _ _ _ #[.int .i64 0, .string ⟨#[]⟩, .bool false, .slice none 0 0, .slice none 0 0] (0, 0) _ _ rfl rfl G1.out Tryz.underlying60 rfl hsz_node) rfl (SimpP.of_err hh rfl (by rw [HGB.out]; exact Below.drew G2.out))
end Go.Proofs.YtbhigefbihpnlaaGreatDoor
namespace Go.Proofs.YtbhigefbihpnlaaGreatDoor
open Go.RowKit
def nullN : GNode := ⟨0, [], false, [], []⟩
def srcB (m : Nat) : List Nat := 159 :: (List.replicate m 246 ++ [255])
def nodesB (k : Nat) : List GNode := ⟨9, [], false, [], (List.range k).map fun (j : Nat) => ((j + 1 : Nat) : Int)⟩ :: List.replicate k nullN
theorem len_srcB (m : Nat) : (srcB m).length = m + 2 := by simp [srcB]
theorem srcB_null {m k : Nat} (h : k < m) : (srcB m)[k + 1]? = some 246 := by
 unfold srcB
 rw [List.getElem?_cons_succ, List.getElem?_append_left (by simpa using h), List.getElem?_replicate, if_pos h]
theorem srcB_end (m : Nat) : (srcB m)[m + 1]? = some 255 := by
 unfold srcB
 rw [List.getElem?_cons_succ, List.getElem?_append_right (by simp)]
 simp
theorem head_null {m k : Nat} (h : k < m) : hdC (srcB m) (k + 1) = .ok (⟨k + 1, 7, 22, 22⟩, k + 2) := by
 unfold hdC
 rw [srcB_null h]
 rfl
theorem head_end (m : Nat) : hdC (srcB m) (m + 1) = .ok (⟨m + 1, 7, 31, 31⟩, m + 2) := by
 unfold hdC
 rw [srcB_end]
 rfl
theorem len_nodesB (k : Nat) : (nodesB k).length = k + 1 := by simp [nodesB]
theorem nodesB_succ (k : Nat) : (nodesB k ++ [nullN]).set 0 { ndAt (nodesB k ++ [nullN]) 0 with items := (ndAt (nodesB k ++ [nullN]) 0).items ++ [((k + 1 : Nat) : Int)] } = nodesB (k + 1) := by
 unfold nodesB ndAt
 simp only [List.cons_append, List.getD_cons_zero, List.set_cons_zero]
 rw [List.range_succ, List.map_append, ← List.replicate_succ']
 rfl
theorem null_ok (s : List Nat) (f k i : Nat) (sp : JSpan) (sps : List JSpan) (hk : k < 4095) : ∃ sps', valueC s (f + 2) ⟨k + 1, 7, 22, 22⟩ sp 1 ⟨i, nodesB k, sps, [], []⟩ = .ok (((k + 1 : Nat) : Int), ⟨i, nodesB k ++ [nullN], sps', [], []⟩) := by
 have hn := len_nodesB k
 refine ⟨(sps ++ [{ sp with from_ := ((k + 1 : Nat) : Int), whole := true }]).modify sps.length fun x => { x with node := ((k + 1 : Nat) : Int), to_ := (i : Int) }, ?_⟩
 unfold valueC
 simp only [CH.tag, CR.bind]
 simp
 unfold defineC
 simp [CH.tag, CR.bind, scalarC, simpleC, addC, hn, show ¬ 4096 ≤ k + 1 by omega, nullN]
theorem null_many (s : List Nat) (f i : Nat) (sp : JSpan) (sps : List JSpan) : valueC s (f + 2) ⟨4096, 7, 22, 22⟩ sp 1 ⟨i, nodesB 4095, sps, [], []⟩ = .err 4096 7 := by
 have hn := len_nodesB 4095
 unfold valueC
 simp only [CH.tag, CR.bind]
 simp
 unfold defineC
 simp [CH.tag, CR.bind, scalarC, simpleC, addC, hn]
theorem cont_ok {m : Nat} (hm : m ≤ 4095) : ∀ d k f sps, k + d = m → d + 3 ≤ f → ∃ sps', contentC (srcB m) f ⟨0, 4, 31, 31⟩ 0 0 1 k ⟨k + 1, nodesB k, sps, [], []⟩ = .ok ⟨m + 2, nodesB m, sps', [], []⟩ := by
 intro d
 induction d with
 | zero =>
  intro k f sps hk hf
  obtain rfl : k = m := by omega
  obtain ⟨f, rfl⟩ : ∃ g, f = g + 1 := ⟨f - 1, by omega⟩
  refine ⟨sps, ?_⟩
  unfold contentC
  simp only [head_end, CR.bind]
  simp [CH.ends]
 | succ d ih =>
  intro k f sps hk hf
  obtain ⟨f, rfl⟩ : ∃ g, f = g + 1 + 2 := ⟨f - 3, by omega⟩
  obtain ⟨sp1, h1⟩ := null_ok (srcB m) f k (k + 2) ⟨0, 0, k, 0, 0, 0, 0, false, false⟩ sps (by omega)
  obtain ⟨sps', h2⟩ := ih (k + 1) (f + 2) sp1 (by omega) (by omega)
  refine ⟨sps', ?_⟩
  rw [show f + 1 + 2 = (f + 2) + 1 from rfl]
  unfold contentC
  simp only [head_null (show k < m by omega), CR.bind]
  simp only [CH.ends]
  simp
  rw [h1]
  simp only
  rw [nodesB_succ]
  exact h2
theorem cont_many {m : Nat} (hm : 4095 < m) : ∀ d k f sps, k + d = 4095 → d + 3 ≤ f → contentC (srcB m) f ⟨0, 4, 31, 31⟩ 0 0 1 k ⟨k + 1, nodesB k, sps, [], []⟩ = .err 4096 7 := by
 intro d
 induction d with
 | zero =>
  intro k f sps hk hf
  obtain rfl : k = 4095 := by omega
  obtain ⟨f, rfl⟩ : ∃ g, f = g + 1 + 2 := ⟨f - 3, by omega⟩
  rw [show f + 1 + 2 = (f + 2) + 1 from rfl]
  unfold contentC
  simp only [head_null hm, CR.bind]
  simp only [CH.ends]
  simp
  rw [null_many]
 | succ d ih =>
  intro k f sps hk hf
  obtain ⟨f, rfl⟩ : ∃ g, f = g + 1 + 2 := ⟨f - 3, by omega⟩
  obtain ⟨sp1, h1⟩ := null_ok (srcB m) f k (k + 2) ⟨0, 0, k, 0, 0, 0, 0, false, false⟩ sps (by omega)
  have h2 := ih (k + 1) (f + 2) sp1 (by omega) (by omega)
  rw [show f + 1 + 2 = (f + 2) + 1 from rfl]
  unfold contentC
  simp only [head_null (show k < m by omega), CR.bind]
  simp only [CH.ends]
  simp
  rw [h1]
  simp only
  rw [nodesB_succ]
  exact h2
end Go.Proofs.YtbhigefbihpnlaaGreatDoor
namespace Go.Proofs.YtbhigefbihpnlaaGreatDoor
open Go.RowKit
theorem int_ok {s : List Nat} {h : CH} {i : Nat} (hm : h.major ≤ 1) : scalarC s h i = .ok (⟨2, intC h, false, [], []⟩, i) := by
 unfold scalarC
 rw [if_pos hm]
end Go.Proofs.YtbhigefbihpnlaaGreatDoor
