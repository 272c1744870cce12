/- The walk of the law's awake. -/
import Derived.Test.YtoppncpmfajbcaaGreatDoorMBv
import Derived.Test.YtoppncpmfajbcaaGreatDoorMAd
import Derived.Test.YtoppncpmfajbcaaGreatDoorMBa
import Derived.Deep.RegionHeld3
set_option linter.unusedVariables false
set_option linter.unusedSimpArgs false
set_option linter.defProp false
set_option linter.constructorNameAsVariable false
namespace Go.Proofs.YtoppncpmfajbcaaGreatDoor
open Go.RowKit
def CAwakeT : Prop := ∀ w, LibE w → Calls Tryz.prog 4 #[] w fun e w' => e = .returned (.bool true) ∧ Below w.heap.size w w'
theorem ints_arr {w : World} {b : Nat} {xs : List Int} (h : Arr w b 3 (I64 xs)) : IntsRd w (fun _ => True) (some ⟨b, 0, none⟩) xs.length xs := ⟨rfl, h.rd, fun ad e => by
 obtain rfl := Option.some.inj e
 exact ⟨trivial, _, _, h⟩⟩
theorem ints_no (w : World) : IntsRd w (fun _ => True) none 0 [] := ⟨rfl, fun j u hj => by simp [I64] at hj, fun ad e => nomatch e⟩
theorem g0_rd {w : World} {a b : Nat} (ha : Arr w a 3 (I64 [1, 1])) (hb : Arr w b 3 (I64 [2])) : NodesRd w (fun _ => True) [.int .i64 9, .string ⟨#[]⟩, .bool false, .slice none 0 0, .slice (some ⟨a, 0, none⟩) 2 2, .int .i64 9, .string ⟨#[]⟩, .bool false, .slice none 0 0, .slice (some ⟨b, 0, none⟩) 1 1, .int .i64 2, .string ⟨#[55]⟩, .bool false, .slice none 0 0, .slice none 0 0] cG0 := by
 refine ⟨rfl, fun i nd hi => ?_⟩
 match i, hi with
 | 0, hi =>
  obtain rfl : cList [1, 1] = nd := Option.some.inj hi
  exact ⟨none, 0, 0, some ⟨a, 0, none⟩, 2, 2, rfl, ints_no w, ints_arr ha⟩
 | 1, hi =>
  obtain rfl : cList [2] = nd := Option.some.inj hi
  exact ⟨none, 0, 0, some ⟨b, 0, none⟩, 1, 1, rfl, ints_no w, ints_arr hb⟩
 | 2, hi =>
  obtain rfl : cInt 55 = nd := Option.some.inj hi
  exact ⟨none, 0, 0, none, 0, 0, rfl, ints_no w, ints_no w⟩
 | i + 3, hi => simp [cG0] at hi
theorem leaf_gk {w : World} {nb d : Nat} (h : Arr w nb 34 [.int .i64 2, .string (mks [d]), .bool false, .slice none 0 0, .slice none 0 0]) : GK w nb [cInt d] := by
 refine gk_arr h ⟨rfl, fun i nd hi => ?_⟩
 match i, hi with
 | 0, hi =>
  obtain rfl : cInt d = nd := Option.some.inj hi
  exact ⟨none, 0, 0, none, 0, 0, rfl, ints_no w, ints_no w⟩
 | i + 1, hi => simp at hi
def W1 (w : World) : World := (((w.alloc (.cells #[.int .i64 1, .int .i64 1] 3)).alloc (.cells #[.int .i64 2] 3)).alloc (.cells #[.int .i64 9, .string ⟨#[]⟩, .bool false, .slice none 0 0, .slice (some ⟨w.heap.size, 0, none⟩) 2 2, .int .i64 9, .string ⟨#[]⟩, .bool false, .slice none 0 0, .slice (some ⟨w.heap.size + 1, 0, none⟩) 1 1, .int .i64 2, .string ⟨#[55]⟩, .bool false, .slice none 0 0, .slice none 0 0] 34)).alloc (.cells #[.slice (some ⟨w.heap.size + 1 + 1, 0, none⟩) 3 3, .int .i64 0] 26)
theorem w1_mem (w : World) : GK (W1 w) (w.heap.size + 1 + 1) cG0 ∧ Arr (W1 w) (w.heap.size + 1 + 1 + 1) 26 [.slice (some ⟨w.heap.size + 1 + 1, 0, none⟩) 3 3, .int .i64 0] ∧ Below w.heap.size w (W1 w) := by
 unfold W1
 have a1 := Arr.new w 3 [.int .i64 1, .int .i64 1]
 have b1 : Below w.heap.size w (w.alloc (.cells #[.int .i64 1, .int .i64 1] 3)) := (Below.refl _ _).alloc (Nat.le_refl _) _
 have s1 : (w.alloc (.cells #[.int .i64 1, .int .i64 1] 3)).heap.size = w.heap.size + 1 := by simp
 change Arr (w.alloc (.cells #[.int .i64 1, .int .i64 1] 3)) _ _ _ at a1
 generalize (w.alloc (.cells #[.int .i64 1, .int .i64 1] 3)) = w1 at *
 have a2 := Arr.new w1 3 [.int .i64 2]
 have b2 : Below w1.heap.size w1 (w1.alloc (.cells #[.int .i64 2] 3)) := (Below.refl _ _).alloc (Nat.le_refl _) _
 have s2 : (w1.alloc (.cells #[.int .i64 2] 3)).heap.size = w.heap.size + 1 + 1 := by simp [s1]
 change Arr (w1.alloc (.cells #[.int .i64 2] 3)) _ _ _ at a2
 generalize (w1.alloc (.cells #[.int .i64 2] 3)) = w2 at *
 rw [s1] at a2
 have r1 := a1.keep b2
 have b12 := b1.trans (b2.mono (by omega))
 have a3 := Arr.new w2 34 [.int .i64 9, .string ⟨#[]⟩, .bool false, .slice none 0 0, .slice (some ⟨w.heap.size, 0, none⟩) 2 2, .int .i64 9, .string ⟨#[]⟩, .bool false, .slice none 0 0, .slice (some ⟨w.heap.size + 1, 0, none⟩) 1 1, .int .i64 2, .string ⟨#[55]⟩, .bool false, .slice none 0 0, .slice none 0 0]
 have b3 : Below w2.heap.size w2 (w2.alloc (.cells #[.int .i64 9, .string ⟨#[]⟩, .bool false, .slice none 0 0, .slice (some ⟨w.heap.size, 0, none⟩) 2 2, .int .i64 9, .string ⟨#[]⟩, .bool false, .slice none 0 0, .slice (some ⟨w.heap.size + 1, 0, none⟩) 1 1, .int .i64 2, .string ⟨#[55]⟩, .bool false, .slice none 0 0, .slice none 0 0] 34)) := (Below.refl _ _).alloc (Nat.le_refl _) _
 have s3 : (w2.alloc (.cells #[.int .i64 9, .string ⟨#[]⟩, .bool false, .slice none 0 0, .slice (some ⟨w.heap.size, 0, none⟩) 2 2, .int .i64 9, .string ⟨#[]⟩, .bool false, .slice none 0 0, .slice (some ⟨w.heap.size + 1, 0, none⟩) 1 1, .int .i64 2, .string ⟨#[55]⟩, .bool false, .slice none 0 0, .slice none 0 0] 34)).heap.size = w.heap.size + 1 + 1 + 1 := by simp [s2]
 change Arr (w2.alloc (.cells #[.int .i64 9, .string ⟨#[]⟩, .bool false, .slice none 0 0, .slice (some ⟨w.heap.size, 0, none⟩) 2 2, .int .i64 9, .string ⟨#[]⟩, .bool false, .slice none 0 0, .slice (some ⟨w.heap.size + 1, 0, none⟩) 1 1, .int .i64 2, .string ⟨#[55]⟩, .bool false, .slice none 0 0, .slice none 0 0] 34)) _ _ _ at a3
 generalize (w2.alloc (.cells #[.int .i64 9, .string ⟨#[]⟩, .bool false, .slice none 0 0, .slice (some ⟨w.heap.size, 0, none⟩) 2 2, .int .i64 9, .string ⟨#[]⟩, .bool false, .slice none 0 0, .slice (some ⟨w.heap.size + 1, 0, none⟩) 1 1, .int .i64 2, .string ⟨#[55]⟩, .bool false, .slice none 0 0, .slice none 0 0] 34)) = w3 at *
 rw [s2] at a3
 have r1' := r1.keep b3
 have r2' := a2.keep b3
 have b13 := b12.trans (b3.mono (by omega))
 have hK := gk_arr a3 (g0_rd r1' r2')
 have b4 : Below w3.heap.size w3 (w3.alloc (.cells #[.slice (some ⟨w.heap.size + 1 + 1, 0, none⟩) 3 3, .int .i64 0] 26)) := (Below.refl _ _).alloc (Nat.le_refl _) _
 have a4 := Arr.new w3 26 [.slice (some ⟨w.heap.size + 1 + 1, 0, none⟩) 3 3, .int .i64 0]
 rw [s3] at a4
 exact ⟨hK.step (KFr.below b4), a4, b13.trans (b4.mono (by omega))⟩
theorem prd_two {w : World} {p : Nat} (h : Arr w p 36 [.int .i64 0, .string ⟨#[]⟩, .int .i64 0, .string ⟨#[]⟩]) : PRd w (some ⟨p, 0, none⟩) (ixP [0, 0]) := fun i s hs => by
 match i, hs with
 | 0, hs =>
  obtain rfl : ((0 : Int), ([] : List Nat)) = s := Option.some.inj hs
  exact ⟨By.nil, _, rfl, h.cell' (i := 0) rfl, h.cell' (i := 1) rfl⟩
 | 1, hs =>
  obtain rfl : ((0 : Int), ([] : List Nat)) = s := Option.some.inj hs
  exact ⟨By.nil, _, rfl, h.cell' (i := 2) rfl, h.cell' (i := 3) rfl⟩
 | i + 2, hs => simp [ixP] at hs
theorem prd_one {w : World} {p q : Nat} (h : Arr w p 36 [.int .i64 (q : Int), .string ⟨#[]⟩]) : PRd w (some ⟨p, 0, none⟩) (ixP [q]) := fun i s hs => by
 match i, hs with
 | 0, hs =>
  obtain rfl : ((q : Int), ([] : List Nat)) = s := Option.some.inj hs
  exact ⟨By.nil, _, rfl, h.cell' (i := 0) rfl, h.cell' (i := 1) rfl⟩
 | i + 1, hs => simp [ixP] at hs
theorem prd_own {w : World} {pb pc : Nat} (h : w.ownsRow 0 36 2 (.slice (some ⟨pb, 0, none⟩) 2 pc) 2 [.int .i64 (0 : Nat), .string (mks []), .int .i64 (0 : Nat), .string (mks [])]) : PRd w (some ⟨pb, 0, none⟩) (ixP [0, 0]) := by
 intro i s hs
 match i, hs with
 | 0, hs =>
  obtain rfl : ((0 : Int), ([] : List Nat)) = s := Option.some.inj hs
  exact ⟨By.nil, _, rfl, (own_cell h (i := 0) rfl).1, (own_cell h (i := 1) rfl).1⟩
 | 1, hs =>
  obtain rfl : ((0 : Int), ([] : List Nat)) = s := Option.some.inj hs
  exact ⟨By.nil, _, rfl, (own_cell h (i := 2) rfl).1, (own_cell h (i := 3) rfl).1⟩
 | i + 2, hs => simp [ixP] at hs
set_option maxRecDepth 20000 in
set_option maxHeartbeats 16000000 in
theorem cawake_true : CAwakeT := fun w hw => by
 have HW := Lib.hid hw
 obtain ⟨k1, r1, b1⟩ := w1_mem w
 have K1 := Lib.hid k1
 have R1 := Lib.hid r1
 have B1 := Lib.hid b1
 clear hw k1 r1 b1
 have D8 := Lib.hid (fun (w : World) => number_any [56] w)
 have D1 := Lib.hid (fun (w : World) => number_any [49] w)
 have D7 := Lib.hid (fun (w : World) => number_any [55] w)
 rw [show mks [56] = ⟨#[56]⟩ from rfl] at D8
 rw [show mks [49] = ⟨#[49]⟩ from rfl] at D1
 rw [show mks [55] = ⟨#[55]⟩ from rfl] at D7
 go_enter Tryz.func4, Tryz.ntmps4
 go_upto_region 2 with (fail)
 obtain ⟨wa, hwa⟩ : ∃ x, W1 w = x := ⟨_, rfl⟩
 rw [hwa] at K1 R1 B1
 unfold W1 at hwa
 rw [hwa]
 clear hwa
 obtain ⟨nb0, hnb0⟩ : ∃ x, w.heap.size + 1 + 1 = x := ⟨_, rfl⟩
 obtain ⟨gb, hgb⟩ : ∃ x, nb0 + 1 = x := ⟨_, rfl⟩
 obtain ⟨z0, hz0⟩ : ∃ x, w.heap.size = x := ⟨_, rfl⟩
 have HZ := Lib.hid hz0
 have hzl : z0 ≤ gb := by omega
 rw [hnb0] at K1 R1 ⊢
 rw [hgb] at R1 ⊢
 rw [hz0] at B1 hnb0 ⊢
 clear hnb0 hgb hz0
 have hgl := R1.out.lt
 have hb2 : Below wa.heap.size wa (wa.alloc (.cells #[.int .i64 0, .string ⟨#[]⟩, .int .i64 0, .string ⟨#[]⟩] 36)) := (Below.refl _ _).alloc (Nat.le_refl _) _
 have hP := Lib.hid (Arr.new wa 36 [.int .i64 0, .string ⟨#[]⟩, .int .i64 0, .string ⟨#[]⟩])
 go_upto_region 3 with (go_at_call 8; ((with_reducible refine (D8.out _).mono ?_)); rintro e w3 ⟨n8, rfl, hn8, hb3, ha3⟩)
 have K3 := Lib.hid ((K1.out.step (KFr.below hb2)).step (KFr.below hb3))
 have R3 := Lib.hid ((R1.out.keep hb2).keep hb3)
 have P3 := Lib.hid (hP.out.keep hb3)
 have N3 := Lib.hid (leaf_gk ha3.out)
 have B3 := Lib.hid ((B1.out.trans (hb2.mono (by omega))).trans (hb3.mono (by simp; omega)))
 have hs3 : gb < w3.heap.size := R3.out.lt
 obtain ⟨pb, hpb⟩ : ∃ x, wa.heap.size = x := ⟨_, rfl⟩
 rw [hpb] at P3 ⊢
 clear hpb K1 R1 B1 hP ha3 hb3 hb2 hn8 hgl
 have hb4 : Below w3.heap.size w3 (w3.alloc (.cells #[.int .i64 1, .slice (some ⟨pb, 0, none⟩) 2 2, .slice (some ⟨n8, 0, none⟩) 1 1, .int .i64 0] 28)) := (Below.refl _ _).alloc (Nat.le_refl _) _
 have C4 := Lib.hid (Arr.new w3 28 [.int .i64 1, .slice (some ⟨pb, 0, none⟩) 2 2, .slice (some ⟨n8, 0, none⟩) 1 1, .int .i64 0])
 have K4 := Lib.hid (K3.out.step (KFr.below hb4))
 have N4 := Lib.hid (N3.out.step (KFr.below hb4))
 have R4 := Lib.hid (R3.out.keep hb4)
 have P4 := Lib.hid (P3.out.keep hb4)
 have B4 := Lib.hid (B3.out.trans (hb4.mono (by omega)))
 have hs4 : w3.heap.size < (w3.alloc (.cells #[.int .i64 1, .slice (some ⟨pb, 0, none⟩) 2 2, .slice (some ⟨n8, 0, none⟩) 1 1, .int .i64 0] 28)).heap.size := C4.out.lt
 generalize (w3.alloc (.cells #[.int .i64 1, .slice (some ⟨pb, 0, none⟩) 2 2, .slice (some ⟨n8, 0, none⟩) 1 1, .int .i64 0] 28)) = w4 at *
 obtain ⟨cb, hcb⟩ : ∃ x, w3.heap.size = x := ⟨_, rfl⟩
 rw [hcb] at C4 hs4 hs3 ⊢
 clear hcb hb4 K3 N3 R3 P3 B3
 -- region 3: Apply
 have DA := Lib.hid (fun (lb : Nat) (w' : World) (h : LibE w') (h1 : GRd w' w'.heap.size nb0 0 cG0) (h2 : GRd w' w'.heap.size n8 0 [cInt 56]) (h3 : PRd w' (some ⟨pb, 0, none⟩) (ixP [0, 0])) (h4 : Arr w' lb 28 [.int .i64 1, .slice (some ⟨pb, 0, none⟩) 2 2, .slice (some ⟨n8, 0, none⟩) 1 1, .int .i64 ((0 : Nat) : Int)]) => capply_any (c := 3) (cv := 1) (cp := 2) (n := 3) (m := 1) (Nat.le_refl _) c_apply rfl rfl w' h h1 h2 h3 h4)
 rw [show ((0 : Nat) : Int) = 0 from rfl, show List.length [(3 : Int), 4, 5, 1, 2] = 5 from rfl] at DA
 have hb5 : Below w4.heap.size w4 (w4.alloc (.cells #[.int .i64 1, .slice (some ⟨pb, 0, none⟩) 2 2, .slice (some ⟨n8, 0, none⟩) 1 1, .int .i64 0] 28)) := (Below.refl _ _).alloc (Nat.le_refl _) _
 have L5 := Lib.hid (Arr.new w4 28 [.int .i64 1, .slice (some ⟨pb, 0, none⟩) 2 2, .slice (some ⟨n8, 0, none⟩) 1 1, .int .i64 0])
 have K5 := Lib.hid (K4.out.step (KFr.below hb5)).rd
 have N5 := Lib.hid (N4.out.step (KFr.below hb5)).rd
 have P5 := Lib.hid (prd_two (P4.out.keep hb5))
 have W5 := Lib.hid (HW.out.keep (by rw [HZ.out]; exact B4.out.trans (hb5.mono (by omega))))
 have g0 := R4.out.cell' (i := 0) rfl
 have g1 := R4.out.cell' (i := 1) rfl
 have c0 := C4.out.cell' (i := 0) rfl
 have c1 := C4.out.cell' (i := 1) rfl
 have c2 := C4.out.cell' (i := 2) rfl
 have c3 := C4.out.cell' (i := 3) rfl
 go_upto_region 4 with (go_at_call 9; ((with_reducible refine (DA.out _ _ W5.out K5.out N5.out P5.out L5.out).mono ?_)); rintro e w6 ⟨oh, rfl, hb6, kh, _⟩)
 have HB6 := Lib.hid (B4.out.trans ((hb5.trans (hb6.mono hb5.size)).mono (by omega)))
 have hb7 : Below w6.heap.size w6 (w6.alloc (.cells #[.slice (some ⟨oh, 0, none⟩) 5 5, .int .i64 0] 26)) := (Below.refl _ _).alloc (Nat.le_refl _) _
 have H7 := Lib.hid (Arr.new w6 26 [.slice (some ⟨oh, 0, none⟩) 5 5, .int .i64 0])
 have K7 := Lib.hid (((K4.out.step (KFr.below hb5)).step (KFr.below hb6)).step (KFr.below hb7))
 have N7 := Lib.hid (((N4.out.step (KFr.below hb5)).step (KFr.below hb6)).step (KFr.below hb7))
 have R7 := Lib.hid (((R4.out.keep hb5).keep hb6).keep hb7)
 have P7 := Lib.hid (((P4.out.keep hb5).keep hb6).keep hb7)
 have C7 := Lib.hid (((C4.out.keep hb5).keep hb6).keep hb7)
 have O7 := Lib.hid (kh.step (KFr.below hb7)).rd
 have hs6 : w4.heap.size < w6.heap.size := Nat.lt_of_lt_of_le (by simp) hb6.size
 have B7 := Lib.hid (HB6.out.trans (hb7.mono (by omega)))
 have W7 := Lib.hid (HW.out.keep (by rw [HZ.out]; exact B7.out))
 have hs7 : w6.heap.size < (w6.alloc (.cells #[.slice (some ⟨oh, 0, none⟩) 5 5, .int .i64 0] 26)).heap.size := H7.out.lt
 clear g0 g1 c0 c1 c2 c3 K5 N5 P5 W5 L5 DA hb5 hb6 HB6 kh K4 N4 R4 P4 C4 B4
 generalize (w6.alloc (.cells #[.slice (some ⟨oh, 0, none⟩) 5 5, .int .i64 0] 26)) = w7 at *
 obtain ⟨hb, hhb⟩ : ∃ x, w6.heap.size = x := ⟨_, rfl⟩
 rw [hhb] at H7 hs7 hs6 ⊢
 clear hhb hb7
 -- region 4: Key
 have DK := Lib.hid (fun (w' : World) (h : LibE w') (h1 : GRd w' w'.heap.size oh 0 cH) => ckey_any (c := 5) c_key w' h h1)
 rw [show ((0 : Nat) : Int) = 0 from rfl, show cH.length = 5 from rfl, show mks [91, 91, 56, 93, 44, 91, 55, 93, 93] = ⟨#[91, 91, 56, 93, 44, 91, 55, 93, 93]⟩ from rfl] at DK
 have g0 := H7.out.cell' (i := 0) rfl
 have g1 := H7.out.cell' (i := 1) rfl
 go_upto_region 5 with (go_at_call 10; ((with_reducible refine (DK.out _ W7.out O7.out).mono ?_)); rintro e w8 ⟨rfl, hb8⟩)
 have K8 := Lib.hid (K7.out.step (KFr.below hb8)).rd
 have K8' := Lib.hid (K7.out.step (KFr.below hb8))
 have N8 := Lib.hid (N7.out.step (KFr.below hb8)).rd
 have R8 := Lib.hid (R7.out.keep hb8)
 have P8 := Lib.hid (P7.out.keep hb8)
 have C8 := Lib.hid (C7.out.keep hb8)
 have B8 := Lib.hid (B7.out.trans (hb8.mono (by omega)))
 have W8 := Lib.hid (HW.out.keep (by rw [HZ.out]; exact B8.out))
 have hs8 := hb8.size
 have Q8 := Lib.hid (prd_two P8.out)
 clear g0 g1 H7 K7 N7 R7 P7 C7 O7 B7 W7 DK hb8
 -- region 5: Invert
 have DI := Lib.hid (fun (w' : World) (h : LibE w') (h1 : GRd w' w'.heap.size nb0 0 cG0) (h2 : GRd w' w'.heap.size n8 0 [cInt 56]) (h3 : PRd w' (some ⟨pb, 0, none⟩) (ixP [0, 0])) => invert_any (c := 3) (cv := 1) (cp := 2) (n := 3) (m := 1) (Nat.le_refl _) c_perf c_val rfl rfl w' h h1 h2 h3)
 unfold chV at DI
 rw [show ((0 : Nat) : Int) = 0 from rfl] at DI
 have g0 := R8.out.cell' (i := 0) rfl
 have g1 := R8.out.cell' (i := 1) rfl
 have c0 := C8.out.cell' (i := 0) rfl
 have c1 := C8.out.cell' (i := 1) rfl
 have c2 := C8.out.cell' (i := 2) rfl
 have c3 := C8.out.cell' (i := 3) rfl
 go_upto_region 6 with (go_at_call 11; ((with_reducible refine (DI.out _ W8.out K8.out N8.out Q8.out).mono ?_)); rintro e w9 ⟨oi, pi, pc, he, hb9, ki, hpi⟩; obtain rfl : e = .returned (.tuple #[.agg #[.int .i64 1, .slice (some ⟨pi, 0, none⟩) 2 pc, .slice (some ⟨oi, 0, none⟩) 1 1, .int .i64 0], .int .i64 0]) := he)
 have hba : Below w9.heap.size w9 (w9.alloc (.cells #[.int .i64 1, .slice (some ⟨pi, 0, none⟩) 2 pc, .slice (some ⟨oi, 0, none⟩) 1 1, .int .i64 0] 28)) := (Below.refl _ _).alloc (Nat.le_refl _) _
 have A9 := Lib.hid (Arr.new w9 28 [.int .i64 1, .slice (some ⟨pi, 0, none⟩) 2 pc, .slice (some ⟨oi, 0, none⟩) 1 1, .int .i64 0])
 have K9 := Lib.hid ((K8'.out.step (KFr.below hb9)).step (KFr.below hba))
 have I9 := Lib.hid (ki.step (KFr.below hba))
 have R9 := Lib.hid ((R8.out.keep hb9).keep hba)
 have P9 := Lib.hid ((P8.out.keep hb9).keep hba)
 have C9 := Lib.hid ((C8.out.keep hb9).keep hba)
 have Q9 := Lib.hid ((prd_own hpi).keep hba)
 have HB9 := B8.out.trans (hb9.mono (by omega))
 have hs9 : cb < w9.heap.size := by have := hb9.size; omega
 have B9 := Lib.hid (HB9.trans (hba.mono (by omega)))
 have hsa : w9.heap.size < (w9.alloc (.cells #[.int .i64 1, .slice (some ⟨pi, 0, none⟩) 2 pc, .slice (some ⟨oi, 0, none⟩) 1 1, .int .i64 0] 28)).heap.size := A9.out.lt
 clear g0 g1 c0 c1 c2 c3 K8 K8' N8 R8 P8 C8 B8 W8 Q8 DI hb9 ki hpi HB9 hs8 hs7 hs6 hs4
 generalize (w9.alloc (.cells #[.int .i64 1, .slice (some ⟨pi, 0, none⟩) 2 pc, .slice (some ⟨oi, 0, none⟩) 1 1, .int .i64 0] 28)) = wb at *
 obtain ⟨bb, hbb⟩ : ∃ x, w9.heap.size = x := ⟨_, rfl⟩
 rw [hbb] at A9 hs9 hsa ⊢
 clear hbb hba
 -- region 6: the change x
 have hbc : Below wb.heap.size wb (wb.alloc (.cells #[.int .i64 3, .string ⟨#[]⟩] 36)) := (Below.refl _ _).alloc (Nat.le_refl _) _
 have hX := Lib.hid (Arr.new wb 36 [.int .i64 3, .string ⟨#[]⟩])
 go_upto_region 7 with (go_at_call 8; ((with_reducible refine (D1.out _).mono ?_)); rintro e wd ⟨n1, rfl, hn1, hbd, had⟩)
 have hbe := hbc.trans (hbd.mono (by simp))
 have Xd := Lib.hid (hX.out.keep hbd)
 have N1 := Lib.hid (leaf_gk had.out)
 have hse := hbe.size
 clear hbc hbd hX hn1 had
 obtain ⟨xp, hxp⟩ : ∃ x, wb.heap.size = x := ⟨_, rfl⟩
 have HXP := Lib.hid hxp
 rw [hxp] at Xd ⊢
 clear hxp
 have hbf : Below wd.heap.size wd (wd.alloc (.cells #[.int .i64 2, .slice (some ⟨xp, 0, none⟩) 1 1, .slice (some ⟨n1, 0, none⟩) 1 1, .int .i64 0] 28)) := (Below.refl _ _).alloc (Nat.le_refl _) _
 have XF := Lib.hid (Arr.new wd 28 [.int .i64 2, .slice (some ⟨xp, 0, none⟩) 1 1, .slice (some ⟨n1, 0, none⟩) 1 1, .int .i64 0])
 have AF := Lib.hid ((A9.out.keep hbe).keep hbf)
 have KF := Lib.hid ((K9.out.step (KFr.below hbe)).step (KFr.below hbf))
 have IF_ := Lib.hid ((I9.out.step (KFr.below hbe)).step (KFr.below hbf))
 have RF := Lib.hid ((R9.out.keep hbe).keep hbf)
 have PF := Lib.hid ((P9.out.keep hbe).keep hbf)
 have CF := Lib.hid ((C9.out.keep hbe).keep hbf)
 have QF := Lib.hid ((Q9.out.keep hbe).keep hbf)
 have XPF := Lib.hid (Xd.out.keep hbf)
 have N1F := Lib.hid (N1.out.step (KFr.below hbf))
 have BF := Lib.hid ((B9.out.trans (hbe.mono (by omega))).trans (hbf.mono (by omega)))
 have hsf : wd.heap.size < (wd.alloc (.cells #[.int .i64 2, .slice (some ⟨xp, 0, none⟩) 1 1, .slice (some ⟨n1, 0, none⟩) 1 1, .int .i64 0] 28)).heap.size := XF.out.lt
 clear A9 K9 I9 R9 P9 C9 Q9 Xd N1 B9 hbe HXP
 generalize (wd.alloc (.cells #[.int .i64 2, .slice (some ⟨xp, 0, none⟩) 1 1, .slice (some ⟨n1, 0, none⟩) 1 1, .int .i64 0] 28)) = wf at *
 obtain ⟨xb, hxb⟩ : ∃ x, wd.heap.size = x := ⟨_, rfl⟩
 rw [hxb] at XF hsf hse ⊢
 clear hxb hbf
 obtain ⟨z, hz⟩ : ∃ x, wf.heap.size = x := ⟨_, rfl⟩
 have HZf := Lib.hid hz
 rw [hz] at hsf
 clear hz
 have gz : gb < z := by omega
 have cz : cb < z := by omega
 have bz : bb < z := by omega
 have FK : Hid (∀ w', Below z wf w' → Below wf.heap.size wf w') := fun w' h => by rw [HZf.out]; exact h
 have WF : Hid (∀ w', Below z wf w' → LibE w') := fun w' h => HW.out.keep (by rw [HZ.out]; exact BF.out.trans ((FK.out w' h).mono (by have := HZf.out; omega)))
 have DS := Lib.hid (fun (n7 : Nat) (w' : World) (h : Below z wf w') (h7 : GRd w' w'.heap.size n7 0 [cInt 55]) => rsame_any (c1 := 1) (c2 := 1) (cp1 := pc) (cp2 := 2) (nd := cInt 55) rfl rfl w' (IF_.out.step (KFr.below (FK.out w' h))).rd h7 (QF.out.keep (FK.out w' h)) ((prd_two PF.out).keep (FK.out w' h)))
 have DC := Lib.hid (fun (w' : World) (h : Below z wf w') => ccheck_any (g := nb0) (o := 0) (c := 3) (r := 0) (n := 3) (gv := n1) (ov := 0) (cv := 1) (rM := 0) (m := 1) (mp := 1) (cp := 1) (op := 2) (k := 2) (A := some ⟨xp, 0, none⟩) w' (fun w2 hb => (perform_ins (c := 3) (cv := 1) (Nat.le_refl _) c_ins rfl rfl w2 ((WF.out w' h).keep hb) (((KF.out.step (KFr.below (FK.out w' h))).step (KFr.below hb))).rd (((N1F.out.step (KFr.below (FK.out w' h))).step (KFr.below hb))).rd (((prd_one (q := 3) XPF.out).keep (FK.out w' h)).keep hb)).mono (fun _ _ h => h.err)))
 have DT := Lib.hid (fun (w' : World) (h : Below z wf w') => ctouches_any 1 2 (ixP [0, 0]) (ixP [3]) (some ⟨pb, 0, none⟩) (some ⟨xp, 0, none⟩) 2 1 (.slice (some ⟨n8, 0, none⟩) 1 1) (.slice (some ⟨n1, 0, none⟩) 1 1) 0 0 (by decide) (by decide) w' ((prd_two PF.out).keep (FK.out w' h)) ((prd_one (q := 3) XPF.out).keep (FK.out w' h)))
 have DU := Lib.hid (fun (p1 : Nat) (w' : World) (h : Below z wf w') (h1 : Arr w' p1 36 [.int .i64 ((1 : Nat) : Int), .string ⟨#[]⟩]) => ctouches_any 1 1 (ixP [0, 0]) (ixP [1]) (some ⟨pb, 0, none⟩) (some ⟨p1, 0, none⟩) 2 1 (.slice (some ⟨n8, 0, none⟩) 1 1) (.slice none 0 0) 0 0 (by decide) (by decide) w' ((prd_two PF.out).keep (FK.out w' h)) (prd_one h1))
 unfold chV at DC
 rw [show ((0 : Nat) : Int) = 0 from rfl] at DC
 rw [t_cx, show (ixP [0, 0]).length = 2 from rfl, show (ixP [3]).length = 1 from rfl] at DT
 rw [t_cy, show (ixP [0, 0]).length = 2 from rfl, show (ixP [1]).length = 1 from rfl, show ((1 : Nat) : Int) = 1 from rfl] at DU
 have ra0 : ∀ w', Below z wf w' → w'.cell? ⟨gb, 0, none⟩ = some (.slice (some ⟨nb0, 0, none⟩) 3 3) := fun w' h => (Arr.below (w := wf) RF.out h (by omega)).cell' (i := 0) rfl; have raf0 : ∀ w', Below z wf w' → w'.frozen? ⟨gb, 0, none⟩ = false := fun w' h => (Arr.below (w := wf) RF.out h (by omega)).frozen 0; have ra1 : ∀ w', Below z wf w' → w'.cell? ⟨gb, 1, none⟩ = some (.int .i64 0) := fun w' h => (Arr.below (w := wf) RF.out h (by omega)).cell' (i := 1) rfl; have raf1 : ∀ w', Below z wf w' → w'.frozen? ⟨gb, 1, none⟩ = false := fun w' h => (Arr.below (w := wf) RF.out h (by omega)).frozen 1
 have rc0 : ∀ w', Below z wf w' → w'.cell? ⟨cb, 0, none⟩ = some (.int .i64 1) := fun w' h => (Arr.below (w := wf) CF.out h (by omega)).cell' (i := 0) rfl; have rcf0 : ∀ w', Below z wf w' → w'.frozen? ⟨cb, 0, none⟩ = false := fun w' h => (Arr.below (w := wf) CF.out h (by omega)).frozen 0; have rc1 : ∀ w', Below z wf w' → w'.cell? ⟨cb, 1, none⟩ = some (.slice (some ⟨pb, 0, none⟩) 2 2) := fun w' h => (Arr.below (w := wf) CF.out h (by omega)).cell' (i := 1) rfl; have rcf1 : ∀ w', Below z wf w' → w'.frozen? ⟨cb, 1, none⟩ = false := fun w' h => (Arr.below (w := wf) CF.out h (by omega)).frozen 1; have rc2 : ∀ w', Below z wf w' → w'.cell? ⟨cb, 2, none⟩ = some (.slice (some ⟨n8, 0, none⟩) 1 1) := fun w' h => (Arr.below (w := wf) CF.out h (by omega)).cell' (i := 2) rfl; have rcf2 : ∀ w', Below z wf w' → w'.frozen? ⟨cb, 2, none⟩ = false := fun w' h => (Arr.below (w := wf) CF.out h (by omega)).frozen 2; have rc3 : ∀ w', Below z wf w' → w'.cell? ⟨cb, 3, none⟩ = some (.int .i64 0) := fun w' h => (Arr.below (w := wf) CF.out h (by omega)).cell' (i := 3) rfl; have rcf3 : ∀ w', Below z wf w' → w'.frozen? ⟨cb, 3, none⟩ = false := fun w' h => (Arr.below (w := wf) CF.out h (by omega)).frozen 3
 have rb0 : ∀ w', Below z wf w' → w'.cell? ⟨bb, 0, none⟩ = some (.int .i64 1) := fun w' h => (Arr.below (w := wf) AF.out h (by omega)).cell' (i := 0) rfl; have rbf0 : ∀ w', Below z wf w' → w'.frozen? ⟨bb, 0, none⟩ = false := fun w' h => (Arr.below (w := wf) AF.out h (by omega)).frozen 0; have rb1 : ∀ w', Below z wf w' → w'.cell? ⟨bb, 1, none⟩ = some (.slice (some ⟨pi, 0, none⟩) 2 pc) := fun w' h => (Arr.below (w := wf) AF.out h (by omega)).cell' (i := 1) rfl; have rbf1 : ∀ w', Below z wf w' → w'.frozen? ⟨bb, 1, none⟩ = false := fun w' h => (Arr.below (w := wf) AF.out h (by omega)).frozen 1; have rb2 : ∀ w', Below z wf w' → w'.cell? ⟨bb, 2, none⟩ = some (.slice (some ⟨oi, 0, none⟩) 1 1) := fun w' h => (Arr.below (w := wf) AF.out h (by omega)).cell' (i := 2) rfl; have rbf2 : ∀ w', Below z wf w' → w'.frozen? ⟨bb, 2, none⟩ = false := fun w' h => (Arr.below (w := wf) AF.out h (by omega)).frozen 2; have rb3 : ∀ w', Below z wf w' → w'.cell? ⟨bb, 3, none⟩ = some (.int .i64 0) := fun w' h => (Arr.below (w := wf) AF.out h (by omega)).cell' (i := 3) rfl; have rbf3 : ∀ w', Below z wf w' → w'.frozen? ⟨bb, 3, none⟩ = false := fun w' h => (Arr.below (w := wf) AF.out h (by omega)).frozen 3
 have rx0 : ∀ w', Below z wf w' → w'.cell? ⟨xb, 0, none⟩ = some (.int .i64 2) := fun w' h => (Arr.below (w := wf) XF.out h (by omega)).cell' (i := 0) rfl; have rxf0 : ∀ w', Below z wf w' → w'.frozen? ⟨xb, 0, none⟩ = false := fun w' h => (Arr.below (w := wf) XF.out h (by omega)).frozen 0; have rx1 : ∀ w', Below z wf w' → w'.cell? ⟨xb, 1, none⟩ = some (.slice (some ⟨xp, 0, none⟩) 1 1) := fun w' h => (Arr.below (w := wf) XF.out h (by omega)).cell' (i := 1) rfl; have rxf1 : ∀ w', Below z wf w' → w'.frozen? ⟨xb, 1, none⟩ = false := fun w' h => (Arr.below (w := wf) XF.out h (by omega)).frozen 1; have rx2 : ∀ w', Below z wf w' → w'.cell? ⟨xb, 2, none⟩ = some (.slice (some ⟨n1, 0, none⟩) 1 1) := fun w' h => (Arr.below (w := wf) XF.out h (by omega)).cell' (i := 2) rfl; have rxf2 : ∀ w', Below z wf w' → w'.frozen? ⟨xb, 2, none⟩ = false := fun w' h => (Arr.below (w := wf) XF.out h (by omega)).frozen 2; have rx3 : ∀ w', Below z wf w' → w'.cell? ⟨xb, 3, none⟩ = some (.int .i64 0) := fun w' h => (Arr.below (w := wf) XF.out h (by omega)).cell' (i := 3) rfl; have rxf3 : ∀ w', Below z wf w' → w'.frozen? ⟨xb, 3, none⟩ = false := fun w' h => (Arr.below (w := wf) XF.out h (by omega)).frozen 3
 have HS : Below z wf wf := Below.refl _ _
 have hzz : z ≤ wf.heap.size := Nat.le_of_eq HZf.out.symm
 clear D1 D8 raf0 raf1 rcf0 rcf1 rcf2 rcf3 rbf0 rbf1 rbf2 rbf3 rxf0 rxf1 rxf2 rxf3
 go_region_held3 (fun w' => Below z wf w') (first | assumption | exact Below.drew (by assumption) | exact Below.alloc (by assumption) (Nat.le_trans hzz (Below.size (by assumption))) _) (first
  | (go_at_call 8; ((with_reducible refine (D7.out _).mono ?_)); rintro e w5 ⟨n7, rfl, hn7, hb5, ha5⟩; have hS5 : Below z wf w5 := Below.trans (by assumption) (hb5.mono (Nat.le_trans hzz (Below.size (by assumption)))); have G7 := Lib.hid (leaf_gk ha5.out).rd)
  | (go_at_call 12; ((with_reducible refine (DS.out _ _ (by assumption) G7.out).mono ?_)); rintro e w6 ⟨rfl, hb6⟩; have hS6 : Below z wf w6 := Below.trans (by assumption) (hb6.mono (Nat.le_trans hzz (Below.size (by assumption)))))
  | (go_at_call 13; ((with_reducible refine (DC.out _ (by assumption)).mono ?_)); rintro e w7 ⟨rfl, hb7⟩; have hS7 : Below z wf w7 := Below.trans (by assumption) (hb7.mono (Nat.le_trans hzz (Below.size (by assumption)))))
  | (go_at_call 6; ((with_reducible refine (DT.out _ (by assumption)).mono ?_)); rintro e w8 ⟨rfl, hb8⟩; have hS8 : Below z wf w8 := Below.trans (by assumption) (hb8.mono (Nat.le_trans hzz (Below.size (by assumption)))))
  | (go_at_call 6; ((with_reducible refine (DU.out _ _ (by assumption) (Arr.new _ 36 [.int .i64 1, .string ⟨#[]⟩])).mono ?_)); rintro e w9 ⟨rfl, hb9⟩; have hS9 : Below z wf w9 := Below.trans (by assumption) (hb9.mono (Nat.le_trans hzz (Below.size (by assumption))))))
 have HE : Below z0 w _ := BF.out.trans (Below.mono (show Below z wf _ by assumption) (by omega))
 go_wp2
 go_ret
 exact ⟨rfl, by rw [HZ.out]; exact HE⟩
end Go.Proofs.YtoppncpmfajbcaaGreatDoor
