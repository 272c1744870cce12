/- The walk of the law JsonNests. -/
import Derived.Test.YtimanbbdfbloeaaGreatDoorMGk
import Derived.Test.YtimanbbdfbloeaaGreatDoorMQ
set_option linter.unusedVariables false
set_option linter.unusedSimpArgs false
set_option linter.defProp false
set_option linter.constructorNameAsVariable false
namespace Go.Proofs.YtimanbbdfbloeaaGreatDoor
open Go.RowKit
theorem grd_own {w : World} {B g c : Nat} {nodes : List GNode} {ncs : List Value} (hN : w.ownsRow B 42 5 (.slice (some ⟨g, 0, none⟩) nodes.length c) nodes.length ncs) (hNr : NodesRd w (fun _ => True) ncs nodes) : GRd w w.heap.size g 0 nodes := by
 refine ⟨(hN.lt g rfl).2, Nat.le_refl _, fun i nd hi => ?_⟩
 obtain ⟨K, nk, ck, I, ni, ci, hcs, ⟨hk1, hk2, hk3⟩, ⟨hi1, hi2, hi3⟩⟩ := hNr.2 i nd hi
 subst hk1
 subst hi1
 obtain ⟨e0, e1, e2, e3, e4⟩ := node_cells hcs
 have hb : ∀ {A : Option Addr}, (∀ ad, A = some ad → True ∧ ∃ C fz, w.heap[ad.block]? = some (.cells C 3 fz)) → ∀ ad, A = some ad → ad.block < w.heap.size := fun h ad e => by
  obtain ⟨_, C, fz, hc⟩ := h ad e
  exact (Array.getElem?_eq_some_iff.1 hc).1
 rw [Nat.zero_add]
 exact ⟨K, ck, I, ci, (own_cell hN e0).1, (own_cell hN e1).1, (own_cell hN e2).1, (own_cell hN e3).1, (own_cell hN e4).1, ⟨hk2, hb hk3⟩, hi2, hb hi3⟩
theorem preL_snoc {sh : List Bool} {k : Nat} {x : Bool} (h : sh[k]? = some x) : preL (sh.take (k + 1)) = preL (sh.take k) ++ openL x := by
 rw [List.take_add_one, h]
 unfold preL
 rw [List.flatMap_append]
 simp
theorem endL_snoc {sh : List Bool} {k : Nat} {x : Bool} (h : sh[k]? = some x) : endL (sh.take (k + 1)) = closeL x :: endL (sh.take k) := by
 rw [List.take_add_one, h]
 unfold endL
 rw [List.map_append, List.reverse_append]
 rfl
def firstV (sh : List Bool) (k : Nat) : Int := if k ≤ 32 then 0 else ((preL (sh.take 32)).length : Int) + 1
theorem lit_open1 : (⟨#[123, 34, 107, 34, 58]⟩ : ByteArray) = mks (openL true) := by unfold mks; rfl
theorem lit_open0 : (⟨#[91]⟩ : ByteArray) = mks (openL false) := by unfold mks; rfl
theorem lit_close1 : (⟨#[125]⟩ : ByteArray) = mks [125] := by unfold mks; rfl
theorem lit_close0 : (⟨#[93]⟩ : ByteArray) = mks [93] := by unfold mks; rfl
theorem lit_nl : (⟨#[10]⟩ : ByteArray) = mks [10] := by unfold mks; rfl
theorem by_nest {sh : List Bool} {inner : List Nat} (h : By inner) : By (nestL sh inner) := by
 unfold nestL
 refine By.append (fun c hc => by have := preL_ascii sh c hc; omega) (By.append h (fun c hc => ?_))
 rcases List.mem_cons.1 hc with rfl | hc
 ·omega
 ·have := endL_ascii sh c hc; omega
theorem InnT.no {toks : List JTok} {nd : GNode} (h : InnT toks nd) : nd.keys = [] ∧ nd.items = [] := by
 cases h with
 | leaf t h1 h2 h3 => exact scalarV_no h3
 | list t t2 h1 h2 h3 h4 h5 h6 => rw [h6]; exact ⟨rfl, rfl⟩
 | map t t2 h1 h2 h3 h4 h5 h6 => rw [h6]; exact ⟨rfl, rfl⟩
set_option maxRecDepth 100000 in
set_option maxHeartbeats 16000000 in
theorem nests_any (sh : List Bool) (A : Option Addr) (cap : Nat) (inner : List Nat) (hby : By inner) (hil : inner.length ≤ maxLen) (hsl : sh.length ≤ maxLen) (w : World) (hw : LibE w) (hrd : Rd w A (Bs sh)) :
  Calls Tryz.prog 3 #[.slice A sh.length cap, .string (mks inner)] w fun e w' => e = .returned (.bool true) ∧ Below w.heap.size w w' := by
 unfold maxLen at hil hsl
 have DA := Lib.hid (awake_true w hw.lib)
 have HRD := Lib.hid hrd
 have HW := Lib.hid hw
 clear hrd hw
 obtain ⟨n, hn⟩ : ∃ n, sh.length = n := ⟨_, rfl⟩
 have HN := Lib.hid hn
 rw [hn] at hsl ⊢
 clear hn
 by_cases h60 : 60 < n
 ·have h60' : (60 : Int) < n := by omega
  go_enter Tryz.func3, Tryz.ntmps3
  go_wp2_with (go_at_call 4; ((with_reducible refine DA.out.mono ?_)); rintro e w3 ⟨rfl, hb3⟩)
  go_ret
  exact ⟨rfl, hb3⟩
 have h60' : ¬ (60 : Int) < n := by omega
 by_cases h50 : 50 < inner.length
 ·have h50' : (50 : Int) < inner.length := by omega
  go_enter Tryz.func3, Tryz.ntmps3
  go_wp2_with (go_at_call 4; ((with_reducible refine DA.out.mono ?_)); rintro e w3 ⟨rfl, hb3⟩)
  go_ret
  exact ⟨rfl, hb3⟩
 have h50' : ¬ (50 : Int) < inner.length := by omega
 have DP := Lib.hid (fun (w' : World) (h' : LibOK w') => jparse_any inner hby (by omega) w' h')
 cases hp : parseJ inner with
 | error x =>
  have hx := parseJ_nz hp
  have hx2 : ((x.2 : Int) != 0) = true := by simp; omega
  rw [hp] at DP
  clear hp hx
  go_enter Tryz.func3, Tryz.ntmps3
  go_wp2_with (first | (go_at_call 4; ((with_reducible refine DA.out.mono ?_)); rintro e w3 ⟨rfl, hb3⟩; have hw3 := HW.out.keep hb3) | (go_at_call 5; ((with_reducible refine (DP.out _ hw3.lib).mono ?_)); rintro e w4 ⟨hb4, rfl⟩; have hX4 := Lib.hid (Arr.new w4 30 zDoc)) | ((with_reducible show wpList _ _ _ (Oper.mk none (Op.store 30 (Operand.tmp 5) (Operand.tmp 33)) _ _ _ _ :: _) _ _); go_loud (refine wpList_sr rfl rfl 30 (.tmp 5) (.tmp 33) rfl (w4.heap.size) zDoc rfl rfl 30 _ hX4.out _ Tryz.sz30 (by first | rfl | simp) (by first | rfl | simp) (by first | rfl | simp [Value.oneCell']) ?_; intro w5 hr5 hg5 hz5)))
  go_ret
  have hb5 : Below w4.heap.size w4 w5 := ((Below.refl _ _).alloc (Nat.le_refl _) _).grown hg5 (by simp) (fun k e => by have := Option.some.inj e; omega)
  exact ⟨rfl, (hb3.trans (hb4.mono hb3.size)).trans (hb5.mono (Nat.le_trans hb3.size hb4.size))⟩
 | ok D =>
  obtain ⟨hJ, hJ0, hJ1⟩ := parseJ_JG hby hp
  obtain ⟨hnb, _⟩ := parseJ_nb hby hp
  have HO := Lib.hid (hJ.chk hJ0 hJ1 hnb)
  have HP := Lib.hid hp
  rw [hp] at DP
  clear hp hJ hnb
  go_enter Tryz.func3, Tryz.ntmps3
  go_upto_region 6 with (first | (go_at_call 4; ((with_reducible refine DA.out.mono ?_)); rintro e w3 ⟨rfl, hb3⟩; have hw3 := HW.out.keep hb3) | (go_at_call 5; ((with_reducible refine (DP.out _ hw3.lib).mono ?_)); rintro e w4 ⟨hb4, vn, vs, vo, ncs, rfl, hN, hNr, hS, hT⟩; obtain ⟨g, cn, hvn, _, _⟩ := own_slice0 hN hJ0; subst hvn; obtain ⟨As, cs, hvs, _, _⟩ := own_slice hS; subst hvs; obtain ⟨Ao, co, hvo, _, _⟩ := own_slice hT; subst hvo; have hX4 := Lib.hid (Arr.new w4 30 zDoc)) | ((with_reducible show wpList _ _ _ (Oper.mk none (Op.store 30 (Operand.tmp 5) (Operand.tmp 33)) _ _ _ _ :: _) _ _); go_loud (refine wpList_sr rfl rfl 30 (.tmp 5) (.tmp 33) rfl (w4.heap.size) [.int .i64 0, .string (mks inner), .slice (some ⟨g, 0, none⟩) D.nodes.length cn, .int .i64 0, .slice As D.spans.length cs, .slice Ao D.notes.length co] rfl rfl 30 _ hX4.out _ Tryz.sz30 (by first | rfl | simp) (by first | rfl | simp) (by first | rfl | simp [Value.oneCell']) ?_; intro w5 hr5 hg5 hz5)))
  have hb5 : Below w4.heap.size w4 w5 := ((Below.refl _ _).alloc (Nat.le_refl _) _).grown hg5 (by simp) (fun k e => by have := Option.some.inj e; omega)
  have hG5 := Lib.hid ((grd_own hN hNr).below hb5 (Nat.le_refl _))
  have hB5 := Lib.hid ((hb3.trans (hb4.mono hb3.size)).trans (hb5.mono (Nat.le_trans hb3.size hb4.size)))
  have hw5 := Lib.hid (HW.out.keep hB5.out)
  have HR5 : Hid (Arr w5 w4.heap.size 30 [.int .i64 0, .string (mks inner), .slice (some ⟨g, 0, none⟩) D.nodes.length cn, .int .i64 0, .slice As D.spans.length cs, .slice Ao D.notes.length co]) := hr5.out
  clear hN hNr hS hT hX4 hg5 hz5 hr5 hb5 hb4 hb3 hw3 DA
  obtain ⟨z, hz⟩ : ∃ z, w4.heap.size = z := ⟨_, rfl⟩
  rw [hz] at HR5 hG5 ⊢
  clear hz
  have DD := Lib.hid (gdepth_any (c := cn) HO.out w5 hw5.out hG5.out)
  have x2 := HR5.out.cell' (i := 2) rfl
  have x3 := HR5.out.cell' (i := 3) rfl
  obtain ⟨dv, hdv⟩ : ∃ x, (depthR D.nodes 0).1 = x := ⟨_, rfl⟩
  obtain ⟨tv, htv⟩ : ∃ x, (depthR D.nodes 0).2 = x := ⟨_, rfl⟩
  rw [hdv, htv] at DD
  clear hdv htv
  cases tv with
  | false =>
   generalize D.nodes.length = dn at *
   go_wp2_with (go_at_call 6; ((with_reducible refine DD.out.mono ?_)); rintro e w6 ⟨rfl, hb6⟩)
   go_ret
   exact ⟨rfl, hB5.out.trans (hb6.mono hB5.out.size)⟩
  | true =>
   go_upto_region 9 with (go_at_call 6; ((with_reducible refine DD.out.mono ?_)); rintro e w6 ⟨rfl, hb6⟩)
   clear x2 x3
   have hB6 := Lib.hid (hB5.out.trans (hb6.mono hB5.out.size))
   have hG6 := Lib.hid (hG5.out.below hb6 (by exact hG5.out.2.1))
   have hw6 := Lib.hid (HW.out.keep hB6.out)
   have HR6 := Lib.hid (HR5.out.keep hb6)
   have x2 := HR6.out.cell' (i := 2) rfl
   have x3 := HR6.out.cell' (i := 3) rfl
   have DZ := Lib.hid (gsize_any (c := cn) HO.out w6 hw6.out hG6.out)
   by_cases hs1 : sizeR D.nodes 0 = 1
   ·rw [hs1] at DZ
    have hch : chkV D.nodes 0 = 0 := by
     unfold sizeR at hs1
     split at hs1
     ·assumption
     ·omega
    have hd1 : D.nodes.length = 1 := by
     unfold sizeR at hs1
     rw [if_pos hch] at hs1
     omega
    obtain ⟨hse, nd, hnd, hIn⟩ := inner_one HP.out hd1
    have HForm := Lib.hid (one_form (nd := nd) (by rw [← hnd]; exact hch))
    have HIn := Lib.hid hIn
    have HSe := Lib.hid hse
    have h1z : ((1 : Int) != 1) = false := by simp
    clear hs1 hch hd1 hse hnd hIn
    generalize D.nodes.length = dn at *
    go_upto_region 12 with (go_at_call 7; ((with_reducible refine DZ.out.mono ?_)); rintro e w7 ⟨rfl, hb7⟩)
    have hB7 := Lib.hid (hB6.out.trans (hb7.mono hB6.out.size))
    have hw7 := Lib.hid (HW.out.keep hB7.out)
    have HR7 := Lib.hid (HRD.out.keep hB7.out)
    have HNL : Hid (∀ k, (preL (sh.take k)).length ≤ 300 ∧ (endL (sh.take k)).length ≤ 60) := fun k => by
     have h1 := preL_len (sh.take k)
     have h2 := endL_len (sh.take k)
     have h3 : (sh.take k).length ≤ 60 := by rw [List.length_take, HN.out]; omega
     omega
    clear x2 x3 DD DZ HO HP hG5 hG6 HR5 HR6 hb6 hb7 hJ0 hJ1 DP
    have e1 := lit_open1
    have e2 := lit_open0
    have e3 := lit_close1
    have e4 := lit_close0
    have e5 := lit_nl
    go_upto_region 13 with (fail)
    go_loop [10, 11, 12, 13] (fun a b c d => ∃ k : Nat, k ≤ n ∧ d = .int .i64 (k : Int) ∧ a = .string (mks (preL (sh.take k))) ∧ b = .string (mks (endL (sh.take k))) ∧ c = .int .i64 (firstV sh k)) (fun _ _ _ d => n - (intOf d).toNat)
    case atStart => exact ⟨0, Nat.zero_le _, rfl, rfl, rfl, rfl⟩
    case round =>
     obtain ⟨k, hk, rfl, rfl, rfl, rfl⟩ := hrel
     obtain ⟨hl1, hl2⟩ := HNL.out k
     by_cases hkn : k = n
     ·have hkn' : ¬ (k : Int) < n := by omega
      have ht : sh.take k = sh := List.take_of_length_le (by rw [HN.out]; omega)
      rw [ht] at hl1 hl2 ⊢
      have hkE : k = n := hkn
      clear hkn
      subst hkE
      clear ht
      have hNb := by_nest (sh := sh) hby
      have hNl : (nestL sh inner).length < 4294967281 := by unfold nestL; simp only [List.length_append, List.length_cons]; omega
      have DP : Hid (∀ w', LibOK w' → Calls Tryz.prog 5 #[.string (mks (preL sh ++ (inner ++ 10 :: endL sh)))] w' (ParseR w' (nestL sh inner) (parseJ (nestL sh inner)))) := fun w' h' => jparse_any _ hNb hNl w' h'
      have q1 : ¬ 9223372036854775807 < (preL sh).length + inner.length := by omega
      have q2 : ¬ 9223372036854775807 < (preL sh).length + inner.length + ([10] : List Nat).length := by simp; omega
      have q3 : ¬ 9223372036854775807 < (preL sh).length + inner.length + ([10] : List Nat).length + (endL sh).length := by simp; omega
      by_cases h32 : k ≤ 32
      ·have h32' : (k : Int) ≤ 32 := by omega
       have hlen32 : sh.length ≤ 32 := by rw [HN.out]; exact h32
       obtain ⟨S, ns, hpn⟩ := parse_nest (sh := sh) hlen32 (by omega) HSe.out HIn.out
       obtain ⟨hJ, hJ0, hJ1⟩ := parseJ_JG hNb hpn
       obtain ⟨hnb, _⟩ := parseJ_nb hNb hpn
       simp only at hJ hJ0 hJ1 hnb
       have HO := Lib.hid (hJ.chk hJ0 hJ1 hnb)
       have hdp := nest_depth HIn.out.no.1 HIn.out.no.2 HForm.out sh hlen32 hJ
       have HDP : Hid (depthR (nestN 0 sh nd) 0 = ((k : Int), true)) := by
        show _ = _
        rw [hdp, HN.out]
       rw [hpn] at DP
       clear hpn hJ hnb hdp hlen32
       generalize nestN 0 sh nd = NN at *
       go_upto_region 23 with (first | (go_at_call 5; ((with_reducible refine (DP.out _ hw7.out.lib).mono ?_)); rintro e w8 ⟨hb8, vn, vs', vo', ncs, rfl, hN, hNr, hS, hT⟩; obtain ⟨g8, cn8, hvn, _, _⟩ := own_slice0 hN hJ0; subst hvn; obtain ⟨As8, cs8, hvs, _, _⟩ := own_slice hS; subst hvs; obtain ⟨Ao8, co8, hvo, _, _⟩ := own_slice hT; subst hvo; have hX8 := Lib.hid (Arr.new w8 30 zDoc)) | ((with_reducible show wpList _ _ _ (Oper.mk none (Op.store 30 (Operand.tmp 14) (Operand.tmp 83)) _ _ _ _ :: _) _ _); go_loud (refine wpList_sr rfl rfl 30 (.tmp 14) (.tmp 83) rfl (w8.heap.size) [.int .i64 0, .string (mks (nestL sh inner)), .slice (some ⟨g8, 0, none⟩) NN.length cn8, .int .i64 0, .slice As8 S.length cs8, .slice Ao8 ns.length co8] rfl rfl 30 _ hX8.out _ Tryz.sz30 (by first | rfl | simp) (by first | rfl | simp) (by first | rfl | simp [Value.oneCell']) ?_; intro w9 hr9 hg9 hz9)))
       have hb9 : Below w8.heap.size w8 w9 := ((Below.refl _ _).alloc (Nat.le_refl _) _).grown hg9 (by simp) (fun k e => by have := Option.some.inj e; omega)
       have hG9 := Lib.hid ((grd_own hN hNr).below hb9 (Nat.le_refl _))
       have hB9 := Lib.hid ((hB7.out.trans (hb8.mono hB7.out.size)).trans (hb9.mono (Nat.le_trans hB7.out.size hb8.size)))
       have hw9 := Lib.hid (HW.out.keep hB9.out)
       have HR9 : Hid (Arr w9 w8.heap.size 30 [.int .i64 0, .string (mks (nestL sh inner)), .slice (some ⟨g8, 0, none⟩) NN.length cn8, .int .i64 0, .slice As8 S.length cs8, .slice Ao8 ns.length co8]) := hr9.out
       clear hN hNr hS hT hX8 hg9 hz9 hr9 hb9 hb8 DP
       obtain ⟨z9, hz⟩ : ∃ z, w8.heap.size = z := ⟨_, rfl⟩
       rw [hz] at HR9 hG9 ⊢
       clear hz
       have DD := Lib.hid (gdepth_any (c := cn8) HO.out w9 hw9.out hG9.out)
       rw [HDP.out] at DD
       clear HDP
       have x2 := HR9.out.cell' (i := 2) rfl
       have x3 := HR9.out.cell' (i := 3) rfl
       generalize NN.length = dn9 at *
       have z0 : ((0 : Int) == 0) = true := by simp
       have z1 : ((k : Int) == (k : Int)) = true := by simp
       go_wp2_with (go_at_call 6; ((with_reducible refine DD.out.mono ?_)); rintro e w10 ⟨rfl, hb10⟩)
       go_ret
       exact ⟨rfl, hB9.out.trans (hb10.mono hB9.out.size)⟩
      ·have h32' : ¬ (k : Int) ≤ 32 := by omega
       have hlen32 : 32 < sh.length := by rw [HN.out]; omega
       obtain ⟨at_, hpd, hcase⟩ := parse_deep (sh := sh) hlen32 (by rw [HN.out]; omega) (by omega) HSe.out HIn.out
       rw [hpd] at DP
       have hfv : firstV sh k = ((preL (sh.take 32)).length : Int) + 1 := by unfold firstV; rw [if_neg h32]
       rw [hfv]
       obtain ⟨F, hF⟩ : ∃ F, (preL (sh.take 32)).length = F := ⟨_, rfl⟩
       have hFl : F ≤ 300 := by rw [← hF]; exact (HNL.out 32).1
       rw [hF] at hcase ⊢
       clear hpd hfv hF
       have z5 : ((5 : Int) == 5) = true := by simp
       obtain ⟨x, hx⟩ : ∃ x, sh[32]? = some x := ⟨_, List.getElem?_eq_getElem hlen32⟩
       obtain ⟨ad, rfl, _⟩ := HR7.out.at_ (u := .bool x) (k := 32) (by unfold Bs; rw [List.getElem?_map, hx]; rfl)
       have hxd : sh.getD 32 false = x := by rw [List.getD_eq_getElem?_getD, hx]; rfl
       rw [hxd] at hcase
       have HX := Lib.hid (show (Bs sh)[32]? = some (.bool x) by unfold Bs; rw [List.getElem?_map, hx]; rfl)
       clear hx hxd hlen32
       go_upto_region 26 with (first | (go_at_call 5; ((with_reducible refine (DP.out _ hw7.out.lib).mono ?_)); rintro e w8 ⟨hb8, rfl⟩; have hX8 := Lib.hid (Arr.new w8 30 zDoc)) | ((with_reducible show wpList _ _ _ (Oper.mk none (Op.store 30 (Operand.tmp 14) (Operand.tmp 83)) _ _ _ _ :: _) _ _); go_loud (refine wpList_sr rfl rfl 30 (.tmp 14) (.tmp 83) rfl (w8.heap.size) zDoc rfl rfl 30 _ hX8.out _ Tryz.sz30 (by first | rfl | simp) (by first | rfl | simp) (by first | rfl | simp [Value.oneCell']) ?_; intro w9 hr9 hg9 hz9)))
       have hb9 : Below w8.heap.size w8 w9 := ((Below.refl _ _).alloc (Nat.le_refl _) _).grown hg9 (by simp) (fun k e => by have := Option.some.inj e; omega)
       have hB79 := Lib.hid (hb8.trans (hb9.mono hb8.size))
       have hB9 := Lib.hid (hB7.out.trans (hB79.out.mono hB7.out.size))
       obtain ⟨ad', hadE, hc⟩ := (HR7.out.keep hB79.out).at_ HX.out
       injection hadE with hadE
       subst hadE
       have hc2 : w9.cell? ⟨ad.block, ad.off + 32, none⟩ = some (.bool x) := by
        have := hc
        rwa [Addr.add_succ' ad 31] at this
       clear hX8 hg9 hz9 hr9 hb9 hb8 DP
       rcases hcase with h1 | ⟨⟨h1, h2⟩, h3, h4⟩
       ·subst h1
        have p1 : ((((F + 1 : Nat) : Int)) == (F : Int) + 1) = true := by simp
        by_cases h33 : k = 33
        ·have h33' : ((k : Int) == 33) = true := by simp; omega
         clear h33
         cases x
         all_goals
          go_wp2_with (fail)
          go_ret
          exact ⟨rfl, hB9.out⟩
        ·have h33' : ((k : Int) == 33) = false := by simp; omega
         go_wp2_with (fail)
         go_ret
         exact ⟨rfl, hB9.out⟩
       ·subst h2
        have h33' : ((k : Int) == 33) = true := by have := HN.out; simp; omega
        have h3' : (F : Int) + 1 ≤ (at_ : Int) := by omega
        have h4' : (at_ : Int) < (F : Int) + 1 + (inner.length : Int) := by omega
        by_cases he : at_ = F + 1
        ·have p1 : ((at_ : Int) == (F : Int) + 1) = true := by simp; omega
         clear he h1
         go_wp2_with (fail)
         go_ret
         exact ⟨rfl, hB9.out⟩
        ·have p1 : ((at_ : Int) == (F : Int) + 1) = false := by simp; omega
         clear h1
         go_wp2_with (fail)
         go_ret
         exact ⟨rfl, hB9.out⟩
     ·have hkn' : (k : Int) < n := by omega
      have hk0 : (0 : Int) ≤ k := by omega
      obtain ⟨x, hx⟩ : ∃ x, sh[k]? = some x := ⟨_, List.getElem?_eq_getElem (by rw [HN.out]; omega)⟩
      obtain ⟨ad, rfl, hc⟩ := HR7.out.at_ (u := .bool x) (k := k) (by unfold Bs; rw [List.getElem?_map, hx]; rfl)
      have q1 : ¬ 9223372036854775807 < (preL (sh.take k)).length + (openL x).length := by cases x <;> simp [openL] <;> omega
      have q2 : ¬ 9223372036854775807 < ([125] : List Nat).length + (endL (sh.take k)).length := by simp; omega
      have q3 : ¬ 9223372036854775807 < ([93] : List Nat).length + (endL (sh.take k)).length := by simp; omega
      have r1 := Lib.hid (preL_snoc hx)
      have r2 := Lib.hid (endL_snoc hx)
      clear hx
      by_cases h32 : k = 32
      ·have h32' : ((k : Int) == 32) = true := by simp; omega
       have r3 : Hid (((preL (sh.take k)).length : Int) + 1 = firstV sh (k + 1)) := by
        unfold firstV
        show _ = _
        rw [if_neg (by omega), h32]
       generalize firstV sh k = fk at *
       clear h32
       cases x with
       | true =>
        go_wp2_with (fail)
        go_round
        case rel => exact ⟨k + 1, by omega, i64e (by omega), by rw [r1.out], by rw [r2.out]; rfl, by rw [← r3.out]⟩
        case measure => simp [intOf]; omega
       | false =>
        go_wp2_with (fail)
        go_round
        case rel => exact ⟨k + 1, by omega, i64e (by omega), by rw [r1.out], by rw [r2.out]; rfl, by rw [← r3.out]⟩
        case measure => simp [intOf]; omega
      ·have h32' : ((k : Int) == 32) = false := by simp; omega
       have r3 : Hid (firstV sh k = firstV sh (k + 1)) := by
        unfold firstV
        show _ = _
        by_cases h : k ≤ 32
        ·rw [if_pos h, if_pos (by omega)]
        ·rw [if_neg h, if_neg (by omega)]
       cases x with
       | true =>
        go_wp2_with (fail)
        go_round
        case rel => exact ⟨k + 1, by omega, i64e (by omega), by rw [r1.out], by rw [r2.out]; rfl, by rw [← r3.out]⟩
        case measure => simp [intOf]; omega
       | false =>
        go_wp2_with (fail)
        go_round
        case rel => exact ⟨k + 1, by omega, i64e (by omega), by rw [r1.out], by rw [r2.out]; rfl, by rw [← r3.out]⟩
        case measure => simp [intOf]; omega
   ·have hs2 : (sizeR D.nodes 0 != 1) = true := by simpa using hs1
    generalize sizeR D.nodes 0 = sv at *
    generalize D.nodes.length = dn at *
    go_wp2_with (go_at_call 7; ((with_reducible refine DZ.out.mono ?_)); rintro e w7 ⟨rfl, hb7⟩)
    go_ret
    exact ⟨rfl, hB6.out.trans (hb7.mono hB6.out.size)⟩
end Go.Proofs.YtimanbbdfbloeaaGreatDoor
