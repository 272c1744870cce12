/- The walks of trim and small of integer. -/
import Derived.Test.YtbhigefbihpnlaaGreatDoorProg
import Derived.Test.YtbhigefbihpnlaaGreatDoorMAa
set_option linter.unusedVariables false
set_option linter.unusedSimpArgs false
set_option linter.defProp false
set_option linter.constructorNameAsVariable false
namespace Go.Proofs.YtbhigefbihpnlaaGreatDoor
open Go.RowKit
theorem Tryz.info5 : (Tryz.prog.info? 5).map (fun i => (i.zero, i.size, i.bytes)) = some (some (.int .u8 0), 1, 1) := by kernel_rfl
theorem Tryz.size5 : (Tryz.prog.info? 5).map (·.size) = some 1 := by kernel_rfl
theorem Tryz.sz158 : (Tryz.prog.info? 158).map (·.size) = some 2 := by kernel_rfl
theorem Tryz.info3 : (Tryz.prog.info? 3).map (fun i => (i.zero, i.size, i.bytes)) = some (some (.int .i64 0), 1, 8) := by kernel_rfl
theorem rd_trim {w : World} {A : Option Addr} {ds : List Nat} (h : Rd w A (B8 ds)) (ht : Ten ds) : Rd w A (B8 (dg (val ds))) := by
 rw [dg_val ht]
 have := h.take (tlen ds)
 unfold B8 at this ⊢
 rwa [← List.map_take] at this
def TrimPost (ds : List Nat) (A : Option Addr) (c : Nat) (w : World) (e : Ending) (w' : World) : Prop :=
 ∃ k, e = .returned (.slice A k c) ∧ Hid (k = (dg (val ds)).length) ∧ k ≤ ds.length ∧ Rd w A (B8 (dg (val ds))) ∧ w = w'
theorem trim_end {w : World} {A : Option Addr} {ds : List Nat} {k c : Nat} {n : Nat} (hr : Rd w A (B8 ds)) (hd : Ten ds) (hn : n = ds.length) (hk : k ≤ n) (ht : tlen (ds.take k) = tlen ds)
  (he : tlen (ds.take k) = k) : TrimPost ds A c w (.returned (.slice A k c)) w := by
 refine ⟨k, rfl, ?_, by omega, rd_trim hr hd, rfl⟩
 show k = _
 rw [dg_val hd, List.length_take]
 have := tlen_le ds
 omega
set_option maxHeartbeats 400000 in
theorem trim_any (A : Option Addr) (n c : Nat) (ds : List Nat) (w : World) (hn : Hid (n = ds.length)) (hr : Rd w A (B8 ds)) (hd : Ten ds) (hc : n ≤ c) (hm : n ≤ maxLen) :
  Calls Tryz.prog 111 #[.slice A n c] w (TrimPost ds A c w) := by
 unfold maxLen at hm
 go_enter Tryz.func111, Tryz.ntmps111
 go_wp2
 go_loop [0] (fun v => ∃ k : Nat, k ≤ n ∧ Hid (tlen (ds.take k) = tlen ds) ∧ v = .slice A k c) (fun v => match v with | .slice _ k _ => k | _ => 0)
 case atStart => exact ⟨n, Nat.le_refl _, by show _ = _; rw [List.take_of_length_le (by have := hn.out; omega)], rfl⟩
 case round =>
  obtain ⟨k, hk, ht, rfl⟩ := hrel
  by_cases h0 : k = 0
  ·subst h0
   go_wp2
   go_ret
   exact trim_end hr hd hn.out hk ht.out (by simp [tlen])
  ·have hk1 : 0 < k := by omega
   have hk2 : k - 1 < ds.length := by have := hn.out; omega
   obtain ⟨d, hdd⟩ : ∃ d, ds[k-1]? = some d := ⟨_, List.getElem?_eq_getElem hk2⟩
   obtain ⟨ad, rfl, hcell⟩ := hr.at_ (B8_get hdd)
   have hs := tlen_take_succ hdd
   rw [show k - 1 + 1 = k by omega] at hs
   have HS := Lib.hid hs; clear hs
   have HD := Lib.hid hdd; clear hdd
   have e1 : ((k:Int) - 1).toNat = k - 1 := by omega
   by_cases hz : d = 0
   ·subst hz
    go_wp2
    refine ⟨⟨k - 1, by omega, ?_, rfl⟩, ?_⟩
    ·have h1 := HS.out
     rw [if_pos rfl] at h1
     exact h1.symm.trans ht.out
    ·show k - 1 < k
     omega
   ·have hz' : ((d : Int) == 0) = false := by simp; omega
    go_wp2
    go_ret
    have h1 := HS.out
    rw [if_neg hz] at h1
    exact trim_end hr hd hn.out hk ht.out (by omega)
end Go.Proofs.YtbhigefbihpnlaaGreatDoor
namespace Go.Proofs.YtbhigefbihpnlaaGreatDoor
open Go.RowKit
def runL : List Nat → Nat
 | [] => 0
 | c :: l => if 48 ≤ c ∧ c ≤ 57 then runL l + 1 else 0
def AllD (l : List Nat) : Prop := ∀ c ∈ l, 48 ≤ c ∧ c ≤ 57
theorem AllD.get {a : List Nat} (h : AllD a) {k d : Nat} (hk : a[k]? = some d) : 48 ≤ d ∧ d ≤ 57 := h d (List.mem_of_getElem? hk)
theorem drop_cons {l : List Nat} {k c : Nat} (h : l[k]? = some c) : l.drop k = c :: l.drop (k + 1) := by
 have h2 := List.getElem?_eq_some_iff.1 h
 rw [List.drop_eq_getElem_cons h2.1, h2.2]
def smallV : List Nat → Nat → Nat
 | [], n => n
 | c :: l, n => smallV l (if 1099511627776 < 10 * n + (c - 48) then 1099511627776 else 10 * n + (c - 48))
def hasP (p s : List Nat) : Bool := decide (s.take p.length = p)
theorem dec_set {b : List Nat} {k c : Nat} (hd : b[k]? = some c) : ((dec (b.take k) ++ List.replicate (b.length - k) 0).set k (c - 48)) = dec (b.take (k + 1)) ++ List.replicate (b.length - (k + 1)) 0 := by
 have h := List.getElem?_eq_some_iff.1 hd
 have hk := h.1
 have e1 : List.replicate (b.length - k) 0 = 0 :: List.replicate (b.length - (k + 1)) 0 := by
  rw [← List.replicate_succ]; congr 1; have := h.1; omega
 rw [e1, set_mid (by simp [dec]; omega), List.take_succ_eq_append_getElem h.1, h.2]
 simp [dec]
set_option maxHeartbeats 1000000 in
theorem bytes_any (b : List Nat) (hs : AllD b) (w : World) (hl : b.length < 4294967296) : Calls Tryz.prog 116 #[.string (mks b)] w fun e w' =>
  ∃ g, e = .returned (.slice (some ⟨g, 0, none⟩) b.length b.length) ∧ Hid (g = w.heap.size) ∧ Hid (Arr w' g 5 (B8 (dec b))) ∧ Below w.heap.size w w' := by
 go_enter Tryz.func116, Tryz.ntmps116
 go_wp2_with (at_make; go_loud (refine wpList_mk rfl _ _ 23 rfl 5 _ _ Tryz.underlying23 Tryz.info5 rfl _ _ _ _ rfl rfl (b.length) (b.length) (by omega) (by omega) (by omega) (by omega) (by unfold maxLen; omega) ?_; intro g w1 hg harr hbl hsz))
 have hS1 : Hid (Arr w1 g 5 (B8 (dec (b.take 0) ++ List.replicate (b.length - 0) 0))) := by
  have h := harr.out
  show Arr _ _ _ _
  have e : B8 (dec (b.take 0) ++ List.replicate (b.length - 0) 0) = List.replicate b.length (.int .u8 0) := by simp [dec, B8]
  rw [e]; exact h
 clear harr hsz
 go_loopw [10] (fun iv wr => ∃ k : Nat, k ≤ b.length ∧ iv = .int .i64 (k : Int) ∧ Hid (Arr wr g 5 (B8 (dec (b.take k) ++ List.replicate (b.length - k) 0))) ∧ Below w.heap.size w wr) (fun iv _ => b.length - (intOf iv).toNat)
 case atStart => exact ⟨0, by omega, rfl, hS1, hbl⟩
 case round =>
  clear hS1 hbl
  obtain ⟨k, hk, rfl, ha, hb⟩ := hrel
  by_cases hlt : k < b.length
  ·obtain ⟨c, hc⟩ : ∃ c, b[k]? = some c := ⟨_, List.getElem?_eq_getElem hlt⟩
   have cb := hs.get hc
   have gc := get_mks hc (by omega) (by rw [size_mks]; omega)
   have hget : (dec (b.take k) ++ List.replicate (b.length - k) 0)[k]? = some 0 := by
    rw [List.getElem?_append_right (by simp [dec]; omega), List.getElem?_replicate, if_pos (by simp [dec]; omega)]
   have hc2 := ha.out.cell' (B8_get hget)
   have hfr := ha.out.frozen k
   have hst := ha.out.store k (.int .u8 ((c - 48 : Nat) : Int))
   rw [B8_set, dec_set hc] at hst
   have ecast : ((c - 48 : Nat) : Int) = (c : Int) - 48 := by omega
   rw [ecast] at hst
   have HST := Lib.hid hst
   have hB2 := hb.setCell (p := ⟨g, k, none⟩) (by have := hg.out; show w.heap.size ≤ g; omega) (.int .u8 ((c : Int) - 48))
   clear hst ecast hget hc
   go_wp2
   go_roundw
   case rel => exact ⟨k + 1, by omega, by go_num, HST, hB2⟩
   case measure => simp [intOf]; omega
  ·obtain rfl : k = b.length := by omega
   have hst := ha.out
   rw [List.take_length, Nat.sub_self, List.replicate_zero, List.append_nil] at hst
   have HST := Lib.hid hst
   clear hst ha
   go_wp2
   go_ret
   exact ⟨g, rfl, hg, HST, hb⟩
end Go.Proofs.YtbhigefbihpnlaaGreatDoor
namespace Go.Proofs.YtbhigefbihpnlaaGreatDoor
open Go.RowKit
def knownB (b : Int) : Bool := decide (b = 2 ∨ b = 8 ∨ b = 10 ∨ b = 16)
def digV (c : Nat) : Nat := if 48 ≤ c ∧ c ≤ 57 then c - 48 else if 97 ≤ c ∧ c ≤ 102 then c - 97 + 10 else if 65 ≤ c ∧ c ≤ 70 then c - 65 + 10 else 99
end Go.Proofs.YtbhigefbihpnlaaGreatDoor
namespace Go.Proofs.YtbhigefbihpnlaaGreatDoor
open Go.RowKit
end Go.Proofs.YtbhigefbihpnlaaGreatDoor
namespace Go.Proofs.YtbhigefbihpnlaaGreatDoor
open Go.RowKit
set_option maxHeartbeats 1000000 in
theorem small_any (A : Option Addr) (n c m : Nat) (by_ more : Int) (w : World) (hn : Hid (n = (dg m).length)) (hr : Rd w A (B8 (dg m))) (hc : n ≤ c) (hm : n ≤ 4294967296)
  (h1 : 1 ≤ by_) (h2 : by_ ≤ 256) (h3 : 0 ≤ more) (h4 : more ≤ 1000) :
  Calls Tryz.prog 153 #[.slice A n c, .int .i64 by_, .int .i64 more] w (RetS w (B8 (dg (m * by_.toNat + more.toNat)))) := by
 obtain ⟨b, rfl⟩ := Int.eq_ofNat_of_zero_le (show 0 ≤ by_ by omega)
 obtain ⟨mo, rfl⟩ := Int.eq_ofNat_of_zero_le h3
 have ht : Ten (dg m) := ten_dg m
 rw [Int.toNat_natCast, Int.toNat_natCast, ← sml_dg (by omega : 1 ≤ b)]
 generalize dg m = ds at *
 go_enter Tryz.func153, Tryz.ntmps153
 go_wp2_with (first | (at_make; refine wpList_mk rfl _ _ 23 rfl 5 _ _ Tryz.underlying23 Tryz.info5 rfl _ _ _ _ rfl rfl n (n + 4) (by omega) (by omega) (by omega) (by omega) (by unfold maxLen; omega) ?_; intro g w1 hg harr hbl hsz) | (with_reducible refine wpList_cp rfl (.tmp 16) (.tmp 17) 23 23 rfl 5 Tryz.underlying23 Tryz.size5 g n (n + 4) n c A rfl rfl _ _ harr.out (by simp) (B8 ds) (hr.keep hbl) (by rw [length_B8]; exact hn.out.symm) (Nat.le_refl _) (B8_one _) ?_; intro w2 harr2 hgr2 hsz2))
 have hB : Below w.heap.size w w2 := hbl.grown hgr2 hbl.size (fun k e => by have := hg.out; have := Option.some.inj e; omega)
 have hS2 : Hid (Arr w2 g 5 (B8 (ds ++ [0, 0, 0, 0]))) := by
  have h := harr2.out
  rw [List.drop_replicate, show n + 4 - n = 4 by omega, show List.replicate 4 (Value.int IntKind.u8 0) = B8 [0, 0, 0, 0] from rfl, ← B8_append] at h
  exact h
 clear harr harr2 hgr2 hbl
 go_loopw [8, 22] (fun cv iv wr => ∃ (k c : Nat) (dn : List Nat), k ≤ n ∧ c ≤ 1000 ∧ iv = .int .i64 k ∧ cv = .int .i64 c ∧ Hid (dn.length = k) ∧ Hid (dn ++ sml b (ds.drop k) c = sml b ds mo) ∧
   Hid (Arr wr g 5 (B8 (dn ++ (ds.drop k ++ [0, 0, 0, 0])))) ∧ Below w.heap.size w wr) (fun _ iv _ => n - (intOf iv).toNat)
 case atStart => exact ⟨0, mo, [], by omega, by omega, rfl, rfl, rfl, rfl, hS2, hB⟩
 case round =>
  obtain ⟨k, c, dn, hk, hc1, rfl, rfl, hdl, heq, ha, hb⟩ := hrel
  by_cases hlt : k < n
  ·obtain ⟨d, hd⟩ : ∃ d, ds[k]? = some d := ⟨_, List.getElem?_eq_getElem (by have := hn.out; omega)⟩
   have hd10 : d < 10 := ht.get hd
   have hget : (dn ++ (ds.drop k ++ [0, 0, 0, 0]))[k]? = some d := by
    have h1 := hdl.out
    rw [List.getElem?_append_right (by omega), h1, Nat.sub_self, List.getElem?_append_left (by have := hn.out; simp; omega), List.getElem?_drop]
    simpa using hd
   have hcell := ha.out.cell' (B8_get hget)
   have hfro := ha.out.frozen k
   have hdr : ds.drop k = d :: ds.drop (k + 1) := by
    have := (List.getElem?_eq_some_iff.1 hd)
    rw [List.drop_eq_getElem_cons this.1, this.2]
   have HDR := Lib.hid hdr; clear hdr
   have HG := Lib.hid hget; clear hget
   have HDD := Lib.hid hd; clear hd
   have hmul : 0 ≤ (d : Int) * (b : Int) := Int.mul_nonneg (by omega) (by omega)
   have hmul2 : (d : Int) * (b : Int) ≤ 9 * 256 := Int.mul_le_mul (by omega) h2 (by omega) (by omega)
   go_wp2
   go_roundw
   case rel =>
    refine ⟨k + 1, (c + d * b) / 10, dn ++ [(c + d * b) % 10], by omega, by have := hc1; omega, by go_num, i64e (by omega), ?_, ?_, ?_, hb.setCell (by have := hg.out; show w.heap.size ≤ g; omega) _⟩
    ·show _ = _; have := hdl.out; simp [this]
    ·show _ = _; rw [← heq.out, HDR.out]; simp [sml]
    ·have h1 := ha.out.store k (.int .u8 (((c + d * b) % 10 : Nat) : Int))
     rw [HDR.out, B8_set, List.cons_append, set_mid hdl.out] at h1
     have e : ((((c + d * b) % 10 : Nat) : Nat) : Int) = ((c : Int) + (d : Int) * (b : Int)) % 10 := by omega
     rw [e] at h1
     exact h1
   case measure => simp [intOf]; omega
  ·obtain rfl : k = n := by omega
   have hkl := hn.out
   have hdrop : ds.drop k = [] := List.drop_eq_nil_of_le (by omega)
   have hown : wr.ownsRow w.heap.size 5 1 (.slice (some ⟨g, 0, none⟩) k (k + 4)) k (B8 dn) := by
    have h1 := ha.out
    rw [hdrop] at h1
    have h2 := arr_own (base := w.heap.size) (n := k) (c := k + 4) h1 (by have := hg.out; omega) (by omega) (by have := hdl.out; simp [length_B8]; omega) (by unfold maxLen; omega)
    have h3 : (B8 (dn ++ ([] ++ [0, 0, 0, 0]))).take k = B8 dn := by
     rw [B8_append, List.take_append_of_le_length (by have := hdl.out; simp [length_B8]; omega), List.take_of_length_le (by have := hdl.out; simp [length_B8]; omega)]
    rwa [h3] at h2
   have heq2 : Hid (dn ++ dg c = sml b ds mo) := by
    have h1 := heq.out
    rw [hdrop] at h1
    exact h1
   have htot : Hid ((sml b ds mo).length ≤ k + 4) := by
    show _ ≤ _
    rw [← heq2.out, List.length_append, hdl.out]
    have : (dg c).length ≤ 4 := dg_len_le.2 (by omega)
    omega
   have hw0 := hg.out
   have hgs : w.heap.size ≤ g := by omega
   have HK := Lib.hid hkl
   have hdl' : Hid (k = dn.length) := hdl.out.symm
   clear hdrop heq ha hdl hkl hw0
   go_wp2
   go_loopw [7, 8] (fun ov cv wx => ∃ (q c : Nat) (dn : List Nat), c ≤ 1000 ∧ cv = .int .i64 c ∧ Hid (dn ++ dg c = sml b ds mo) ∧ Hid (q = dn.length) ∧ wx.ownsRow w.heap.size 5 1 ov q (B8 dn) ∧ Below w.heap.size w wx)
    (fun _ cv _ => (intOf cv).toNat)
   case atStart => exact ⟨_, c, dn, hc1, rfl, heq2, hdl', hown, hb⟩
   case round =>
    clear hown heq2 hb hc1 hdl'
    obtain ⟨q, c, dn, hc1, rfl, heq, hql, hown, hb⟩ := hrel
    by_cases h0 : c = 0
    ·subst h0
     go_wp2
     go_ret
     have h1 := heq.out
     rw [dg_zero, List.append_nil] at h1
     rw [← h1]
     exact own_ret hown hb (Nat.le_refl _)
    ·have hc0 : 0 < c := by omega
     have hdg := dg_pos h0
     have hqb : q ≤ 4294967296 + 4 := by
      have h1 := htot.out
      rw [← heq.out, List.length_append] at h1
      have := hql.out
      omega
     have HDG := Lib.hid hdg; clear hdg
     go_wp2_with (at_builtin; go_loud (with_reducible refine wpList_ap1 rfl (.tmp 45) (.tmp 49) 23 rfl w.heap.size 5 _ _ Tryz.underlying23 Tryz.info5 rfl _ q (B8 dn) rfl (hown.alloc _) ⟨wr.heap.size, 0, none⟩ _ (.int .u8 ((c : Int) % 10)) rfl ?a1 rfl ?a2 ?a3 ?a4 ?_); rotate_right; intro v' w3 hown3 hgr3)
     case a1 => exact cell_new _ _ _
     case a2 => unfold maxLen; omega
     case a3 => omega
     case a4 => have := hb.size; simp; omega
     ·have hlo := hown.lt
      refine ⟨⟨q + 1, c / 10, dn ++ [c % 10], by omega, i64e (by omega), ?_, ?_, ?_, ?_⟩, by simp [intOf]; omega⟩
      ·show _ = _
       rw [← heq.out, HDG.out]; simp
      ·show _ = _
       have := hql.out; simp; omega
      ·rw [B8_append]; exact hown3
      ·refine (hb.alloc hb.size _).grown hgr3 (by have := hb.size; simp; omega) (fun k e => (hlo k e).1)
end Go.Proofs.YtbhigefbihpnlaaGreatDoor
namespace Go.Proofs.YtbhigefbihpnlaaGreatDoor
open Go.RowKit
end Go.Proofs.YtbhigefbihpnlaaGreatDoor
namespace Go.Proofs.YtbhigefbihpnlaaGreatDoor
open Go.RowKit
end Go.Proofs.YtbhigefbihpnlaaGreatDoor
namespace Go.Proofs.YtbhigefbihpnlaaGreatDoor
open Go.RowKit
end Go.Proofs.YtbhigefbihpnlaaGreatDoor
