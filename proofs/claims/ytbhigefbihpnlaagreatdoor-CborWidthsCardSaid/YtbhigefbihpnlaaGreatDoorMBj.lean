/- The walks of integer.Valid, of graph's scalar (the kinds that JSON has) and form. -/
import Derived.Test.YtbhigefbihpnlaaGreatDoorMAz
import Derived.Test.YtbhigefbihpnlaaGreatDoorMAd
import Derived.Test.YtbhigefbihpnlaaGreatDoorMAg
import Derived.Test.YtbhigefbihpnlaaGreatDoorMAm
import Derived.Test.YtbhigefbihpnlaaGreatDoorMBa
import Derived.Test.YtbhigefbihpnlaaGreatDoorMBi
import Derived.Test.YtbhigefbihpnlaaGreatDoorMBb
import Derived.Test.YtbhigefbihpnlaaGreatDoorMAp
set_option linter.unusedVariables false
set_option linter.unusedSimpArgs false
set_option linter.defProp false
set_option linter.constructorNameAsVariable false
namespace Go.Proofs.YtbhigefbihpnlaaGreatDoor
open Go.RowKit
def ScalC (kind : Int) (text : List Nat) (b : Bool) : Prop := ∀ w, LibE w → Calls Tryz.prog 46 #[.int .i64 kind, .string (mks text)] w fun e w' => e = .returned (.bool b) ∧ Below w.heap.size w w'
theorem by_true : By litTrue := by intro c hc; simp [litTrue] at hc; omega
theorem by_false : By litFalse := by intro c hc; simp [litFalse] at hc; omega
set_option maxRecDepth 20000 in
theorem scal_bytes (text : List Nat) : ScalC 6 text true := fun w _ => by
 go_enter Tryz.func46, Tryz.ntmps46
 go_wp2_with (fail)
 go_ret
 exact ⟨rfl, Below.refl _ _⟩
set_option maxRecDepth 20000 in
theorem scal_null (text : List Nat) : ScalC 0 text text.isEmpty := fun w _ => by
 go_enter Tryz.func46, Tryz.ntmps46
 go_wp2_with (fail)
 go_ret
 exact ⟨rfl, Below.refl _ _⟩
theorem toList_is {a b : List Nat} (ha : By a) (hb : By b) : (mks a).toList = u8s b ↔ a = b := by
 have h := eq_mks ha hb
 rw [toList_mks b] at h
 constructor
 ·intro e
  rw [show (mks a).toList = b.map UInt8.ofNat from e] at h
  simpa using h
 ·intro e
  subst e
  exact toList_mks a
set_option maxRecDepth 20000 in
theorem scal_bool (text : List Nat) (ht : By text) : ScalC 1 text (decide (text = litTrue ∨ text = litFalse)) := fun w _ => by
 have h1 : (mks text).toList = [116, 114, 117, 101] ↔ text = litTrue := toList_is ht by_true
 have h2 : (mks text).toList = [102, 97, 108, 115, 101] ↔ text = litFalse := toList_is ht by_false
 by_cases e1 : text = litTrue
 ·have k1 : ((mks text).toList = [116, 114, 117, 101]) := h1.2 e1
  rw [show decide (text = litTrue ∨ text = litFalse) = true from decide_eq_true (.inl e1)]
  clear e1 h2 h1
  go_enter Tryz.func46, Tryz.ntmps46
  go_wp2_with (fail)
  go_ret
  exact ⟨rfl, Below.refl _ _⟩
 ·have k1 : ((mks text).toList == [116, 114, 117, 101]) = false := by rw [beq_eq_false_iff_ne]; exact fun h => e1 (h1.1 h)
  have k3 : ¬ ((mks text).toList = [116, 114, 117, 101]) := fun h => e1 (h1.1 h)
  have e2 : decide (text = litTrue ∨ text = litFalse) = decide (text = litFalse) := by simp [e1]
  have k2 : ((mks text).toList == [102, 97, 108, 115, 101]) = decide (text = litFalse) := by
   rw [Bool.eq_iff_iff, beq_iff_eq, decide_eq_true_iff]; exact h2
  rw [e2]
  clear e1 e2 h1 h2
  generalize decide (text = litFalse) = b at *
  go_enter Tryz.func46, Tryz.ntmps46
  go_wp2_with (fail)
  go_ret
  exact ⟨rfl, Below.refl _ _⟩
set_option maxRecDepth 20000 in
theorem scal_text (text : List Nat) (hl : text.length < 4294967296) : ScalC 5 text (decide (ckErr (checkV text) = 0)) := fun w hw => by
 have D := Lib.hid (check_any text hl w hw.lib)
 unfold CheckR at D
 generalize ckErr (checkV text) = er at *
 generalize ckAt (checkV text) = ea at *
 go_enter Tryz.func46, Tryz.ntmps46
 go_wp2_with (go_at_call 59; ((with_reducible refine D.out.mono ?_)); rintro e w1 ⟨rfl, hb⟩)
 go_ret
 exact ⟨rfl, hb⟩
set_option maxRecDepth 20000 in
theorem scal_int (text : List Nat) (ht : By text) : ScalC 2 text (parseC text).isSome := fun w _ => by
 have D := Lib.hid (valid_any text w ht)
 generalize (parseC text).isSome = b at *
 go_enter Tryz.func46, Tryz.ntmps46
 go_wp2_with (go_at_call 56; ((with_reducible refine D.out.mono ?_)); rintro e w1 ⟨rfl, hb⟩)
 go_ret
 exact ⟨rfl, hb⟩
set_option maxRecDepth 20000 in
theorem scal_dec (text : List Nat) (ht : By text) (hl : text.length < 4294967295) : ScalC 3 text (validD text) := fun w hw => by
 have D := Lib.hid (dvalid_any text ht hl w hw)
 generalize validD text = b at *
 go_enter Tryz.func46, Tryz.ntmps46
 go_wp2_with (go_at_call 57; ((with_reducible refine D.out.mono ?_)); rintro e w1 ⟨rfl, hb⟩)
 go_ret
 exact ⟨rfl, hb⟩
def formV (nd : GNode) (b : Bool) : Bool :=
 if nd.kind = 9 then nd.text.isEmpty && !nd.ord && decide (nd.keys.length = 0)
 else if nd.kind = 10 then nd.text.isEmpty && decide (nd.keys.length = nd.items.length)
 else !nd.ord && decide (nd.keys.length = 0) && decide (nd.items.length = 0) && b
set_option maxRecDepth 20000 in
set_option maxHeartbeats 2000000 in
theorem form_any (nd : GNode) (hl : nd.keys.length ≤ 65536) (hl2 : nd.items.length ≤ 65536) (h11 : nd.kind ≠ 11) (b : Bool) (hb : nd.kind ≠ 9 → nd.kind ≠ 10 → ScalC nd.kind nd.text b) (K I : Option Addr) (ck ci : Nat) (w : World) (hw : LibE w) :
  Calls Tryz.prog 27 #[.agg #[.int .i64 nd.kind, .string (mks nd.text), .bool nd.ord, .slice K nd.keys.length ck, .slice I nd.items.length ci]] w fun e w' => e = .returned (.bool (formV nd b)) ∧ Below w.heap.size w w' := by
 have h1 : Hid (Arr (w.alloc (.cells #[.int .i64 nd.kind, .string (mks nd.text), .bool nd.ord, .slice K nd.keys.length ck, .slice I nd.items.length ci] 60)) w.heap.size 60 [.int .i64 nd.kind, .string (mks nd.text), .bool nd.ord, .slice K nd.keys.length ck, .slice I nd.items.length ci]) := Arr.new w _ _
 have hB1 : Hid (Below w.heap.size w (w.alloc (.cells #[.int .i64 nd.kind, .string (mks nd.text), .bool nd.ord, .slice K nd.keys.length ck, .slice I nd.items.length ci] 60))) := (Below.refl _ _).alloc (Nat.le_refl _) _
 unfold formV
 generalize nd.keys.length = nk at *
 generalize nd.items.length = ni at *
 generalize nd.kind = kd at *
 generalize nd.text = tx at *
 generalize nd.ord = od at *
 generalize hFV : (if kd = 9 then tx.isEmpty && !od && decide (nk = 0) else if kd = 10 then tx.isEmpty && decide (nk = ni) else !od && decide (nk = 0) && decide (ni = 0) && b) = FV
 have HFV := Lib.hid hFV
 clear hFV
 go_enter Tryz.func27, Tryz.ntmps27
 go_upto_region 1 with (fail)
 generalize (w.alloc (.cells #[.int .i64 kd, .string (mks tx), .bool od, .slice K nk ck, .slice I ni ci] 60)) = W at *
 have x0 := h1.out.cell' (i := 0) rfl
 have x1 := h1.out.cell' (i := 1) rfl
 have x2 := h1.out.cell' (i := 2) rfl
 have x3 := h1.out.cell' (i := 3) rfl
 have x4 := h1.out.cell' (i := 4) rfl
 have hFV := HFV.out
 clear HFV
 have hte : tx.isEmpty = true ∨ tx.isEmpty = false := by cases tx.isEmpty <;> simp
 have kz : ((nk : Int) == 0) = decide (nk = 0) := by rw [Bool.eq_iff_iff, beq_iff_eq, decide_eq_true_iff]; omega
 have iz : ((ni : Int) == 0) = decide (ni = 0) := by rw [Bool.eq_iff_iff, beq_iff_eq, decide_eq_true_iff]; omega
 have kiz : ((nk : Int) == (ni : Int)) = decide (nk = ni) := by rw [Bool.eq_iff_iff, beq_iff_eq, decide_eq_true_iff]; omega
 generalize decide (nk = 0) = bk at *
 generalize decide (ni = 0) = bi at *
 generalize decide (nk = ni) = bki at *
 by_cases e9 : kd = 9
 ·subst e9
  rw [if_pos rfl] at hFV
  rcases hte with ht | ht
  ·have hv : FV = (!od && bk) := by rw [← hFV, ht]; rfl
   subst hv
   clear hFV
   cases od
   all_goals
    go_wp2_with (fail)
    go_ret
    exact ⟨rfl, hB1.out⟩
  ·have hv : FV = false := by rw [← hFV, ht]; rfl
   subst hv
   clear hFV
   go_wp2_with (fail)
   go_ret
   exact ⟨rfl, hB1.out⟩
 ·by_cases e10 : kd = 10
  ·subst e10
   rw [if_neg (by omega), if_pos rfl] at hFV
   rcases hte with ht | ht
   ·have hv : FV = bki := by rw [← hFV, ht]; rfl
    subst hv
    clear hFV
    go_wp2_with (fail)
    go_ret
    exact ⟨rfl, hB1.out⟩
   ·have hv : FV = false := by rw [← hFV, ht]; rfl
    subst hv
    clear hFV
    go_wp2_with (fail)
    go_ret
    exact ⟨rfl, hB1.out⟩
  ·rw [if_neg e9, if_neg e10] at hFV
   have D := Lib.hid (hb e9 e10 W (hw.keep hB1.out))
   subst hFV
   cases od
   ·cases bk
    ·go_wp2_with (fail)
     go_ret
     exact ⟨rfl, hB1.out⟩
    ·cases bi
     ·go_wp2_with (fail)
      go_ret
      exact ⟨rfl, hB1.out⟩
     ·go_wp2_with (go_at_call 46; ((with_reducible refine D.out.mono ?_)); rintro e w1 ⟨rfl, hb1⟩)
      go_ret
      exact ⟨rfl, hB1.out.trans (hb1.mono hB1.out.size)⟩
   ·go_wp2_with (fail)
    go_ret
    exact ⟨rfl, hB1.out⟩
end Go.Proofs.YtbhigefbihpnlaaGreatDoor
namespace Go.Proofs.YtbhigefbihpnlaaGreatDoor
open Go.RowKit
def scV (nd : GNode) : Bool :=
 if nd.kind = 0 then nd.text.isEmpty else if nd.kind = 1 then decide (nd.text = litTrue ∨ nd.text = litFalse) else if nd.kind = 2 then (parseC nd.text).isSome
 else if nd.kind = 3 then validD nd.text else if nd.kind = 5 then decide (ckErr (checkV nd.text) = 0) else decide (nd.kind = 6)
def depD (nodes : List GNode) (root : Int) : Int := match depthV nodes root with | some p => p.1 | none => 0
def okN (nodes : List GNode) (root : Int) (i : Nat) : Bool := (reachedV nodes root (noMarks nodes.length)).getD i false && formV (ndAt nodes i) (scV (ndAt nodes i))
def okK (nodes : List GNode) (root : Int) (i : Nat) : Bool := !((inKeysV nodes).getD i false) || decide ((countsV nodes root).getD i 0 = 1)
def chkV (nodes : List GNode) (root : Int) : Int :=
 if indicesV nodes root = false then 3
 else if (List.range nodes.length).all (okN nodes root) = false then 3
 else if (List.range nodes.length).all (okK nodes root) = false then 3
 else if twiceV nodes = true then 8
 else if 32 < depD nodes root then 5 else 0
theorem all_no {f : Nat → Bool} {n i : Nat} (hi : i < n) (h : f i = false) : (List.range n).all f = false := by
 rw [Bool.eq_false_iff]
 intro e
 rw [List.all_eq_true] at e
 rw [e i (List.mem_range.2 hi)] at h
 cases h
theorem all_yes {f : Nat → Bool} {n : Nat} (h : ∀ j, j < n → f j = true) : (List.range n).all f = true := by
 rw [List.all_eq_true]
 exact fun j hj => h j (List.mem_range.1 hj)
theorem below_succ {f : Nat → Bool} {i : Nat} (h : ∀ j, j < i → f j = true) (hi : f i = true) : ∀ j, j < i + 1 → f j = true := fun j hj => by
 by_cases e : j = i
 ·rw [e]; exact hi
 ·exact h j (by omega)
structure ChkOK (nodes : List GNode) (root : Int) : Prop where
 n0 : 0 < nodes.length
 n1 : nodes.length ≤ 4096
 nl : NL 65536 nodes
 tw : TwOK nodes
 sc : ∀ i, i < nodes.length → (ndAt nodes i).kind ≠ 11 ∧ ((ndAt nodes i).kind ≠ 9 → (ndAt nodes i).kind ≠ 10 → ScalC (ndAt nodes i).kind (ndAt nodes i).text (scV (ndAt nodes i)))
 dp : indicesV nodes root = true → (List.range nodes.length).all (okN nodes root) = true → ∃ s, compV nodes root = some s ∧ EndT nodes s
set_option maxRecDepth 20000 in
set_option maxHeartbeats 16000000 in
theorem gcheck_any {B g o c : Nat} {nodes : List GNode} {root : Int} (hO : ChkOK nodes root) (w : World) (hw : LibE w) (hG : GRd w B g o nodes) :
  Calls Tryz.prog 12 #[.agg #[.slice (some ⟨g, o, none⟩) nodes.length c, .int .i64 root]] w fun e w' => e = .returned (.int .i64 (chkV nodes root)) ∧ Below w.heap.size w w' := by
 have h1 : Hid (Arr (w.alloc (.cells #[.slice (some ⟨g, o, none⟩) nodes.length c, .int .i64 root] 26)) w.heap.size 26 [.slice (some ⟨g, o, none⟩) nodes.length c, .int .i64 root]) := Arr.new w 26 [.slice (some ⟨g, o, none⟩) nodes.length c, .int .i64 root]
 have hB1 : Hid (Below w.heap.size w (w.alloc (.cells #[.slice (some ⟨g, o, none⟩) nodes.length c, .int .i64 root] 26))) := (Below.refl _ _).alloc (Nat.le_refl _) _
 have HG := Lib.hid hG
 obtain ⟨hN0, hN1, hNL, hTw, hSc, hDp⟩ := hO
 have HTw := Lib.hid hTw
 have HSc := Lib.hid hSc
 have HDp := Lib.hid hDp
 have HNL := Lib.hid hNL
 clear hG hTw hSc hDp hNL
 obtain ⟨V, hVe⟩ : ∃ V, chkV nodes root = V := ⟨_, rfl⟩
 have HV := Lib.hid hVe
 rw [hVe]
 clear hVe
 go_enter Tryz.func12, Tryz.ntmps12
 go_upto_region 1 with (fail)
 have HW := Lib.hid hw
 generalize w.alloc (.cells #[.slice (some ⟨g, o, none⟩) nodes.length c, .int .i64 root] 26) = W at *
 have HGW := Lib.hid (HG.out.below hB1.out HG.out.2.1)
 have DI := Lib.hid (indices_any (c := c) (root := root) HNL.out (by omega) W HGW.out)
 obtain ⟨n, hn⟩ : ∃ n, nodes.length = n := ⟨_, rfl⟩
 obtain ⟨gb, hgb⟩ : ∃ b, w.heap.size = b := ⟨_, rfl⟩
 have hgbl := h1.out.lt
 rw [hgb] at h1 hgbl hB1 ⊢
 rw [hn] at h1 hN0 hN1 DI ⊢
 have x0 := h1.out.cell' (i := 0) rfl
 have x1 := h1.out.cell' (i := 1) rfl
 have HN := Lib.hid hn
 have HGB := Lib.hid hgb
 clear hn hgb hw
 have hz : ((n : Int) == 0) = false := by simp; omega
 cases hIx : indicesV nodes root with
 | false =>
  have hv : V = 3 := by rw [← HV.out]; unfold chkV; rw [if_pos hIx]
  subst hv
  rw [hIx] at DI
  clear hIx
  go_wp2_with (go_at_call 25; ((with_reducible refine DI.out.mono ?_)); rintro e w2 ⟨rfl, hb2⟩)
  go_ret
  exact ⟨rfl, by rw [HGB.out]; exact hB1.out.trans (hb2.mono (by omega))⟩
 | true =>
  rw [hIx] at DI
  have HIx := Lib.hid hIx
  obtain ⟨⟨hr1, hr2⟩, hI⟩ := idx_of hIx
  have HI := Lib.hid hI
  obtain ⟨r, rfl⟩ : ∃ r : Nat, root = (r : Int) := ⟨root.toNat, by omega⟩
  have hrn : r < n := by have := HN.out; omega
  clear hIx hI hr1 hr2
  go_upto_region 5 with (go_at_call 25; ((with_reducible refine DI.out.mono ?_)); rintro e w2 ⟨rfl, hb2⟩)
  have hX2 := Lib.hid (h1.out.keep hb2)
  have hB2 : Hid (Below gb w w2) := hB1.out.trans (hb2.mono (by omega))
  have hs2 := hb2.size
  have hz0 := hX2.out.cell' (i := 0) rfl
  have hz1 := hX2.out.cell' (i := 1) rfl
  clear x0 x1 DI
  go_upto_region 6 with (at_make; go_loud (refine wpList_mk rfl _ _ 85 rfl 4 _ _ Tryz.underlying85 infoBool rfl _ _ _ _ rfl rfl n n (by omega) (by omega) (by omega) (by omega) (by unfold maxLen; omega) ?_; intro mb w3 hmb hM hb3 hz3))
  have hX3 := Lib.hid (hX2.out.keep hb3)
  have hB3 : Hid (Below gb w w3) := hB2.out.trans (hb3.mono (by have := hB2.out.size; have := HGB.out; omega))
  have l3 : gb < mb := by have := hmb.out; omega
  have hMz : Hid (Arr w3 mb 4 (Bs (noMarks n))) := by rw [← Bs_rep]; exact hM
  have hlen0 : Hid ((noMarks n).length = n) := by unfold noMarks; exact List.length_replicate
  clear hM hz0 hz1
  have y0 := hX3.out.cell' (i := 0) rfl
  have y1 := hX3.out.cell' (i := 1) rfl
  have hG3 := HG.out.below hB3.out (by have := HG.out.2.1; have := HGB.out; omega)
  have DR := reached_any (c := c) (root := (r : Int)) HI.out HNL.out r (by have := HN.out; omega) (noMarks n) w3 (by have := hlen0.out; have := HN.out; omega) hG3 (by have := HG.out.2.1; have := HGB.out; omega) hMz.out
  rw [HN.out] at DR
  have DR' := Lib.hid DR
  clear DR hG3
  obtain ⟨mk, hmk⟩ : ∃ mk, reachedV nodes (r : Int) (noMarks n) = mk := ⟨_, rfl⟩
  rw [hmk] at DR'
  have HMK : Hid (reachedV nodes (r : Int) (noMarks nodes.length) = mk) := by rw [HN.out]; exact hmk
  have hmkl : Hid (mk.length = n) := by
   have := (reachedV_ok HI.out (at_ := (r : Int)) (m := noMarks nodes.length) ⟨by omega, by have := HN.out; omega⟩ (by simp [noMarks])).2.len
   rw [HMK.out] at this
   show _ = _
   rw [this]; simp [noMarks]; exact HN.out
  clear hmk
  go_upto_region 7 with (go_at_call 26; ((with_reducible refine DR'.out.mono ?_)); rintro e w4 ⟨rfl, hg4, hM4⟩)
  have hX4 := Lib.hid (hX3.out.grown hg4 (by intro e; have e' : gb = mb := Option.some.inj e; omega))
  have hB4 : Hid (Below gb w w4) := below_row hB3.out hg4 (by have := HGB.out; have := hB3.out.size; omega) (by omega)
  clear y0 y1 DR' hMz hb3 hg4
  have y0 := hX4.out.cell' (i := 0) rfl
  go_upto_region 8 with (fail)
  clear y0
  have hF0 : Hid (∀ j, j < 0 → okN nodes (r : Int) j = true) := fun j hj => by omega
  go_loopw [36] (fun v wr => ∃ i : Nat, i ≤ n ∧ v = .int .i64 (i : Int) ∧ Hid (∀ j, j < i → okN nodes (r : Int) j = true) ∧ Below w4.heap.size w4 wr) (fun v _ => n - (intOf v).toNat)
  case atStart => exact ⟨0, Nat.zero_le _, rfl, hF0, Below.refl _ _⟩
  case round =>
   obtain ⟨i, hi, rfl, hF, hgr⟩ := hrel
   have hBr := Lib.hid (hB4.out.trans (hgr.mono (by have := hB4.out.size; have := HGB.out; omega)))
   by_cases hin : i = n
   ·have hin' : ¬ (i : Int) < n := by omega
    have hAll : Hid ((List.range nodes.length).all (okN nodes (r : Int)) = true) := all_yes fun j hj => hF.out j (by have := HN.out; omega)
    have hXr := Lib.hid (hX4.out.keep hgr)
    have a0 := hXr.out.cell' (i := 0) rfl
    have a1 := hXr.out.cell' (i := 1) rfl
    have hGr := HG.out.below hBr.out (by have := HG.out.2.1; have := HGB.out; omega)
    have DC := counts_any (c := c) HIx.out HNL.out (by have := HN.out; omega) wr hGr
    rw [HN.out] at DC
    have DC' := Lib.hid DC
    clear DC hGr
    go_upto_region 14 with (go_at_call 28; ((with_reducible refine DC'.out.mono ?_)); rintro e w5 ⟨cb, rfl, hcbl, hb5, hC5⟩)
    have hB5 : Hid (Below gb w w5) := hBr.out.trans (hb5.mono (by have := hBr.out.size; have := HGB.out; omega))
    have hX5 := Lib.hid (hXr.out.keep hb5)
    clear a0 a1 DC'
    have a0 := hX5.out.cell' (i := 0) rfl
    have a1 := hX5.out.cell' (i := 1) rfl
    have hGr := HG.out.below hB5.out (by have := HG.out.2.1; have := HGB.out; omega)
    have DK := inKeys_any (c := c) (root := (r : Int)) HI.out HNL.out (by have := HN.out; omega) w5 hGr
    rw [HN.out] at DK
    have DK' := Lib.hid DK
    clear DK hGr
    go_upto_region 15 with (go_at_call 29; ((with_reducible refine DK'.out.mono ?_)); rintro e w6 ⟨kb, rfl, hkbl, hb6, hK6⟩)
    have hB6 : Hid (Below gb w w6) := hB5.out.trans (hb6.mono (by have := hB5.out.size; have := HGB.out; omega))
    have hX6 := Lib.hid (hX5.out.keep hb6)
    have hC6 := Lib.hid (hC5.out.keep hb6)
    have hcl : Hid ((countsV nodes (r : Int)).length = n) := by
     unfold countsV
     show _ = _
     rw [bumps_len, bump_len, List.length_replicate]; exact HN.out
    have hkl : Hid ((inKeysV nodes).length = n) := by
     have := (inKeys_fold HI.out (nodes.flatMap GNode.keys) (fun k hk => by
      obtain ⟨nd, hnd, hk⟩ := List.mem_flatMap.1 hk
      obtain ⟨q, hq, rfl⟩ := List.getElem_of_mem hnd
      have e : ndAt nodes q = nodes[q] := by have := ndAt_get hq; rw [List.getElem?_eq_getElem hq] at this; exact (Option.some.inj this).symm
      exact HI.out q hq k (by rw [e]; unfold refs; exact List.mem_append.2 (.inl hk))) (noMarks nodes.length) (by simp [noMarks]) (noMarks_closed nodes _)).1
     show _ = _
     unfold inKeysV
     rw [this]; exact HN.out
    clear a0 a1 DK'
    have hF0' : Hid (∀ j, j < 0 → okK nodes (r : Int) j = true) := fun j hj => by omega
    go_loopw [57] (fun v ws => ∃ q : Nat, q ≤ n ∧ v = .int .i64 (q : Int) ∧ Hid (∀ j, j < q → okK nodes (r : Int) j = true) ∧ Below w6.heap.size w6 ws) (fun v _ => n - (intOf v).toNat)
    case atStart => exact ⟨0, Nat.zero_le _, rfl, hF0', Below.refl _ _⟩
    case round =>
     obtain ⟨q, hq, rfl, hFq, hgq⟩ := hrel
     have hBq := Lib.hid (hB6.out.trans (hgq.mono (by have := hB6.out.size; have := HGB.out; omega)))
     by_cases hqn : q = n
     ·have hqn' : ¬ (q : Int) < n := by omega
      have hAllK : Hid ((List.range nodes.length).all (okK nodes (r : Int)) = true) := all_yes fun j hj => hFq.out j (by have := HN.out; omega)
      have hXq := Lib.hid (hX6.out.keep hgq)
      have b0 := hXq.out.cell' (i := 0) rfl
      have b1 := hXq.out.cell' (i := 1) rfl
      have hGq := HG.out.below hBq.out (by have := HG.out.2.1; have := HGB.out; omega)
      have DT := twice_any (c := c) (root := (r : Int)) HI.out HNL.out (by have := HN.out; omega) HTw.out wr hGq
      rw [HN.out] at DT
      have DT' := Lib.hid DT
      clear DT hGq
      cases htw : twiceV nodes with
      | true =>
       have hv : V = 8 := by
        rw [← HV.out]; unfold chkV
        rw [if_neg (by rw [HIx.out]; simp), if_neg (by rw [hAll.out]; simp), if_neg (by rw [hAllK.out]; simp), if_pos htw]
       subst hv
       rw [htw] at DT'
       clear htw
       go_wp2_with (go_at_call 30; ((with_reducible refine DT'.out.mono ?_)); rintro e w7 ⟨rfl, hb7⟩)
       go_ret
       exact ⟨rfl, by rw [HGB.out]; exact hBq.out.trans (hb7.mono (by have := hBq.out.size; have := HGB.out; omega))⟩
      | false =>
       rw [htw] at DT'
       have HTF := Lib.hid htw
       clear htw
       obtain ⟨s, hs, hE⟩ := HDp.out HIx.out hAll.out
       have hdep : Hid (depD nodes (r : Int) = gI (belowV nodes s.inn s.sizes).1 (gI s.inn (r : Int)) - 1) := by
        unfold depD depthV
        rw [hs]; exact rfl
       have DD : Hid (∀ w7, GRd w7 B g o nodes → Calls Tryz.prog 31 #[.agg #[.slice (some ⟨g, o, none⟩) n c, .int .i64 (r : Int)]] w7 fun en w' => en = .returned (.tuple #[.int .i64 (gI (belowV nodes s.inn s.sizes).1 (gI s.inn (r : Int)) - 1), .bool (belowV nodes s.inn s.sizes).2]) ∧ Below w7.heap.size w7 w') := fun w7 h7 => by
        have := depth_any (c := c) (root := (r : Int)) HI.out HNL.out (by have := HN.out; omega) ⟨by omega, by have := HN.out; omega⟩ s hs hE w7 h7
        rw [HN.out] at this
        exact this
       generalize gI (belowV nodes s.inn s.sizes).1 (gI s.inn (r : Int)) - 1 = dv at *
       generalize (belowV nodes s.inn s.sizes).2 = ab at *
       clear hs hE
       have hvv : Hid (V = if 32 < dv then 5 else 0) := by
        show _ = _
        rw [← HV.out]; unfold chkV
        rw [if_neg (by rw [HIx.out]; simp), if_neg (by rw [hAll.out]; simp), if_neg (by rw [hAllK.out]; simp), if_neg (by rw [HTF.out]; simp), hdep.out]
       go_upto_region 22 with (go_at_call 30; ((with_reducible refine DT'.out.mono ?_)); rintro e w7 ⟨rfl, hb7⟩)
       have hB7 : Hid (Below gb w w7) := hBq.out.trans (hb7.mono (by have := hBq.out.size; have := HGB.out; omega))
       have hX7 := Lib.hid (hXq.out.keep hb7)
       clear b0 b1
       have b0 := hX7.out.cell' (i := 0) rfl
       have b1 := hX7.out.cell' (i := 1) rfl
       have hG7 := Lib.hid (HG.out.below hB7.out (by have := HG.out.2.1; have := HGB.out; omega))
       by_cases hdv : 32 < dv
       ·have hv : V = 5 := by rw [hvv.out, if_pos hdv]
        subst hv
        go_wp2_with (go_at_call 31; ((with_reducible refine (DD.out _ hG7.out).mono ?_)); rintro e w8 ⟨rfl, hb8⟩)
        go_ret
        exact ⟨rfl, by rw [HGB.out]; exact hB7.out.trans (hb8.mono (by have := hB7.out.size; have := HGB.out; omega))⟩
       ·have hv : V = 0 := by rw [hvv.out, if_neg hdv]
        subst hv
        go_wp2_with (go_at_call 31; ((with_reducible refine (DD.out _ hG7.out).mono ?_)); rintro e w8 ⟨rfl, hb8⟩)
        go_ret
        exact ⟨rfl, by rw [HGB.out]; exact hB7.out.trans (hb8.mono (by have := hB7.out.size; have := HGB.out; omega))⟩
     ·have hqn' : (q : Int) < n := by omega
      have hq0 : (0 : Int) ≤ q := by omega
      have hq2 : q < nodes.length := by have := HN.out; omega
      have m0 := (hK6.out.keep hgq).cell' (Bs_get (m := inKeysV nodes) (k := q) (by have := hkl.out; omega))
      have c0 := (hC6.out.keep hgq).cell' (I64_getD (l := countsV nodes (r : Int)) (k := q) (by have := hcl.out; omega))
      have hok : Hid (okK nodes (r : Int) q = (!((inKeysV nodes).getD q false) || decide ((countsV nodes (r : Int)).getD q 0 = 1))) := rfl
      generalize (inKeysV nodes).getD q false = ib at *
      generalize (countsV nodes (r : Int)).getD q 0 = cv at *
      cases ib with
      | false =>
       have hF2 : Hid (∀ j, j < q + 1 → okK nodes (r : Int) j = true) := below_succ hFq.out (by rw [hok.out]; rfl)
       go_wp2_with (fail)
       go_roundw
       case rel => exact ⟨q + 1, by omega, i64e (by omega), hF2, hgq⟩
       case measure => simp [intOf]; omega
      | true =>
       by_cases hc1 : cv = 1
       ·subst hc1
        have hF2 : Hid (∀ j, j < q + 1 → okK nodes (r : Int) j = true) := below_succ hFq.out (by rw [hok.out]; rfl)
        go_wp2_with (fail)
        go_roundw
        case rel => exact ⟨q + 1, by omega, i64e (by omega), hF2, hgq⟩
        case measure => simp [intOf]; omega
       ·have hv : V = 3 := by
         rw [← HV.out]; unfold chkV
         rw [if_neg (by rw [HIx.out]; simp), if_neg (by rw [hAll.out]; simp), if_pos (all_no hq2 (by rw [hok.out]; simp [hc1]))]
        subst hv
        have hc2 : (cv != 1) = true := by simpa using hc1
        go_wp2_with (fail)
        go_ret
        exact ⟨rfl, by rw [HGB.out]; exact hBq.out⟩
   ·have hin' : (i : Int) < n := by omega
    have hi2 : i < nodes.length := by have := HN.out; omega
    have hGr := (HG.out.below hBr.out (by have := HG.out.2.1; have := HGB.out; omega)).of_at hi2
    obtain ⟨K, ck, I, ci, c0, c1, c2, c3, c4, _, _⟩ := hGr
    have k0 : (0 : Int) ≤ i := by omega
    have hND : Hid (Arr (wr.alloc (.cells #[.int .i64 (ndAt nodes i).kind, .string (mks (ndAt nodes i).text), .bool (ndAt nodes i).ord, .slice K (ndAt nodes i).keys.length ck, .slice I (ndAt nodes i).items.length ci] 60)) wr.heap.size 60 [.int .i64 (ndAt nodes i).kind, .string (mks (ndAt nodes i).text), .bool (ndAt nodes i).ord, .slice K (ndAt nodes i).keys.length ck, .slice I (ndAt nodes i).items.length ci]) := Arr.new wr _ _
    have hbn : Hid (Below wr.heap.size wr (wr.alloc (.cells #[.int .i64 (ndAt nodes i).kind, .string (mks (ndAt nodes i).text), .bool (ndAt nodes i).ord, .slice K (ndAt nodes i).keys.length ck, .slice I (ndAt nodes i).items.length ci] 60))) := (Below.refl _ _).alloc (Nat.le_refl _) _
    go_upto_region 10 with (fail)
    clear c0 c1 c2 c3 c4
    generalize (wr.alloc (.cells #[.int .i64 (ndAt nodes i).kind, .string (mks (ndAt nodes i).text), .bool (ndAt nodes i).ord, .slice K (ndAt nodes i).keys.length ck, .slice I (ndAt nodes i).items.length ci] 60)) = w5 at *
    have hB5 : Hid (Below gb w w5) := hBr.out.trans (hbn.out.mono (by have := hBr.out.size; have := HGB.out; omega))
    have hM5 := Lib.hid ((hM4.out.keep hgr).keep hbn.out)
    have hg5 := Lib.hid (hgr.trans (hbn.out.mono hgr.size))
    obtain ⟨nb, hnb⟩ : ∃ b, wr.heap.size = b := ⟨_, rfl⟩
    rw [hnb] at hND ⊢
    obtain ⟨hLk, hLi⟩ := HNL.out i hi2
    obtain ⟨h11, hsc⟩ := HSc.out i hi2
    have hw5 : LibE w5 := HW.out.keep (by rw [HGB.out]; exact hB5.out)
    have DF := Lib.hid (form_any (ndAt nodes i) hLk hLi h11 (scV (ndAt nodes i)) hsc K I ck ci w5 hw5)
    have hok : Hid (okN nodes (r : Int) i = (mk.getD i false && formV (ndAt nodes i) (scV (ndAt nodes i)))) := by unfold okN; rw [HMK.out]; exact rfl
    have m0 := hM5.out.cell' (Bs_get (m := mk) (k := i) (by have := hmkl.out; omega))
    clear hsc hbn hBr hgr hLk hLi h11 hw5
    generalize formV (ndAt nodes i) (scV (ndAt nodes i)) = fv at *
    generalize ndAt nodes i = nd at *
    have n0 := hND.out.cell' (i := 0) rfl
    have n1 := hND.out.cell' (i := 1) rfl
    have n2 := hND.out.cell' (i := 2) rfl
    have n3 := hND.out.cell' (i := 3) rfl
    have n4 := hND.out.cell' (i := 4) rfl
    generalize mk.getD i false = mb1 at *
    cases mb1 with
    | false =>
     have hv : V = 3 := by
      rw [← HV.out]; unfold chkV
      rw [if_neg (by rw [HIx.out]; simp), if_pos (all_no hi2 (by rw [hok.out]; rfl))]
     subst hv
     go_wp2_with (fail)
     go_ret
     exact ⟨rfl, by rw [HGB.out]; exact hB5.out⟩
    | true =>
     cases fv with
     | false =>
      have hv : V = 3 := by
       rw [← HV.out]; unfold chkV
       rw [if_neg (by rw [HIx.out]; simp), if_pos (all_no hi2 (by rw [hok.out]; rfl))]
      subst hv
      go_wp2_with (go_at_call 27; ((with_reducible refine DF.out.mono ?_)); rintro e w6 ⟨rfl, hb6⟩)
      go_ret
      exact ⟨rfl, by rw [HGB.out]; exact hB5.out.trans (hb6.mono (by have := hB5.out.size; have := HGB.out; omega))⟩
     | true =>
      have hF2 : Hid (∀ j, j < i + 1 → okN nodes (r : Int) j = true) := below_succ hF.out (by rw [hok.out]; rfl)
      go_wp2_with (go_at_call 27; ((with_reducible refine DF.out.mono ?_)); rintro e w6 ⟨rfl, hb6⟩)
      go_roundw
      case rel => exact ⟨i + 1, by omega, i64e (by omega), hF2, hg5.out.trans (hb6.mono hg5.out.size)⟩
      case measure => simp [intOf]; omega
end Go.Proofs.YtbhigefbihpnlaaGreatDoor
namespace Go.Proofs.YtbhigefbihpnlaaGreatDoor
open Go.RowKit
theorem by_dec {s : List Nat} (h : s.all (fun c => decide (c < 256)) = true) : By s := fun c hc => of_decide_eq_true (List.all_eq_true.1 h c hc)
theorem all_of {n : Nat} {p : Nat → Bool} (h : (List.range n).all p = true) {k : Nat} (hk : k < n) : p k = true := List.all_eq_true.1 h k (List.mem_range.2 hk)
def ndB (N : List GNode) (nd : GNode) : Bool :=
 nd.text.all (fun c => decide (c < 256)) && (decide (nd.keys.length ≤ 65536 ∧ nd.items.length ≤ 65536 ∧ nd.text.length ≤ 100000 ∧ (nd.kind = 0 ∨ nd.kind = 1 ∨ nd.kind = 2 ∨ nd.kind = 3 ∨ nd.kind = 5 ∨ nd.kind = 9 ∨ nd.kind = 10)) && nd.keys.all fun x => decide ((ndAt N x.toNat).keys = [] ∧ (ndAt N x.toNat).items = []))
def endB (N : List GNode) : Bool := match compV N 0 with
 | some s => decide (s.inn.length = N.length ∧ s.sizes.length ≤ 65536) && ((List.range N.length).all (fun i => decide (0 ≤ s.inn.getD i 0 ∧ s.inn.getD i 0 < (s.sizes.length : Int))) && s.sizes.all fun x => decide (0 ≤ x ∧ x ≤ 65536))
 | none => false
theorem endB_ok {N : List GNode} (h : endB N = true) : ∃ s, compV N 0 = some s ∧ EndT N s := by
 unfold endB at h
 split at h
 ·rename_i s e
  rw [Bool.and_eq_true, Bool.and_eq_true] at h
  obtain ⟨h1, h2, h3⟩ := h
  have h1 := of_decide_eq_true h1
  refine ⟨s, e, h1.1, fun i hi => of_decide_eq_true (all_of h2 hi), fun c => ?_, h1.2⟩
  rw [List.getD_eq_getElem?_getD]
  cases hc : s.sizes[c]? with
  | none => simp
  | some x => exact of_decide_eq_true (List.all_eq_true.1 h3 x (List.mem_of_getElem? hc))
 ·cases h
theorem ck_ok {N : List GNode} (h0 : decide (0 < N.length ∧ N.length ≤ 4096) = true) (h1 : (List.range N.length).all (fun i => ndB N (ndAt N i)) = true) (h2 : endB N = true) : ChkOK N 0 := by
 have h0 := of_decide_eq_true h0
 have hn : ∀ i, i < N.length → By (ndAt N i).text ∧ ((ndAt N i).keys.length ≤ 65536 ∧ (ndAt N i).items.length ≤ 65536 ∧ (ndAt N i).text.length ≤ 100000 ∧ ((ndAt N i).kind = 0 ∨ (ndAt N i).kind = 1 ∨ (ndAt N i).kind = 2 ∨ (ndAt N i).kind = 3 ∨ (ndAt N i).kind = 5 ∨ (ndAt N i).kind = 9 ∨ (ndAt N i).kind = 10)) ∧ ∀ x ∈ (ndAt N i).keys, Leaf (ndAt N x.toNat) := fun i hi => by
  have h := all_of h1 hi
  unfold ndB at h
  rw [Bool.and_eq_true, Bool.and_eq_true] at h
  exact ⟨by_dec h.1, of_decide_eq_true h.2.1, fun x hx => (show (ndAt N x.toNat).keys = [] ∧ (ndAt N x.toNat).items = [] from of_decide_eq_true (List.all_eq_true.1 h.2.2 x hx))⟩
 exact {
  n0 := h0.1
  n1 := h0.2
  nl := fun i hi => ⟨(hn i hi).2.1.1, (hn i hi).2.1.2.1⟩
  tw := {
   leaf := fun i hi => (hn i hi).2.2
   by_ := fun i hi => (hn i hi).1
   wf := fun i hi => by rcases (hn i hi).2.1.2.2.2 with e | e | e | e | e | e | e <;> rw [e] <;> decide
   len := fun i hi => by have := (hn i hi).2.1.2.2.1; rw [size_mks]; unfold maxLen; omega }
  sc := fun i hi => by
   have hk := (hn i hi).2.1.2.2.2
   have ht := (hn i hi).1
   have hl := (hn i hi).2.1.2.2.1
   generalize ndAt N i = nd at *
   refine ⟨by omega, fun h9 h10 => ?_⟩
   unfold scV
   rcases hk with e | e | e | e | e | e | e
   ·rw [e]; exact scal_null _
   ·rw [e]; exact scal_bool _ ht
   ·rw [e]; exact scal_int _ ht
   ·rw [e]; exact scal_dec _ ht (by omega)
   ·rw [e]; exact scal_text _ (by omega)
   ·exact absurd e h9
   ·exact absurd e h10
  dp := fun _ _ => endB_ok h2 }
end Go.Proofs.YtbhigefbihpnlaaGreatDoor
namespace Go.Proofs.YtbhigefbihpnlaaGreatDoor
open Go.RowKit
def wholeC (marks : List Int) (l : List JSpan) : List JSpan := l.map fun x => { x with whole := !marks.any fun a => decide (x.from_ ≤ a) && decide (a < x.to_) }
def sourceC (f : Nat) (s : List Nat) : CR (List GNode × List JSpan) :=
 (hdC s 0).bind fun (h, i) => (valueC s f h ⟨0, -1, 0, 0, 0, 0, 0, false, false⟩ 0 ⟨i, [], [], [], []⟩).bind fun (_, st) =>
  if st.i < s.length then .err st.i 4 else .ok (st.nodes, wholeC st.marks st.spans)
def aw1 : List Nat := [0xa1, 0x61, 0x61, 0x82, 0x01, 0xf6]
def aw2 : List Nat := [0xd8, 0x1c, 0x81, 0xd8, 0x1d, 0x00]
def aw3 : List Nat := [0x81, 0xff]
def aw4 : List Nat := [0xd8, 0x1d, 0x00]
theorem aw1_ok : sourceC 40 aw1 = .ok ([⟨10, [], false, [1], [2]⟩, ⟨5, [97], false, [], []⟩, ⟨9, [], false, [], [3, 4]⟩, ⟨2, [49], false, [], []⟩, ⟨0, [], false, [], []⟩], [⟨0, -1, 0, 0, 6, 0, 0, false, true⟩, ⟨2, 0, 0, 3, 6, 1, 3, false, true⟩, ⟨3, 1, 0, 4, 5, 0, 0, false, true⟩, ⟨4, 1, 1, 5, 6, 0, 0, false, true⟩]) := by kernel_rfl
theorem aw2_ok : sourceC 40 aw2 = .ok ([⟨9, [], false, [], [0]⟩], [⟨0, -1, 0, 0, 6, 0, 0, false, false⟩, ⟨0, 0, 0, 3, 6, 0, 0, true, true⟩]) := by kernel_rfl
theorem aw3_err : sourceC 40 aw3 = .err 1 4 := by kernel_rfl
theorem aw4_err : sourceC 40 aw4 = .err 0 24 := by kernel_rfl
end Go.Proofs.YtbhigefbihpnlaaGreatDoor
