/- The walk of two of integer. -/
import Derived.Test.YtbhigefbihpnlaaGreatDoorMAc
import Derived.Test.YtbhigefbihpnlaaGreatDoorMAb
import Derived.Test.YtbhigefbihpnlaaGreatDoorMAa
set_option linter.unusedVariables false
set_option linter.unusedSimpArgs false
set_option linter.defProp false
set_option linter.constructorNameAsVariable false
namespace Go.Proofs.YtbhigefbihpnlaaGreatDoor
open Go.RowKit
def NumV (B : Nat) (w : World) (o : Option (Bool × Nat)) (v0 v1 : Value) : Prop :=
 match o with
 | none => v0 = .bool false ∧ v1 = .slice none 0 0
 | some (neg, m) => ∃ A n c, v0 = .bool neg ∧ v1 = .slice A n c ∧ Hid (n = (dg m).length) ∧ n ≤ 400 ∧ n ≤ c ∧ Rd w A (B8 (dg m)) ∧ From B A
theorem NumV.keep {B : Nat} {w w' : World} {o : Option (Bool × Nat)} {v0 v1 : Value} (h : NumV B w o v0 v1) (hb : Below w.heap.size w w') : NumV B w' o v0 v1 := by
 match o, h with
 | none, h => exact h
 | some (neg, m), ⟨A, n, c, h1, h2, h3, h4, h5, h6, h7⟩ => exact ⟨A, n, c, h1, h2, h3, h4, h5, h6.keep hb, h7⟩
theorem NumV.grown {B : Nat} {w w' : World} {o : Option (Bool × Nat)} {v0 v1 : Value} {g : Nat} (h : NumV B w o v0 v1) (hb : w.grownBy w' (some g)) (hg : g < B) : NumV B w' o v0 v1 := by
 match o, h with
 | none, h => exact h
 | some (neg, m), ⟨A, n, c, h1, h2, h3, h4, h5, h6, h7⟩ =>
  refine ⟨A, n, c, h1, h2, h3, h4, h5, h6.grown hb ?_, h7⟩
  intro ad e h
  have := h7 ad e
  have := Option.some.inj h
  omega
theorem NumV.setCell {B : Nat} {w : World} {o : Option (Bool × Nat)} {v0 v1 : Value} {p : Addr} (h : NumV B w o v0 v1) (u : Value) (hp : p.block < B) : NumV B (w.setCell p u) o v0 v1 := by
 match o, h with
 | none, h => exact h
 | some (neg, m), ⟨A, n, c, h1, h2, h3, h4, h5, h6, h7⟩ => exact ⟨A, n, c, h1, h2, h3, h4, h5, h6.setCell u (fun ad e => by have := h7 ad e; omega), h7⟩
theorem NumV.drew {B : Nat} {w : World} {o : Option (Bool × Nat)} {v0 v1 : Value} (h : NumV B w o v0 v1) : NumV B w.drew o v0 v1 := by
 match o, h with
 | none, h => exact h
 | some (neg, m), h => exact h
theorem NumV.mono {B B' : Nat} {w : World} {o : Option (Bool × Nat)} {v0 v1 : Value} (h : NumV B w o v0 v1) (hB : B' ≤ B) : NumV B' w o v0 v1 := by
 match o, h with
 | none, h => exact h
 | some (neg, m), ⟨A, n, c, h1, h2, h3, h4, h5, h6, h7⟩ => exact ⟨A, n, c, h1, h2, h3, h4, h5, h6, fun ad e => Nat.le_trans hB (h7 ad e)⟩
theorem NumV.kind {B : Nat} {w : World} {o : Option (Bool × Nat)} {v0 v1 : Value} (h : NumV B w o v0 v1) : (∃ b, v0 = .bool b) ∧ ∃ A n c, v1 = .slice A n c := by
 match o, h with
 | none, ⟨h1, h2⟩ => exact ⟨⟨_, h1⟩, _, _, _, h2⟩
 | some (neg, m), ⟨A, n, c, h1, h2, _⟩ => exact ⟨⟨_, h1⟩, _, _, _, h2⟩
theorem read_num (l : List Nat) (w : World) (hby : By l) : Calls Tryz.prog 78 #[.string (mks l)] w fun e w' =>
  Below w.heap.size w w' ∧ ∃ (b : Bool) (A : Option Addr) (n c : Nat), e = .returned (.tuple #[.agg #[.bool b, .slice A n c], .bool (parseC l).isSome]) ∧ NumV w.heap.size w' (parseC l) (.bool b) (.slice A n c) := by
 refine (read_any l w hby).mono fun e w' ⟨hb, h⟩ => ⟨hb, ?_⟩
 cases hp : parseC l with
 | none => rw [hp] at h; exact ⟨false, none, 0, 0, h, rfl, rfl⟩
 | some x =>
  obtain ⟨neg, m⟩ := x
  rw [hp] at h
  obtain ⟨A, n, c, he, h3, h4, h5, h6, h7⟩ := h
  exact ⟨neg, A, n, c, he, A, n, c, rfl, rfl, h3, h4, h5, h6, h7⟩
end Go.Proofs.YtbhigefbihpnlaaGreatDoor
namespace Go.Proofs.YtbhigefbihpnlaaGreatDoor
open Go.RowKit
end Go.Proofs.YtbhigefbihpnlaaGreatDoor
namespace Go.Proofs.YtbhigefbihpnlaaGreatDoor
open Go.RowKit
theorem asc_step {ds : List Nat} {k d n : Nat} (hd : ds[k]? = some d) (hn : ds.length = n) :
  ((List.replicate (n - k) 0 ++ (asc (ds.take k)).reverse).set (n - 1 - k) (48 + d)) = List.replicate (n - (k + 1)) 0 ++ (asc (ds.take (k + 1))).reverse := by
 have h := List.getElem?_eq_some_iff.1 hd
 have e1 : List.replicate (n - k) 0 = List.replicate (n - (k + 1)) 0 ++ [0] := by
  rw [← List.replicate_succ']; congr 1; have := h.1; omega
 rw [e1, List.append_assoc, show n - 1 - k = n - (k + 1) by omega]
 have e2 : ([0] ++ (asc (ds.take k)).reverse) = 0 :: (asc (ds.take k)).reverse := rfl
 rw [e2, set_mid (by simp), List.append_assoc]
 congr 1
 rw [List.take_succ_eq_append_getElem h.1, h.2]
 simp [asc]
def TextPost (neg : Bool) (m : Nat) (w : World) (e : Ending) (w' : World) : Prop :=
 e = .returned (if (dg m).length ≤ 400 then .tuple #[.string (mks (ntx neg m)), .int .i64 0] else .tuple #[.string (mks []), .int .i64 6]) ∧ Below w.heap.size w w'
set_option maxRecDepth 4000 in
set_option maxHeartbeats 4000000 in
theorem text_any (neg : Bool) (A : Option Addr) (n c m : Nat) (w : World) (hn : Hid (n = (dg m).length)) (hr : Rd w A (B8 (dg m))) (hm : n ≤ 4294967296) :
  Calls Tryz.prog 154 #[.agg #[.bool neg, .slice A n c]] w (TextPost neg m w) := by
 have hB0 : Below w.heap.size w (w.alloc (.cells #[.bool neg, .slice A n c] 158)) := (Below.refl _ _).alloc (Nat.le_refl _) _
 by_cases hlong : n ≤ 400
 ·by_cases h0 : n = 0
  ·subst h0
   have hm0 : m = 0 := by have := hn.out; exact dg_length_zero.1 this.symm
   subst hm0
   go_enter Tryz.func154, Tryz.ntmps154
   go_wp2
   go_ret2
   refine ⟨?_, hB0⟩
   rw [if_pos (by simp [dg_zero])]
   rfl
  ·have hn0 : 0 < n := by omega
   have h0' : ((n : Int) == 0) = false := by simp; omega
   have hlong' : ¬ (400 : Int) < n := by omega
   have HP : Hid (TextPost neg m w = fun e w' => e = .returned (.tuple #[.string (mks ((if neg then [45] else []) ++ (asc (dg m)).reverse)), .int .i64 0]) ∧ Below w.heap.size w w') := by
    show _ = _
    funext e w'
    unfold TextPost
    rw [if_pos (by have := hn.out; omega)]
    unfold ntx
    rw [if_neg (by rintro rfl; have := hn.out; rw [dg_zero] at this; simp at this; omega)]
   rw [HP.out]
   clear HP h0
   have ht := ten_dg m
   generalize dg m = ds at *
   have hr1 := hr.keep hB0
   have hsz0 : (w.alloc (.cells #[.bool neg, .slice A n c] 158)).heap.size = w.heap.size + 1 := by simp
   have hbox : Arr (w.alloc (.cells #[.bool neg, .slice A n c] 158)) w.heap.size 158 [.bool neg, .slice A n c] := Arr.new _ _ _
   have HBOX := Lib.hid hbox
   have HSZ := Lib.hid hsz0
   clear hsz0 hbox
   go_enter Tryz.func154, Tryz.ntmps154
   go_wp2_with (first | ((at_make; go_loud (refine wpList_mk rfl _ _ 23 rfl 5 _ _ Tryz.underlying23 Tryz.info5 rfl _ _ _ _ rfl rfl (n) (n) (by omega) (by omega) (by omega) (by omega) (by unfold maxLen; omega) ?_; intro g w1 hg harr hbl hsz)); have q1 := (HBOX.out.keep hbl).cell' (i := 1) rfl))
   have hgs : w.heap.size < g := by have h1 := hg.out; rw [HSZ.out] at h1; omega
   have hS1 : Hid (Arr w1 g 5 (B8 (List.replicate n 0 ++ (asc (ds.take 0)).reverse))) := by
    have h := harr.out
    show Arr _ _ _ _
    have e : B8 (List.replicate n 0 ++ (asc (ds.take 0)).reverse) = List.replicate n (.int .u8 0) := by simp [asc, B8]
    rw [e]; exact h
   have hB1 : Below w.heap.size w w1 := hB0.trans (hbl.mono (by rw [HSZ.out]; omega))
   have hbx1 := Lib.hid (HBOX.out.keep hbl)
   clear harr q1
   go_loopw [21] (fun iv wr => ∃ k : Nat, k ≤ n ∧ iv = .int .i64 k ∧ Hid (Arr wr g 5 (B8 (List.replicate (n - k) 0 ++ (asc (ds.take k)).reverse))) ∧ Hid (Arr wr w.heap.size 158 [.bool neg, .slice A n c]) ∧ Below w.heap.size w wr)
    (fun iv _ => n - (intOf iv).toNat)
   case atStart => exact ⟨0, by omega, rfl, hS1, hbx1, hB1⟩
   case round =>
    obtain ⟨k, hk, rfl, ha, hbx, hb⟩ := hrel
    have q0 := hbx.out.cell' (i := 0) rfl
    have q1 := hbx.out.cell' (i := 1) rfl
    by_cases hlt : k < n
    ·obtain ⟨d, hd⟩ : ∃ d, ds[k]? = some d := ⟨_, List.getElem?_eq_getElem (by have := hn.out; omega)⟩
     have hd10 := ht.get hd
     obtain ⟨ad, rfl, hcd0⟩ := hr.at_ (B8_get hd)
     have hcd := (hb.cell (block_lt_of_cell hcd0)).trans hcd0
     have hget : (List.replicate (n - k) 0 ++ (asc (ds.take k)).reverse)[n - 1 - k]? = some 0 := by
      rw [List.getElem?_append_left (by simp; omega), List.getElem?_replicate, if_pos (by omega)]
     have hc2 := ha.out.cell' (B8_get hget)
     have hfr := ha.out.frozen (n - 1 - k)
     have hst := ha.out.store (n - 1 - k) (.int .u8 ((48 + d : Nat) : Int))
     rw [B8_set, asc_step hd hn.out.symm] at hst
     have ecast : ((48 + d : Nat) : Int) = 48 + (d : Int) := by omega
     rw [ecast] at hst
     have HST := Lib.hid hst
     have hbx2 := Lib.hid (hbx.out.far (p := ⟨g, n - 1 - k, none⟩) (by show w.heap.size ≠ g; omega) (.int .u8 (48 + (d : Int))))
     have hB2 := hb.setCell (p := ⟨g, n - 1 - k, none⟩) (by show w.heap.size ≤ g; omega) (.int .u8 (48 + (d : Int)))
     have b1 : 0 ≤ (n : Int) - 1 - k := by omega
     have b2 : (n : Int) - 1 - k < n := by omega
     have b3 : ((n : Int) - 1 - k).toNat = n - 1 - k := by omega
     clear hst ecast hget hcd0 hd hbx
     go_wp2
     go_region
     go_wp2
     go_roundw
     case rel => exact ⟨k + 1, by omega, by go_num, HST, hbx2, hB2.drew⟩
     case measure => simp [intOf]; omega
    ·obtain rfl : k = n := by omega
     have e1 : List.replicate (k - k) 0 ++ (asc (ds.take k)).reverse = (asc ds).reverse := by
      rw [Nat.sub_self, List.take_of_length_le (by have := hn.out; omega)]; rfl
     have hrd := ha.out.rd
     rw [e1] at hrd
     have hcv := run_str (P := Tryz.prog) wr 23 9 5 Tryz.underlying23 Tryz.underlying5 Tryz.underlying9 (some ⟨g, 0, none⟩) k k _ hrd (by have := hn.out; simp [asc]; omega)
     have hl : (asc ds).length ≤ 400 := by have := hn.out; simp [asc]; omega
     clear e1 hrd ha hS1
     cases neg
     ·go_wp2
      go_ret2
      exact ⟨rfl, hb⟩
     ·have e45 : (ByteArray.mk #[45] : ByteArray) = mks [45] := mks_lit1 45
      go_wp2
      go_ret2
      exact ⟨rfl, hb⟩
 ·have hlong' : (400 : Int) < n := by omega
  go_enter Tryz.func154, Tryz.ntmps154
  go_wp2
  go_ret2
  refine ⟨?_, hB0⟩
  rw [if_neg (by have := hn.out; omega)]
  rfl
end Go.Proofs.YtbhigefbihpnlaaGreatDoor
namespace Go.Proofs.YtbhigefbihpnlaaGreatDoor
open Go.RowKit
def tS (x : Bool × Nat) : List Nat := if (dg x.2).length ≤ 400 then ntx x.1 x.2 else []
def tE (x : Bool × Nat) : Int := if (dg x.2).length ≤ 400 then 0 else 6
theorem text2_any (neg : Bool) (A : Option Addr) (n c m : Nat) (w : World) (hn : Hid (n = (dg m).length)) (hr : Rd w A (B8 (dg m))) (hm : n ≤ 4294967296) :
  Calls Tryz.prog 154 #[.agg #[.bool neg, .slice A n c]] w fun e w' => e = .returned (.tuple #[.string (mks (tS (neg, m))), .int .i64 (tE (neg, m))]) ∧ Below w.heap.size w w' := by
 refine (text_any neg A n c m w hn hr hm).mono fun e w' ⟨he, hb⟩ => ⟨?_, hb⟩
 rw [he]
 unfold tS tE
 split <;> rfl
end Go.Proofs.YtbhigefbihpnlaaGreatDoor
namespace Go.Proofs.YtbhigefbihpnlaaGreatDoor
open Go.RowKit
theorem dg_pos_len {n m : Nat} (hn : Hid (n = (dg m).length)) (h : m ≠ 0) : 0 < n := by
 have h1 := hn.out
 have : (dg m).length ≠ 0 := fun h' => h (dg_length_zero.1 h')
 omega
end Go.Proofs.YtbhigefbihpnlaaGreatDoor
namespace Go.Proofs.YtbhigefbihpnlaaGreatDoor
open Go.RowKit
set_option maxHeartbeats 2000000 in
theorem valid_any (l : List Nat) (w : World) (hl : By l) : Calls Tryz.prog 56 #[.string (mks l)] w fun e w' =>
  e = .returned (.bool (parseC l).isSome) ∧ Below w.heap.size w w' := by
 have H1 := Lib.hid (read_num l w hl)
 generalize parseC l = o at *
 go_enter Tryz.func56, Tryz.ntmps56
 go_wp2_with (go_at_call 78; go_loud (refine H1.out.mono ?_; rintro e w1 ⟨hb1, b1, A1, n1, c1, rfl, _⟩))
 go_ret
 exact ⟨rfl, hb1.alloc hb1.size _⟩
end Go.Proofs.YtbhigefbihpnlaaGreatDoor
namespace Go.Proofs.YtbhigefbihpnlaaGreatDoor
open Go.RowKit
end Go.Proofs.YtbhigefbihpnlaaGreatDoor
namespace Go.Proofs.YtbhigefbihpnlaaGreatDoor
open Go.RowKit
section
variable {P : Program} {w : World} {ops : Array Oper} {rest : List Oper} {o : Oper} {a : Act} {Q : Exit → Act → World → Prop}
theorem wpList_apl (hg : o.guard = none) (s x : Operand) (t : TypeId) (ho : o.op = .call { callee := .builtin .append, args := #[s, x], argTypes := #[t, t] }) (base : Nat) (e : TypeId) (z : Value) (bytes : Nat)
  (ht : P.underlying t = some (.slice e)) (h2 : (P.info? e).map (fun i => (i.zero, i.size, i.bytes)) = some (some z, 1, bytes)) (hz : z.cells = #[z])
  (v : Value) (n : Nat) (xs : List Value) (hs : a.eval s = v) (hown : w.ownsRow base e 1 v n xs) (A : Option Addr) (m c : Nat) (news : List Value) (hx : a.eval x = .slice A m c)
  (hr : Rd w A news) (hm : news.length = m) (hA : A = none → c = 0) (h1 : ∀ u ∈ news, u.oneCell' = true) (hmx : n + m ≤ maxLen) (hb : (n + m) * bytes ≤ 140737488355328) (hbase : base ≤ w.heap.size)
  (hK : ∀ v' w', w'.ownsRow base e 1 v' (n + m) (xs ++ news) → w.grownBy w' v.ownBlock → wpList P ops Q rest (a.put o.dst v') w') : wpList P ops Q (o :: rest) a w := by
 obtain ⟨i, hi, hz1, hz2, hz3⟩ := info_parts h2
 cases A with
 | none =>
  have hn : news = [] := by
   cases news with
   | nil => rfl
   | cons u l => obtain ⟨ad, h, _⟩ := hr 0 u rfl; cases h
  subst hn
  have hm0 : m = 0 := by simpa using hm.symm
  subst hm0
  have hc0 := hA rfl
  subst hc0
  exact wpList_append_own_none hg s x t ho base e i 1 ht hi v n xs hs hown hx (hK v w (by simpa using hown) (World.grownBy.refl _ _))
 | some ad =>
  refine wpList_append_own w hg s x t ho base e i z 1 bytes ht hi hz1 hz2 hz3 (by rw [hz]; rfl) (by decide) v n xs hs hown ad m c news hx (by omega) ?_ h1 hmx hb hbase (fun v' w' h3 h4 _ => hK v' w' h3 h4)
  intro j y hj
  obtain ⟨ad', e', hc⟩ := hr j y hj
  obtain rfl := Option.some.inj e'
  exact hc
end
theorem own_one (w : World) (t : TypeId) (u : Value) (base : Nat) (hb : base ≤ w.heap.size) : (w.alloc (.cells #[u] t)).ownsRow base t 1 (.slice (some ⟨w.heap.size, 0, none⟩) 1 1) 1 [u] :=
 arr_own (Arr.new w t [u]) hb (Nat.le_refl _) rfl (by decide)
theorem Below.allocDrew {B : Nat} {a w : World} (h : Below B a w.drew) (hB : B ≤ w.heap.size) (o : Obj) : Below B a (w.alloc o).drew := Below.alloc (w := w.drew) h hB o
section
variable {P : Program} {w : World} {ops : Array Oper} {o : Oper} {a : Act} {K : Act → World → Prop} {Q : Exit → Act → World → Prop} {E : Prop}
end
end Go.Proofs.YtbhigefbihpnlaaGreatDoor
namespace Go.Proofs.YtbhigefbihpnlaaGreatDoor
open Go.RowKit
end Go.Proofs.YtbhigefbihpnlaaGreatDoor
