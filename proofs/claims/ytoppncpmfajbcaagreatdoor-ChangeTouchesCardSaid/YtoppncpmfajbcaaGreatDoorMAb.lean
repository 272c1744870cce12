/- Laws for slices of structs that a call owns: append of one struct; two rows of different kinds lie apart. -/
import Derived.Test.YtoppncpmfajbcaaGreatDoorMAa
import Derived.Deep.MidRow
set_option linter.unusedVariables false
set_option linter.unusedSimpArgs false
set_option linter.defProp false
set_option linter.constructorNameAsVariable false
namespace Go.Proofs.YtoppncpmfajbcaaGreatDoor
open Go.RowKit
theorem cells_new (w : World) (t : TypeId) (us : List Value) : ∀ j u, us[j]? = some u → (w.alloc (.cells us.toArray t)).cell? ((⟨w.heap.size, 0, none⟩ : Addr).add j) = some u := by
 intro j u h
 obtain ⟨ad, e, hc⟩ := (Arr.new w t us).rd j u h
 obtain rfl := Option.some.inj e
 exact hc
section
variable {P : Program} {w : World} {ops : Array Oper} {rest : List Oper} {o : Oper} {a : Act} {Q : Exit → Act → World → Prop}
theorem wpList_apS (hg : o.guard = none) (s x : Operand) (t : TypeId) (ho : o.op = .call { callee := .builtin .append, args := #[s, x], argTypes := #[t, t] }) (base : Nat) (e : TypeId) (z : Value) (k bytes : Nat)
  (ht : P.underlying t = some (.slice e)) (h2 : (P.info? e).map (fun i => (i.zero, i.size, i.bytes)) = some (some z, k, bytes)) (hz : z.cells.size = k) (hk : 0 < k)
  (v : Value) (n : Nat) (xs : List Value) (hs : a.eval s = v) (hown : w.ownsRow base e k v n xs) (ad : Addr) (c : Nat) (us : List Value) (hus : us.length = k) (hx : a.eval x = .slice (some ad) 1 c)
  (hc : ∀ j u, us[j]? = some u → w.cell? (ad.add j) = some u) (h1 : us.all (·.oneCell') = true) (hm : n + 1 ≤ maxLen) (hb : (n + 1) * bytes ≤ 140737488355328) (hbase : base ≤ w.heap.size)
  (hK : ∀ v' w', w'.ownsRow base e k v' (n + 1) (xs ++ us) → w.grownBy w' v.ownBlock → (v'.ownBlock = v.ownBlock ∨ v'.ownBlock = some w.heap.size) → wpList P ops Q rest (a.put o.dst v') w') : wpList P ops Q (o :: rest) a w := by
 obtain ⟨i, hi, hz1, hz2, hz3⟩ := info_parts h2
 exact wpList_append_own_at w hg s x t ho base e i z k bytes ht hi hz1 hz2 hz3 hz hk v n xs hs hown ad 1 c us hx (by omega) hc (fun u hu => (List.all_eq_true.1 h1) u hu) hm hb hbase (fun v' w' h3 h4 _ h5 => hK v' w' h3 h4 h5)
end
section
variable {P : Program} {w : World} {ops : Array Oper} {o : Oper} {a : Act} {K : Act → World → Prop} {Q : Exit → Act → World → Prop} {E : Prop}
theorem step_apS (hg : o.guard = none) (s x : Operand) (t : TypeId) (ho : o.op = .call { callee := .builtin .append, args := #[s, x], argTypes := #[t, t] }) (base : Nat) (e : TypeId) (z : Value) (k bytes : Nat)
  (ht : P.underlying t = some (.slice e)) (h2 : (P.info? e).map (fun i => (i.zero, i.size, i.bytes)) = some (some z, k, bytes)) (hz : z.cells.size = k) (hk : 0 < k)
  (v : Value) (n : Nat) (xs : List Value) (hs : a.eval s = v) (hown : w.ownsRow base e k v n xs) (ad : Addr) (c : Nat) (us : List Value) (hus : us.length = k) (hx : a.eval x = .slice (some ad) 1 c)
  (hc : ∀ j u, us[j]? = some u → w.cell? (ad.add j) = some u) (h1 : us.all (·.oneCell') = true) (hm : n + 1 ≤ maxLen) (hb : (n + 1) * bytes ≤ 140737488355328) (hbase : base ≤ w.heap.size)
  (hK : ∀ v' w', w'.ownsRow base e k v' (n + 1) (xs ++ us) → w.grownBy w' v.ownBlock → (v'.ownBlock = v.ownBlock ∨ v'.ownBlock = some w.heap.size) → K (a.put o.dst v') w') :
  if Region.wanted o (yielded ops a.tmps) = true then Oper.wp P o a w K Q else E := by
 have hw : Region.wanted o (yielded ops a.tmps) = true := by simp [Region.wanted, hg]
 rw [if_pos hw]
 obtain ⟨i, hi, hz1, hz2, hz3⟩ := info_parts h2
 obtain ⟨v', w', hr, h3, h4, _, h5⟩ := run_append_own_at (P := P) w base t o.type e i z k bytes ht hi hz1 hz2 hz3 hz hk v n xs hown ad 1 c us (by omega) hc (fun u hu => (List.all_eq_true.1 h1) u hu) hm hb hbase
 unfold Oper.wp execOp
 simp only [ho, resolve, invoke, builtin, Sem.run_bind, Sem.run_pure, Result.andThen_ok, List.map_toArray, List.map_cons, List.map_nil, hs, hx, hr]
 exact hK _ _ h3 h4 h5
end
theorem own_kind {w : World} {b : Nat} {e : TypeId} {k : Nat} {v : Value} {n : Nat} {xs : List Value} (h : w.ownsRow b e k v n xs) {g : Nat} (hg : v.ownBlock = some g) : ∃ C fz, w.heap[g]? = some (.cells C e fz) := by
 rcases h.2 with ⟨rfl, _⟩ | ⟨g', cap, cur, rfl, _, hgg, _⟩
 ·simp [Value.ownBlock] at hg
 ·simp only [Value.ownBlock, Option.some.injEq] at hg
  subst hg
  exact ⟨cur, _, hgg⟩
theorem cells_kind {w : World} {g : Nat} {C C' : Array Value} {t t' : TypeId} {fz fz' : Nat × Nat} (h : w.heap[g]? = some (.cells C t fz)) (h' : w.heap[g]? = some (.cells C' t' fz')) : t = t' := by
 rw [h] at h'
 injection h' with e1
 injection e1
theorem own_slice {w : World} {b : Nat} {e : TypeId} {k : Nat} {v : Value} {n : Nat} {xs : List Value} (h : w.ownsRow b e k v n xs) : ∃ A c, v = .slice A n c ∧ n ≤ c ∧ c ≤ maxLen := by
 rcases h.2 with ⟨rfl, rfl⟩ | ⟨g, cap, cur, rfl, _, _, h1, h2, _⟩
 ·exact ⟨none, 0, rfl, Nat.le_refl _, by decide⟩
 ·exact ⟨_, cap, rfl, h1, h2⟩
theorem own_same {w w' : World} {b : Nat} {e : TypeId} {k : Nat} {v : Value} {n : Nat} {xs : List Value} (h : w.ownsRow b e k v n xs) (hs : ∀ g, v.ownBlock = some g → w'.heap[g]? = w.heap[g]?) : w'.ownsRow b e k v n xs := by
 refine ⟨h.1, ?_⟩
 rcases h.2 with hn | ⟨g, cap, cur, rfl, hb, hg, rest⟩
 ·exact .inl hn
 ·exact .inr ⟨g, cap, cur, rfl, hb, by rw [hs g rfl]; exact hg, rest⟩
theorem own_below {w w' : World} {b : Nat} {e : TypeId} {k : Nat} {v : Value} {n : Nat} {xs : List Value} (h : w.ownsRow b e k v n xs) (hb : Below w.heap.size w w') : w'.ownsRow b e k v n xs := by
 refine h.kept (row := none) ⟨hb.os, hb.tape, hb.output, hb.size, fun k hk _ => hb.block k hk⟩ ?_
 cases v.ownBlock with
 | none => exact .inl rfl
 | some g => exact .inr (by simp)
theorem own_arr {w : World} {b : Nat} {e : TypeId} {k : Nat} {v : Value} {n : Nat} {xs : List Value} {g : Nat} {t : TypeId} {us : List Value} (h : w.ownsRow b e k v n xs) (ha : Arr w g t us) (hne : e ≠ t) : v.ownBlock ≠ some g := by
 intro hg
 rcases h.2 with ⟨rfl, _⟩ | ⟨g', cap, cur, rfl, _, hgg, _⟩
 ·simp [Value.ownBlock] at hg
 ·simp only [Value.ownBlock, Option.some.injEq] at hg
  subst hg
  unfold Arr at ha
  rw [hgg] at ha
  injection ha with h1
  injection h1 with _ h2
  exact hne h2
theorem own_far {w : World} {b : Nat} {e : TypeId} {k : Nat} {v : Value} {n : Nat} {xs : List Value} (h : w.ownsRow b e k v n xs) {p : Addr} (hp : v.ownBlock ≠ some p.block) (u : Value) : (w.setCell p u).ownsRow b e k v n xs := by
 refine h.kept (row := some p.block) ⟨rfl, rfl, rfl, by simp [World.setCell], fun k _ hk => Below.heap_setCell w p u k (by rintro rfl; exact hk rfl)⟩ (.inr hp)
end Go.Proofs.YtoppncpmfajbcaaGreatDoor
namespace Go.Proofs.YtoppncpmfajbcaaGreatDoor
open Go.RowKit
abbrev Stp := Int × List Nat
def PRd (w : World) (A : Option Addr) (ps : List Stp) : Prop := ∀ i p, ps[i]? = some p → By p.2 ∧ ∃ ad, A = some ad ∧ w.cell? (ad.add (i * 2)) = some (.int .i64 p.1) ∧ w.cell? ⟨(ad.add (i * 2)).block, (ad.add (i * 2)).off + 1, none⟩ = some (.string (mks p.2))
theorem PRd.keep {w w' : World} {A : Option Addr} {ps : List Stp} (h : PRd w A ps) (hb : Below w.heap.size w w') : PRd w' A ps := fun i p hi => by
 obtain ⟨h1, ad, h2, h3, h4⟩ := h i p hi
 exact ⟨h1, ad, h2, (hb.cell (block_lt_of_cell h3)).trans h3, (hb.cell (block_lt_of_cell h4)).trans h4⟩
theorem PRd.below {w w' : World} {B : Nat} {A : Option Addr} {ps : List Stp} (h : PRd w A ps) (hB : w.heap.size = B) (hb : Below B w w') : PRd w' A ps := h.keep (hB ▸ hb)
def agrV (a b : Stp) : Bool := if a.2 = [] ∧ b.2 = [] then decide (a.1 = b.1) else decide (a.2 = b.2)
set_option maxHeartbeats 1000000 in
theorem cagree_any (a b : Stp) (ha : By a.2) (hb : By b.2) (w : World) :
  Calls Tryz.prog 15 #[.agg #[.int .i64 a.1, .string (mks a.2)], .agg #[.int .i64 b.1, .string (mks b.2)]] w fun e w' => e = .returned (.bool (agrV a b)) ∧ Below w.heap.size w w' := by
 obtain ⟨i, s⟩ := a
 obtain ⟨j, t⟩ := b
 have h1 := eq_mks ha hb
 have h2 := eq_mks ha By.nil
 have h3 := eq_mks hb By.nil
 obtain ⟨r, hr⟩ : ∃ r, agrV (i, s) (j, t) = r := ⟨_, rfl⟩
 have HR := Lib.hid hr
 rw [hr]
 clear hr
 go_enter Tryz.func15, Tryz.ntmps15
 go_wp2
 all_goals
  go_ret
  refine ⟨ret_b ?_, ((Below.refl _ _).alloc (Nat.le_refl _) _).alloc (by simp) _⟩
  rw [← HR.out]
  unfold agrV
  (first | (simp_all [toList_mks]; done) | (simp_all [toList_mks]; first | (rw [Bool.eq_iff_iff]; simp; done) | (intro e1 e2; simp_all)))
set_option maxHeartbeats 1000000 in
theorem ragree_any (a b : Stp) (ha : By a.2) (hb : By b.2) (w : World) :
  Calls Tryz.prog 17 #[.agg #[.int .i64 a.1, .string (mks a.2)], .agg #[.int .i64 b.1, .string (mks b.2)]] w fun e w' => e = .returned (.bool (agrV a b)) ∧ Below w.heap.size w w' := by
 obtain ⟨i, s⟩ := a
 obtain ⟨j, t⟩ := b
 have h1 := eq_mks ha hb
 have h2 := eq_mks ha By.nil
 have h3 := eq_mks hb By.nil
 obtain ⟨r, hr⟩ : ∃ r, agrV (i, s) (j, t) = r := ⟨_, rfl⟩
 have HR := Lib.hid hr
 rw [hr]
 clear hr
 go_enter Tryz.func17, Tryz.ntmps17
 go_wp2
 all_goals
  go_ret
  refine ⟨ret_b ?_, ((Below.refl _ _).alloc (Nat.le_refl _) _).alloc (by simp) _⟩
  rw [← HR.out]
  unfold agrV
  (first | (simp_all [toList_mks]; done) | (simp_all [toList_mks]; first | (rw [Bool.eq_iff_iff]; simp; done) | (intro e1 e2; simp_all)))
def movV (o : Int) : Bool := decide (o = 2) || decide (o = 3)
theorem cmoves_any (o : Int) (A : Option Addr) (n c : Nat) (G : Value) (r : Int) (w : World) :
  Calls Tryz.prog 16 #[.agg #[.int .i64 o, .slice A n c, G, .int .i64 r]] w fun e w' => e = .returned (.bool (movV o)) ∧ Below w.heap.size w w' := by
 have e1 : (o == 2) = decide (o = 2) := rfl
 have e2 : (o == 3) = decide (o = 3) := rfl
 obtain ⟨z, hz⟩ : ∃ z, movV o = z := ⟨_, rfl⟩
 have HR := Lib.hid hz
 rw [hz]
 clear hz
 go_enter Tryz.func16, Tryz.ntmps16
 go_wp2
 all_goals
  go_ret
  refine ⟨ret_b ?_, (Below.refl _ _).alloc (Nat.le_refl _) _⟩
  rw [← HR.out]
  unfold movV
  simp_all
theorem rmoves_any (o : Int) (A : Option Addr) (n c k : Nat) (G : Value) (r : Int) (w : World) (hk : k ≤ 4096) (hn : n ≤ 4096) :
  Calls Tryz.prog 18 #[.agg #[.int .i64 o, .slice A n c, G, .int .i64 r], .int .i64 (k : Int)] w fun e w' => e = .returned (.bool (decide (n = k + 1) && movV o)) ∧ Below w.heap.size w w' := by
 have e1 : (o == 2) = decide (o = 2) := rfl
 have e2 : (o == 3) = decide (o = 3) := rfl
 obtain ⟨z, hz⟩ : ∃ z, (decide (n = k + 1) && movV o) = z := ⟨_, rfl⟩
 have HR := Lib.hid hz
 rw [hz]
 clear hz
 by_cases hnk : n = k + 1
 ·have e3 : ((n : Int) == (k : Int) + 1) = true := by simp; omega
  have HN := Lib.hid hnk
  clear hnk
  go_enter Tryz.func18, Tryz.ntmps18
  go_wp2
  all_goals
   go_ret
   refine ⟨ret_b ?_, (Below.refl _ _).alloc (Nat.le_refl _) _⟩
   rw [← HR.out, decide_eq_true HN.out]
   unfold movV
   simp_all
 ·have e3 : ((n : Int) == (k : Int) + 1) = false := by simp; omega
  have HN := Lib.hid hnk
  clear hnk
  go_enter Tryz.func18, Tryz.ntmps18
  go_wp2
  all_goals
   go_ret
   refine ⟨ret_b ?_, (Below.refl _ _).alloc (Nat.le_refl _) _⟩
   rw [← HR.out, decide_eq_false HN.out]
   rfl
end Go.Proofs.YtoppncpmfajbcaaGreatDoor
namespace Go.Proofs.YtoppncpmfajbcaaGreatDoor
open Go.RowKit
structure GNode where
 kind : Int
 text : List Nat
 ord : Bool
 keys : List Int
 items : List Int
end Go.Proofs.YtoppncpmfajbcaaGreatDoor
namespace Go.Proofs.YtoppncpmfajbcaaGreatDoor
def inB (n : Nat) (x : Int) : Bool := decide (0 ≤ x) && decide (x < (n : Int))
theorem inB_iff {n : Nat} {x : Int} : inB n x = true ↔ 0 ≤ x ∧ x < n := by unfold inB; simp
def ndAt (nodes : List GNode) (i : Nat) : GNode := nodes.getD i ⟨0, [], false, [], []⟩
def refs (nd : GNode) : List Int := nd.keys ++ nd.items
def inAll (n : Nat) (nd : GNode) : Bool := nd.keys.all (inB n) && nd.items.all (inB n)
def indicesV (nodes : List GNode) (root : Int) : Bool := inB nodes.length root && nodes.all (inAll nodes.length)
def Idx (nodes : List GNode) : Prop := ∀ i, i < nodes.length → ∀ x ∈ refs (ndAt nodes i), 0 ≤ x ∧ x < (nodes.length : Int)
theorem ndAt_get {nodes : List GNode} {i : Nat} (h : i < nodes.length) : nodes[i]? = some (ndAt nodes i) := by
 unfold ndAt; rw [List.getD_eq_getElem?_getD, List.getElem?_eq_getElem h]; rfl
theorem ndAt_mem {nodes : List GNode} {i : Nat} (h : i < nodes.length) : ndAt nodes i ∈ nodes := List.mem_of_getElem? (ndAt_get h)
theorem idx_of {nodes : List GNode} {root : Int} (h : indicesV nodes root = true) : (0 ≤ root ∧ root < (nodes.length : Int)) ∧ Idx nodes := by
 unfold indicesV at h
 rw [Bool.and_eq_true, List.all_eq_true] at h
 refine ⟨inB_iff.1 h.1, fun i hi x hx => ?_⟩
 have h1 := h.2 _ (ndAt_mem hi)
 unfold inAll at h1
 rw [Bool.and_eq_true, List.all_eq_true, List.all_eq_true] at h1
 unfold refs at hx
 rcases List.mem_append.1 hx with hx | hx
 ·exact inB_iff.1 (h1.1 x hx)
 ·exact inB_iff.1 (h1.2 x hx)
/-! ### Marks -/
def runG {σ : Type} (g : Int → σ → Option σ) : List Int → σ → Option σ
 | [], m => some m
 | x :: xs, m => match g x m with | none => none | some m' => runG g xs m'
def visitV (nodes : List GNode) : Nat → Int → List Bool → Option (List Bool)
 | 0, _, _ => none
 | f + 1, at_, m =>
  if inB nodes.length at_ then
   if m.getD at_.toNat false then some m
   else match runG (visitV nodes f) (ndAt nodes at_.toNat).keys (m.set at_.toNat true) with
    | none => none
    | some m1 => runG (visitV nodes f) (ndAt nodes at_.toNat).items m1
  else none
theorem runG_append {σ : Type} (g : Int → σ → Option σ) (a b : List Int) (m : σ) : runG g (a ++ b) m = (runG g a m).bind (runG g b) := by
 induction a generalizing m with
 | nil => rfl
 | cons x a ih =>
  simp only [List.cons_append, runG]
  cases g x m with
  | none => rfl
  | some m' => exact ih m'
theorem visitV_refs (nodes : List GNode) (f : Nat) (at_ : Int) (m : List Bool) (h : inB nodes.length at_ = true) :
  visitV nodes (f + 1) at_ m = if m.getD at_.toNat false then some m else runG (visitV nodes f) (refs (ndAt nodes at_.toNat)) (m.set at_.toNat true) := by
 rw [visitV, if_pos h]
 unfold refs
 rw [runG_append]
 cases runG (visitV nodes f) (ndAt nodes at_.toNat).keys (m.set at_.toNat true) <;> rfl
inductive Reach (nodes : List GNode) (a : Nat) : Nat → Prop
 | refl : Reach nodes a a
 | step {b : Nat} {x : Int} : Reach nodes a b → b < nodes.length → x ∈ refs (ndAt nodes b) → Reach nodes a x.toNat
theorem Reach.trans {nodes : List GNode} {a b c : Nat} (h : Reach nodes a b) (k : Reach nodes b c) : Reach nodes a c := by
 induction k with
 | refl => exact h
 | step _ hl hx ih => exact ih.step hl hx
def lack (m : List Bool) : Nat := m.count false
theorem lack_set {m : List Bool} {i : Nat} (h : m.getD i false = false) (hi : i < m.length) : lack (m.set i true) + 1 = lack m := by
 unfold lack
 induction m generalizing i with
 | nil => simp at hi
 | cons b m ih =>
  cases i with
  | zero =>
   have : b = false := by simpa using h
   subst this
   simp
  | succ i =>
   have := ih (i := i) (by simpa using h) (by simpa using hi)
   simp only [List.set_cons_succ, List.count_cons]
   omega
theorem getD_set {α : Type} {m : List α} {i j : Nat} {b d : α} (hi : i < m.length) : (m.set i b).getD j d = if i = j then b else m.getD j d := by
 rw [List.getD_eq_getElem?_getD, List.getElem?_set, List.getD_eq_getElem?_getD]
 by_cases h : i = j
 ·subst h; simp [hi]
 ·simp [h]
structure VisR (nodes : List GNode) (from_ : Nat → Prop) (m m' : List Bool) : Prop where
 len : m'.length = m.length
 keep : ∀ i, m.getD i false = true → m'.getD i false = true
 new : ∀ i, m'.getD i false = true → m.getD i false = true ∨ ∃ a, from_ a ∧ Reach nodes a i
 shut : ∀ i, i < nodes.length → m'.getD i false = true → m.getD i false = true ∨ ∀ x ∈ refs (ndAt nodes i), m'.getD x.toNat false = true
 from' : ∀ a, from_ a → m'.getD a false = true
 less : lack m' ≤ lack m
theorem VisR.nil (nodes : List GNode) (m : List Bool) : VisR nodes (fun _ => False) m m :=
 ⟨rfl, fun _ h => h, fun _ h => .inl h, fun _ _ h => .inl h, fun _ h => h.elim, Nat.le_refl _⟩
theorem VisR.trans {nodes : List GNode} {A B : Nat → Prop} {m m1 m2 : List Bool} (h : VisR nodes A m m1) (k : VisR nodes B m1 m2) : VisR nodes (fun a => A a ∨ B a) m m2 where
 len := k.len.trans h.len
 keep := fun i hi => k.keep i (h.keep i hi)
 new := fun i hi => by
  rcases k.new i hi with h1 | ⟨a, ha, hr⟩
  ·rcases h.new i h1 with h2 | ⟨a, ha, hr⟩
   ·exact .inl h2
   ·exact .inr ⟨a, .inl ha, hr⟩
  ·exact .inr ⟨a, .inr ha, hr⟩
 shut := fun i hl hi => by
  rcases k.shut i hl hi with h1 | h1
  ·rcases h.shut i hl h1 with h2 | h2
   ·exact .inl h2
   ·exact .inr fun x hx => k.keep _ (h2 x hx)
  ·exact .inr h1
 from' := fun a ha => ha.elim (fun h1 => k.keep a (h.from' a h1)) (k.from' a)
 less := Nat.le_trans k.less h.less
theorem runG_vis {nodes : List GNode} {g : Int → List Bool → Option (List Bool)} {n : Nat} (hg : ∀ x m, (0 ≤ x ∧ x < (nodes.length : Int)) → m.length = nodes.length → lack m ≤ n → ∃ m', g x m = some m' ∧ VisR nodes (fun a => a = x.toNat) m m')
  (xs : List Int) (hx : ∀ x ∈ xs, 0 ≤ x ∧ x < (nodes.length : Int)) (m : List Bool) (hl : m.length = nodes.length) (hn : lack m ≤ n) : ∃ m', runG g xs m = some m' ∧ VisR nodes (fun a => ∃ x ∈ xs, a = x.toNat) m m' := by
 induction xs generalizing m with
 | nil =>
  refine ⟨m, rfl, ?_⟩
  have : (fun a => ∃ x ∈ ([] : List Int), a = x.toNat) = fun _ : Nat => False := by funext a; simp
  rw [this]
  exact VisR.nil nodes m
 | cons x xs ih =>
  obtain ⟨m1, h1, r1⟩ := hg x m (hx x (by simp)) hl hn
  obtain ⟨m2, h2, r2⟩ := ih (fun y hy => hx y (by simp [hy])) m1 (r1.len.trans hl) (Nat.le_trans r1.less hn)
  refine ⟨m2, by rw [runG, h1]; exact h2, ?_⟩
  have e : (fun a => ∃ y ∈ x :: xs, a = y.toNat) = fun a => a = x.toNat ∨ ∃ y ∈ xs, a = y.toNat := by funext a; simp
  rw [e]
  exact r1.trans r2
theorem visitV_vis {nodes : List GNode} (hI : Idx nodes) (f : Nat) : ∀ (x : Int) (m : List Bool), (0 ≤ x ∧ x < (nodes.length : Int)) → m.length = nodes.length → lack m < f → ∃ m', visitV nodes f x m = some m' ∧ VisR nodes (fun a => a = x.toNat) m m' := by
 induction f with
 | zero => intro x m _ _ h; omega
 | succ f ih =>
  intro x m hx hl hn
  rw [visitV_refs nodes f x m (inB_iff.2 hx)]
  by_cases hm : m.getD x.toNat false = true
  ·rw [if_pos hm]
   refine ⟨m, rfl, rfl, fun _ h => h, fun _ h => .inl h, fun _ _ h => .inl h, fun a h => by rw [h]; exact hm, Nat.le_refl _⟩
  ·rw [if_neg hm]
   have hm' : m.getD x.toNat false = false := by simpa using hm
   have hlt : x.toNat < m.length := by omega
   have hk := lack_set hm' hlt
   obtain ⟨m', h1, r⟩ := runG_vis (n := f - 1) (fun y m0 hy hl0 hn0 => ih y m0 hy hl0 (by omega)) (refs (ndAt nodes x.toNat)) (fun y hy => hI x.toNat (by omega) y hy) (m.set x.toNat true) (by rw [List.length_set]; exact hl) (by omega)
   refine ⟨m', h1, ?_⟩
   have hat : m'.getD x.toNat false = true := r.keep _ (by rw [getD_set hlt, if_pos rfl])
   refine ⟨by rw [r.len, List.length_set], fun i hi => r.keep i (by rw [getD_set hlt]; split <;> simp_all), fun i hi => ?_, fun i hil hi => ?_, fun a h => by rw [h]; exact hat, by have := r.less; omega⟩
   ·rcases r.new i hi with h2 | ⟨a, ⟨y, hy, ha⟩, hr⟩
    ·rw [getD_set hlt] at h2
     by_cases e : x.toNat = i
     ·exact .inr ⟨x.toNat, rfl, by rw [e]; exact .refl⟩
     ·rw [if_neg e] at h2; exact .inl h2
    ·refine .inr ⟨x.toNat, rfl, ?_⟩
     subst ha
     exact (Reach.refl.step (by omega) hy).trans hr
   ·rcases r.shut i hil hi with h2 | h2
    ·rw [getD_set hlt] at h2
     by_cases e : x.toNat = i
     ·subst e
      exact .inr fun y hy => r.from' _ ⟨y, hy, rfl⟩
     ·rw [if_neg e] at h2; exact .inl h2
    ·exact .inr h2
def Closed (nodes : List GNode) (m : List Bool) : Prop := ∀ i, i < nodes.length → m.getD i false = true → ∀ x ∈ refs (ndAt nodes i), m.getD x.toNat false = true
theorem VisR.closed {nodes : List GNode} {A : Nat → Prop} {m m' : List Bool} (h : VisR nodes A m m') (hc : Closed nodes m) : Closed nodes m' := fun i hl hi => by
 rcases h.shut i hl hi with h1 | h1
 ·exact fun x hx => h.keep _ (hc i hl h1 x hx)
 ·exact h1
theorem VisR.reach {nodes : List GNode} {A : Nat → Prop} {m m' : List Bool} (h : VisR nodes A m m') (hc : Closed nodes m) (i : Nat) : m'.getD i false = true ↔ m.getD i false = true ∨ ∃ a, A a ∧ Reach nodes a i := by
 refine ⟨h.new i, fun h1 => ?_⟩
 rcases h1 with h1 | ⟨a, ha, hr⟩
 ·exact h.keep i h1
 ·have := h.closed hc
  induction hr with
  | refl => exact h.from' a ha
  | step _ hl hx ih => exact this _ hl ih _ hx
def reachedV (nodes : List GNode) (at_ : Int) (m : List Bool) : List Bool := (visitV nodes (nodes.length + 1) at_ m).getD []
theorem lack_le (m : List Bool) : lack m ≤ m.length := List.count_le_length
theorem reachedV_ok {nodes : List GNode} (hI : Idx nodes) {at_ : Int} {m : List Bool} (hx : 0 ≤ at_ ∧ at_ < (nodes.length : Int)) (hl : m.length = nodes.length) :
  visitV nodes (nodes.length + 1) at_ m = some (reachedV nodes at_ m) ∧ VisR nodes (fun a => a = at_.toNat) m (reachedV nodes at_ m) := by
 obtain ⟨m', h, r⟩ := visitV_vis hI (nodes.length + 1) at_ m hx hl (by have := lack_le m; omega)
 unfold reachedV
 rw [h]
 exact ⟨rfl, r⟩
def noMarks (n : Nat) : List Bool := List.replicate n false
theorem noMarks_get (n i : Nat) : (noMarks n).getD i false = false := by
 unfold noMarks
 rw [List.getD_eq_getElem?_getD, List.getElem?_replicate]
 split <;> rfl
theorem noMarks_closed (nodes : List GNode) (n : Nat) : Closed nodes (noMarks n) := fun i _ h => by rw [noMarks_get] at h; cases h
/-! ### Counts -/
def bump (l : List Int) (x : Int) : List Int := l.set x.toNat (l.getD x.toNat 0 + 1)
def countsV (nodes : List GNode) (root : Int) : List Int := (nodes.flatMap refs).foldl bump (bump (List.replicate nodes.length 0) root)
theorem bump_len (l : List Int) (x : Int) : (bump l x).length = l.length := by simp [bump]
theorem bumps_len (xs : List Int) (l : List Int) : (xs.foldl bump l).length = l.length := by
 induction xs generalizing l with
 | nil => rfl
 | cons x xs ih => rw [List.foldl_cons, ih, bump_len]
def cnt (nodes : List GNode) (root : Int) (i : Nat) : Nat := (root :: nodes.flatMap refs).count (i : Int)
/-! ### The nodes of keys -/
def inKeysV (nodes : List GNode) : List Bool := (nodes.flatMap GNode.keys).foldl (fun m k => reachedV nodes k m) (noMarks nodes.length)
theorem inKeys_fold {nodes : List GNode} (hI : Idx nodes) (ks : List Int) (hk : ∀ k ∈ ks, 0 ≤ k ∧ k < (nodes.length : Int)) (m : List Bool) (hl : m.length = nodes.length) (hc : Closed nodes m) :
  (ks.foldl (fun m k => reachedV nodes k m) m).length = nodes.length ∧ ∀ i, (ks.foldl (fun m k => reachedV nodes k m) m).getD i false = true ↔ m.getD i false = true ∨ ∃ k ∈ ks, Reach nodes k.toNat i := by
 induction ks generalizing m with
 | nil => exact ⟨hl, fun i => by simp⟩
 | cons k ks ih =>
  have r := (reachedV_ok hI (hk k (by simp)) hl).2
  obtain ⟨h1, h2⟩ := ih (fun y hy => hk y (by simp [hy])) (reachedV nodes k m) (r.len.trans hl) (r.closed hc)
  refine ⟨h1, fun i => ?_⟩
  rw [List.foldl_cons, h2 i, r.reach hc i]
  constructor
  ·rintro ((h | ⟨a, rfl, h⟩) | ⟨x, hx, h⟩)
   ·exact .inl h
   ·exact .inr ⟨k, by simp, h⟩
   ·exact .inr ⟨x, by simp [hx], h⟩
  ·rintro (h | ⟨x, hx, h⟩)
   ·exact .inl (.inl h)
   ·rcases List.mem_cons.1 hx with rfl | hx
    ·exact .inl (.inr ⟨_, rfl, h⟩)
    ·exact .inr ⟨x, hx, h⟩
end Go.Proofs.YtoppncpmfajbcaaGreatDoor
namespace Go.Proofs.YtoppncpmfajbcaaGreatDoor
structure TS where
 nx : Nat
 index : List Int
 low : List Int
 inn : List Int
 sizes : List Int
 stack : List Int
 on : List Bool
def gI (l : List Int) (x : Int) : Int := l.getD x.toNat 0
def sI (l : List Int) (x v : Int) : List Int := l.set x.toNat v
def pushT (at_ : Int) (s : TS) : TS := ⟨s.nx + 1, sI s.index at_ (s.nx + 1 : Nat), sI s.low at_ (s.nx + 1 : Nat), s.inn, s.sizes, s.stack ++ [at_], s.on.set at_.toNat true⟩
def stepT (g : Int → TS → Option TS) (at_ x : Int) (s : TS) : Option TS :=
 if gI s.index x = 0 then match g x s with
  | none => none
  | some s' => some { s' with low := sI s'.low at_ (min (gI s'.low at_) (gI s'.low x)) }
 else if s.on.getD x.toNat false then some { s with low := sI s.low at_ (min (gI s.low at_) (gI s.index x)) }
 else some s
def popT (at_ : Int) : Nat → Nat → TS → Option TS
 | 0, _, _ => none
 | f + 1, k, s => match s.stack.getLast? with
  | none => none
  | some x =>
   let s' : TS := { s with stack := s.stack.dropLast, on := s.on.set x.toNat false, inn := sI s.inn x (s.sizes.length : Nat) }
   if x = at_ then some { s' with sizes := s'.sizes ++ [((k + 1 : Nat) : Int)] } else popT at_ f (k + 1) s'
def doneT (at_ : Int) (s : TS) : Option TS :=
 if gI s.low at_ = gI s.index at_ then popT at_ (s.stack.length + 1) 0 s else some s
def visitT (nodes : List GNode) : Nat → Int → TS → Option TS
 | 0, _, _ => none
 | f + 1, at_, s => match runG (stepT (visitT nodes f) at_) (ndAt nodes at_.toNat).keys (pushT at_ s) with
  | none => none
  | some s1 => match runG (stepT (visitT nodes f) at_) (ndAt nodes at_.toNat).items s1 with
   | none => none
   | some s2 => doneT at_ s2
def startT (n : Nat) : TS := ⟨0, List.replicate n 0, List.replicate n 0, List.replicate n (-1), [], [], List.replicate n false⟩
def compV (nodes : List GNode) (root : Int) : Option TS := visitT nodes (nodes.length + 1) root (startT nodes.length)
/-! ### Depth -/
def edgeD (inn : List Int) (c : Nat) (st : List Int × Bool) (x : Int) : List Int × Bool :=
 if gI inn x = (c : Int) then (st.1, false) else (st.1.set c (max (st.1.getD c 0) (gI st.1 (gI inn x))), st.2)
def nodeD (nodes : List GNode) (inn : List Int) (c : Nat) (st : List Int × Bool) (i : Nat) : List Int × Bool := (refs (ndAt nodes i)).foldl (edgeD inn c) st
def membersV (inn : List Int) (c : Nat) : List Nat := (List.range inn.length).filter fun i => decide (inn.getD i 0 = (c : Int))
def compD (nodes : List GNode) (inn sizes : List Int) (st : List Int × Bool) (c : Nat) : List Int × Bool :=
 let st' := (membersV inn c).foldl (nodeD nodes inn c) st
 (st'.1.set c (st'.1.getD c 0 + sizes.getD c 0), st'.2)
def belowV (nodes : List GNode) (inn sizes : List Int) : List Int × Bool := (List.range sizes.length).foldl (compD nodes inn sizes) (List.replicate sizes.length 0, true)
def depthV (nodes : List GNode) (root : Int) : Option (Int × Bool) := (compV nodes root).map fun s =>
 let b := belowV nodes s.inn s.sizes
 (gI b.1 (gI s.inn root) - 1, b.2)
end Go.Proofs.YtoppncpmfajbcaaGreatDoor
