/- The walk of Check of codepoint. -/
import Derived.Test.YtoppncpmfajbcaaGreatDoorMAi
import Derived.Test.YtoppncpmfajbcaaGreatDoorMAb
import Derived.Recover
import Derived.Test.YtoppncpmfajbcaaGreatDoorMAh
import Derived.Test.YtoppncpmfajbcaaGreatDoorMAf
import Derived.Lib.IndexAny
set_option linter.unusedVariables false
set_option linter.unusedSimpArgs false
set_option linter.defProp false
set_option linter.constructorNameAsVariable false
namespace Go.Proofs.YtoppncpmfajbcaaGreatDoor
open Go.RowKit
theorem decodeGo_mks (l : List Nat) (h : l ≠ []) : Lib.decodeGo (mks l) = decL l := by
 unfold Lib.decodeGo
 rw [if_neg (by rw [size_mks]; exact fun h' => h (List.eq_nil_of_length_eq_zero h'))]
 have := decode_drop l 0
 simpa using this
theorem decRune_h (l : List Nat) (h : l ≠ []) {r k : Nat} (hd : decL l = (r, k)) : Hid (∀ w, LibOK w → Calls Tryz.prog 104 #[.string (mks l)] w fun e w' => e = .returned (.tuple #[.int .i32 (r : Int), .int .i64 (k : Int)]) ∧ Below w.heap.size w w') := fun w hw => by
 have := Tryz.utf8_DecodeRuneInString (mks l) w hw.tabs
 rw [decodeGo_mks l h, hd] at this
 exact this
def ckAt (o : Option Nat) : Int := match o with | some k => (k : Int) | none => -1
def ckErr (o : Option Nat) : Int := match o with | some _ => 11 | none => 0
def CheckR (w : World) (o : Option Nat) (e : Ending) (w' : World) : Prop := e = .returned (.tuple #[.int .i64 (ckAt o), .int .i64 (ckErr o)]) ∧ Below w.heap.size w w'
theorem check_cases {f : Nat} {l : List Nat} {p r k : Nat} {v : Option Nat} (hne : l ≠ []) (hd : decL l = (r, k)) (h : checkG (f + 1) p l = v) :
  (r = 65533 ∧ k = 1 ∧ v = some p) ∨ (r = 65533 ∧ k ≠ 1 ∧ checkG f (p + k) (l.drop k) = v) ∨ (r ≠ 65533 ∧ checkG f (p + k) (l.drop k) = v) := by
 rw [checkG, if_neg hne, hd] at h
 by_cases hr : r = 65533
 ·by_cases hk : k = 1
  ·subst hr; subst hk; simp at h; exact .inl ⟨rfl, rfl, h.symm⟩
  ·rw [if_neg (by intro e; exact hk (congrArg Prod.snd e))] at h; exact .inr (.inl ⟨hr, hk, h⟩)
 ·rw [if_neg (by intro e; exact hr (congrArg Prod.fst e))] at h; exact .inr (.inr ⟨hr, h⟩)
set_option maxRecDepth 8000 in
set_option maxHeartbeats 2000000 in
theorem check_any (l : List Nat) (hlen : l.length < 4294967296) (w : World) (hw : LibOK w) : Calls Tryz.prog 82 #[.string (mks l)] w (CheckR w (checkV l)) := by
 generalize hv : checkV l = v
 have HV : Hid (checkG l.length 0 (l.drop 0) = v) := hv
 have HW := Lib.hid hw
 clear hv hw
 go_enter Tryz.func82, Tryz.ntmps82
 go_wp2
 go_loopw [] (fun wr => ∃ pos fuel, wr.heap[w.heap.size]? = some (.stringIter (mks l) pos) ∧ Below w.heap.size w wr ∧ Hid (checkG fuel pos (l.drop pos) = v) ∧ l.length ≤ pos + fuel ∧ pos ≤ l.length) (fun wr => l.length - wr.iterPos w.heap.size)
 case atStart =>
  refine ⟨0, l.length, ?_, (Below.refl _ w).alloc (Nat.le_refl _) _, HV, by omega, by omega⟩
  have := World.iter_heap w (mks l) 0
  simpa using this
 case round =>
  obtain ⟨pos, fuel, hit, hbw, hq, hfu, hpl⟩ := hrel
  have hsz : w.heap.size < wr.heap.size := (Array.getElem?_eq_some_iff.1 hit).1
  by_cases hp : pos < l.length
  ·have hne : l.drop pos ≠ [] := by intro h; have := congrArg List.length h; simp at this; omega
   have hnx0 : ∀ ty, (Instr.next (.pointer (some ⟨w.heap.size, 0, none⟩)) true ty).run Tryz.prog wr = _ := fun ty => Lib.run_next_any_at wr w.heap.size (mks l) pos ty hit (by rw [size_mks]; exact hp)
   rw [decode_drop] at hnx0
   obtain ⟨f, rfl⟩ : ∃ f, fuel = f + 1 := ⟨fuel - 1, by omega⟩
   have hd := decL_bd (l.drop pos)
   have hkl : (decL (l.drop pos)).2 ≤ (l.drop pos).length := by
    have := Lib.decodeL_le (u8s (l.drop pos)) (by intro h; exact hne (List.map_eq_nil_iff.1 h))
    rw [show (u8s (l.drop pos)).length = (l.drop pos).length by unfold u8s; rw [List.length_map]] at this
    exact this
   rw [List.length_drop] at hkl
   obtain ⟨⟨r, k⟩, hdd⟩ : ∃ x, decL (l.drop pos) = x := ⟨_, rfl⟩
   have DD := decRune_h (l.drop pos) hne hdd
   have hcases := check_cases hne hdd hq.out
   rw [hdd] at hnx0 hd hkl
   rw [List.drop_drop] at hcases
   clear hq hdd hne
   simp only at hd hkl hcases hnx0
   have hit2 := Lib.iterAt_heap wr w.heap.size (mks l) pos (pos + k) hit
   have hbw2 := Lib.below_iterAt hbw (k := w.heap.size) (by omega) (mks l) (pos + k)
   have hsz2 : w.heap.size < (wr.iterAt w.heap.size (mks l) (pos + k)).heap.size := by rw [Lib.iterAt_size]; exact hsz
   have HIT2 := Lib.hid hit2
   clear hit2 hbw
   have hok := HW.out.keep hbw2
   have hp' : (pos : Int) ≤ l.length := by omega
   rcases hcases with ⟨rfl, rfl, hq⟩ | ⟨rfl, h1, hq⟩ | ⟨hr, hq⟩
   ·subst hq
    go_wp2_with (go_at_call 104; ((with_reducible refine (DD.out _ hok).mono ?_)); rintro e w5 ⟨rfl, hb5⟩)
    go_ret2
    exact ⟨rfl, hbw2.trans (hb5.mono (by omega))⟩
   ·have h1' : ((k : Int) == 1) = false := by simp; omega
    have HQ := Lib.hid hq
    clear hq h1
    go_wp2_with (go_at_call 104; ((with_reducible refine (DD.out _ hok).mono ?_)); rintro e w5 ⟨rfl, hb5⟩)
    have hit5 := (hb5.block _ hsz2).trans HIT2.out
    go_roundw
    case rel => exact ⟨pos + k, f, hit5, hbw2.trans (hb5.mono (by omega)), HQ, by omega, by omega⟩
    case measure =>
     simp only [World.iterPos, hit5, hit]
     omega
   ·have hr' : ((r : Int) == 65533) = false := by simp; omega
    have HQ := Lib.hid hq
    clear hq hr
    go_wp2
    go_roundw
    case rel => exact ⟨pos + k, f, HIT2.out, hbw2, HQ, by omega, by omega⟩
    case measure =>
     simp only [World.iterPos, HIT2.out, hit]
     omega
  ·have hnx0 : ∀ ty, (Instr.next (.pointer (some ⟨w.heap.size, 0, none⟩)) true ty).run Tryz.prog wr = _ := fun ty => Lib.run_next_end_at wr w.heap.size (mks l) pos ty hit (by rw [size_mks]; exact hp)
   have hd : l.drop pos = [] := List.drop_eq_nil_of_le (by omega)
   have hce : checkG fuel pos [] = none := by cases fuel <;> simp [checkG]
   rw [hd, hce] at hq
   clear hd hce
   go_wp2
   go_ret2
   have h := hq.out
   subst h
   exact ⟨rfl, hbw⟩
end Go.Proofs.YtoppncpmfajbcaaGreatDoor
namespace Go.Proofs.YtoppncpmfajbcaaGreatDoor
open Go.RowKit
theorem three (p q r : Prop) : ((p ∨ q ∨ r) ∧ (p ∨ (¬ p ∧ q) ∨ (¬ p ∧ ¬ q ∧ r))) ∨ (¬ (p ∨ q ∨ r) ∧ (¬ p ∧ ¬ q ∧ ¬ r)) := by
 by_cases hp : p <;> by_cases hq : q <;> by_cases hr : r <;> simp [hp, hq, hr]
end Go.Proofs.YtoppncpmfajbcaaGreatDoor
namespace Go.Proofs.YtoppncpmfajbcaaGreatDoor
open Go.RowKit
end Go.Proofs.YtoppncpmfajbcaaGreatDoor
namespace Go.Proofs.YtoppncpmfajbcaaGreatDoor
open Go.RowKit
end Go.Proofs.YtoppncpmfajbcaaGreatDoor
namespace Go.Proofs.YtoppncpmfajbcaaGreatDoor
open Go.RowKit
section
variable {f k : Nat} {l : List Nat} {ts : List JTok} {ns : List JNote} {v : Scanned}
end
end Go.Proofs.YtoppncpmfajbcaaGreatDoor
namespace Go.Proofs.YtoppncpmfajbcaaGreatDoor
open Go.RowKit
structure JSpan where
 node : Int
 parent : Int
 entry : Int
 from_ : Int
 to_ : Int
 kf : Int
 kt : Int
 alias_ : Bool
 whole : Bool
structure PSt where
 left : List JTok
 nodes : List GNode
 spans : List JSpan
def IntsRd (w : World) (F : Nat → Prop) (A : Option Addr) (n : Nat) (xs : List Int) : Prop :=
 n = xs.length ∧ Rd w A (I64 xs) ∧ ∀ ad, A = some ad → F ad.block ∧ ∃ C fz, w.heap[ad.block]? = some (.cells C 3 fz)
def NodeRd (w : World) (F : Nat → Prop) (cs : List Value) (nd : GNode) : Prop :=
 ∃ K nk ck I ni ci, cs = [.int .i64 nd.kind, .string (mks nd.text), .bool nd.ord, .slice K nk ck, .slice I ni ci] ∧ IntsRd w F K nk nd.keys ∧ IntsRd w F I ni nd.items
def NodesRd (w : World) (F : Nat → Prop) (ncs : List Value) (nodes : List GNode) : Prop :=
 ncs.length = nodes.length * 5 ∧ ∀ i nd, nodes[i]? = some nd → NodeRd w F ((ncs.drop (i * 5)).take 5) nd
structure PK where
 en : Nat
 f : Value
 s : Value
 r : Value
 n : Value
structure PStep (w w' : World) (F F' : Nat → Prop) : Prop where
 os : w'.os = w.os
 tape : w'.tape = w.tape
 output : w'.output = w.output
 size : w.heap.size ≤ w'.heap.size
 keep : ∀ k, k < w.heap.size → ¬ F k → w'.heap[k]? = w.heap[k]?
 new : ∀ k, F' k → F k ∨ w.heap.size ≤ k
theorem PStep.trans {a b c : World} {F F1 F2 : Nat → Prop} (h : PStep a b F F1) (k : PStep b c F1 F2) : PStep a c F F2 where
 os := k.os.trans h.os
 tape := k.tape.trans h.tape
 output := k.output.trans h.output
 size := Nat.le_trans h.size k.size
 keep := fun i hi hn => (k.keep i (Nat.lt_of_lt_of_le hi h.size) (fun hf => by
  rcases h.new i hf with h1 | h1
  ·exact hn h1
  ·omega)).trans (h.keep i hi hn)
 new := fun i hi => by
  rcases k.new i hi with h1 | h1
  ·exact h.new i h1
  ·exact .inr (Nat.le_trans h.size h1)
theorem PStep.of_below {w w' : World} {F : Nat → Prop} (h : Below w.heap.size w w') : PStep w w' F F :=
 ⟨h.os, h.tape, h.output, h.size, fun k hk _ => h.block k hk, fun _ hk => .inl hk⟩
theorem PStep.below {w w' : World} {F F' : Nat → Prop} {B : Nat} (h : PStep w w' F F') (hF : ∀ g, F g → B ≤ g) (hB : B ≤ w.heap.size) : Below B w w' :=
 ⟨h.os, h.tape, h.output, h.size, fun k hk => h.keep k (by omega) (fun hf => by have := hF k hf; omega)⟩
theorem PStep.arr {w w' : World} {F F' : Nat → Prop} {g : Nat} {t : TypeId} {xs : List Value} (h : PStep w w' F F') (ha : Arr w g t xs) (hg : ¬ F g) : Arr w' g t xs := (h.keep g ha.lt hg).trans ha
theorem PStep.out {w w' : World} {F F' : Nat → Prop} {g : Nat} (h : PStep w w' F F') (hl : g < w.heap.size) (hg : ¬ F g) : ¬ F' g := fun hf => by
 rcases h.new g hf with h1 | h1
 ·exact hg h1
 ·omega
def IntsKept (w w' : World) (F : Nat → Prop) : Prop := ∀ k C fz, F k → w.heap[k]? = some (.cells C 3 fz) → w'.heap[k]? = some (.cells C 3 fz)
theorem IntsRd.keep {w w' : World} {F F' : Nat → Prop} {A : Option Addr} {n : Nat} {xs : List Int} (h : IntsRd w F A n xs) (hk : IntsKept w w' F) (hF : ∀ g, F g → F' g) : IntsRd w' F' A n xs := by
 refine ⟨h.1, ?_, fun ad e => ?_⟩
 ·intro j u hj
  obtain ⟨ad, e, hc⟩ := h.2.1 j u hj
  obtain ⟨hf, C, fz, hb⟩ := h.2.2 ad e
  refine ⟨ad, e, ?_⟩
  rw [← hc]
  exact World.cell?_of_block (by rw [blk_add, hk _ C fz hf hb, hb])
 ·obtain ⟨hf, C, fz, hb⟩ := h.2.2 ad e
  exact ⟨hF _ hf, C, fz, hk _ C fz hf hb⟩
theorem NodeRd.keep {w w' : World} {F F' : Nat → Prop} {cs : List Value} {nd : GNode} (h : NodeRd w F cs nd) (hk : IntsKept w w' F) (hF : ∀ g, F g → F' g) : NodeRd w' F' cs nd := by
 obtain ⟨K, nk, ck, I, ni, ci, rfl, h1, h2⟩ := h
 exact ⟨K, nk, ck, I, ni, ci, rfl, h1.keep hk hF, h2.keep hk hF⟩
theorem NodesRd.keep {w w' : World} {F F' : Nat → Prop} {ncs : List Value} {nodes : List GNode} (h : NodesRd w F ncs nodes) (hk : IntsKept w w' F) (hF : ∀ g, F g → F' g) : NodesRd w' F' ncs nodes :=
 ⟨h.1, fun i nd hi => (h.2 i nd hi).keep hk hF⟩
theorem NodesRd.snoc {w : World} {F : Nat → Prop} {ncs cs : List Value} {nodes : List GNode} {nd : GNode} (h : NodesRd w F ncs nodes) (hn : NodeRd w F cs nd) : NodesRd w F (ncs ++ cs) (nodes ++ [nd]) := by
 have hl : cs.length = 5 := by obtain ⟨K, nk, ck, I, ni, ci, rfl, _⟩ := hn; rfl
 refine ⟨by rw [List.length_append, List.length_append, h.1, hl]; simp; omega, fun i x hi => ?_⟩
 by_cases hlt : i < nodes.length
 ·rw [List.getElem?_append_left hlt] at hi
  have h1 := h.2 i x hi
  rw [List.drop_append_of_le_length (by rw [h.1]; omega), List.take_append_of_le_length (by rw [List.length_drop, h.1]; omega)]
  exact h1
 ·have hi2 := (List.getElem?_eq_some_iff.1 hi).1
  have : i = nodes.length := by simp at hi2; omega
  subst this
  have e : x = nd := by simpa using hi.symm
  subst e
  rw [← h.1, List.drop_left, List.take_of_length_le (by omega)]
  exact hn
theorem IntsKept.of_below {w w' : World} {F : Nat → Prop} (h : Below w.heap.size w w') : IntsKept w w' F := fun k C fz _ hb => by
 rw [h.block k (Array.getElem?_eq_some_iff.1 hb).1, hb]
theorem setCell_heap_ne (w : World) (p : Addr) (u : Value) {g : Nat} (h : g ≠ p.block) : (w.setCell p u).heap[g]? = w.heap[g]? := Below.heap_setCell w p u g h
end Go.Proofs.YtoppncpmfajbcaaGreatDoor
namespace Go.Proofs.YtoppncpmfajbcaaGreatDoor
open Go.RowKit
def pB (neg : Bool) (bs : Nat) (b : List Nat) : List Nat × Int :=
 if b.all (fun c => decide (digV c < bs)) = true then (if (lead 48 b).length ≤ 1600 then (tS (neg, hor bs digV (lead 48 b)), tE (neg, hor bs digV (lead 48 b))) else ([], 6)) else ([], 3)
def parB (s : List Nat) : Bool × List Nat := match s with | 43 :: b => (false, b) | 45 :: b => (true, b) | b => (false, b)
def parR (s : List Nat) (base : Int) : List Nat × Int := if knownB base = true then (if (parB s).2 = [] then ([], 3) else pB (parB s).1 base.toNat (parB s).2) else ([], 1)
end Go.Proofs.YtoppncpmfajbcaaGreatDoor
namespace Go.Proofs.YtoppncpmfajbcaaGreatDoor
open Go.RowKit
def isV (l : List JTok) (c : List Nat) : Bool := match l with | [] => false | t :: _ => decide (t.kind = 1 ∧ t.text = c)
def offV (en : Nat) (l : List JTok) : Nat := match l with | [] => en | t :: _ => t.from_
def hasDot (t : List Nat) : Bool := Lib.containsAny (u8s t) [46, 101, 69]
def scalarV (t : JTok) : Option GNode :=
 if t.kind = 2 then some ⟨5, t.text, false, [], []⟩
 else if t.kind = 4 then (if t.text = litNull then some ⟨0, [], false, [], []⟩ else some ⟨1, t.text, false, [], []⟩)
 else if hasDot t.text then (if (parseDV t.text).2 = 0 then some ⟨3, (parseDV t.text).1, false, [], []⟩ else none)
 else (if (parR t.text 10).2 = 0 then some ⟨2, (parR t.text 10).1, false, [], []⟩ else none)
abbrev PErr := Nat × Nat
structure PLoop where
 st : PSt
 ks : List (List Nat)
 keys : List Int
 items : List Int
def keyV (en : Nat) (d : Nat) (x : PLoop) (s : JSpan) : Except PErr (PLoop × JSpan) :=
 match x.st.left with
 | [] => .error (en, 4)
 | t :: r =>
  if t.kind ≠ 2 then .error (t.from_, 4)
  else if 32 < d + 1 then .error (t.from_, 5)
  else if 4096 ≤ x.st.nodes.length then .error (t.from_, 7)
  else if t.text ∈ x.ks then .error (t.from_, 8)
  else if isV r [58] then .ok (⟨⟨r.drop 1, x.st.nodes ++ [⟨5, t.text, false, [], []⟩], x.st.spans⟩, x.ks ++ [t.text], x.keys ++ [(x.st.nodes.length : Int)], x.items⟩, { s with kf := t.from_, kt := t.to_ })
  else .error (offV en r, 4)
def commaV (en : Nat) (x : PLoop) : Except PErr PLoop :=
 if x.items.length = 0 then .ok x
 else if isV x.st.left [44] then .ok { x with st := { x.st with left := x.st.left.drop 1 } } else .error (offV en x.st.left, 4)
mutual
def valueV (en : Nat) : Nat → PSt → JSpan → Nat → Except PErr (Int × PSt)
 | 0, _, _, _ => .error (0, 0)
 | f + 1, st, s, d =>
  match st.left with
  | [] => .error (en, 4)
  | t :: r =>
   if t.kind = 1 ∧ ¬ t.text = [91] ∧ ¬ t.text = [123] then .error (t.from_, 4)
   else if 32 < d then .error (t.from_, 5)
   else if 4096 ≤ st.nodes.length then .error (t.from_, 7)
   else if t.kind = 1 then
    match itemsV en f (decide (t.text = [123])) st.spans.length d ⟨⟨r, st.nodes ++ [⟨if t.text = [123] then 10 else 9, [], false, [], []⟩], st.spans ++ [{ s with node := st.nodes.length, from_ := t.from_, whole := true }]⟩, [], [], []⟩ with
    | .error e => .error e
    | .ok x => .ok (st.nodes.length, ⟨x.st.left.drop 1, x.st.nodes.set st.nodes.length ⟨if t.text = [123] then 10 else 9, [], false, x.keys, x.items⟩, x.st.spans.modify st.spans.length (fun p => { p with to_ := (x.st.left.head?.map (·.to_)).getD 0 })⟩)
   else match scalarV t with
    | none => .error (t.from_, 12)
    | some nd => .ok (st.nodes.length, ⟨r, st.nodes ++ [nd], st.spans ++ [{ s with node := st.nodes.length, from_ := t.from_, to_ := t.to_, whole := true }]⟩)
def itemsV (en : Nat) : Nat → Bool → Nat → Nat → PLoop → Except PErr PLoop
 | 0, _, _, _, _ => .error (0, 0)
 | f + 1, obj, k, d, x =>
  if isV x.st.left (if obj then [125] else [93]) then .ok x
  else match commaV en x with
  | .error e => .error e
  | .ok y =>
   match (if obj then keyV en d y ⟨0, k, x.items.length, 0, 0, 0, 0, false, false⟩ else .ok (y, ⟨0, k, x.items.length, 0, 0, 0, 0, false, false⟩)) with
   | .error e => .error e
   | .ok (z, s) =>
    match valueV en f z.st s (d + 1) with
    | .error e => .error e
    | .ok (v, st) => itemsV en f obj k d ⟨st, z.ks, z.keys, z.items ++ [v]⟩
end
def TokOK (t : JTok) : Prop := By t.text ∧ t.text.length ≤ 4294967200 ∧ (t.kind ≠ 1 → t.kind ≠ 2 → t.kind ≠ 4 → ∀ c ∈ t.text, c < 128) ∧ t.from_ ≤ 65536 ∧ t.to_ ≤ 65536
end Go.Proofs.YtoppncpmfajbcaaGreatDoor
namespace Go.Proofs.YtoppncpmfajbcaaGreatDoor
open Go.RowKit
theorem idxB_at {c : Nat} {l : List Nat} {n : Nat} (h : idxB c l = some n) : n < l.length ∧ l.getD n 0 = c := by
 induction l generalizing n with
 | nil => cases h
 | cons a l ih =>
  unfold idxB at h
  split at h
  ·rename_i e; cases h; exact ⟨by simp, e⟩
  ·cases h1 : idxB c l with
   | none => rw [h1] at h; cases h
   | some m => rw [h1] at h; cases h; have := ih h1; exact ⟨by simp; omega, this.2⟩
end Go.Proofs.YtoppncpmfajbcaaGreatDoor
