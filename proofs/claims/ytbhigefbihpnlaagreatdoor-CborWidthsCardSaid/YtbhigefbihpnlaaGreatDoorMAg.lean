/- The walk of Check of codepoint. -/
import Derived.Test.YtbhigefbihpnlaaGreatDoorMAf
import Derived.Test.YtbhigefbihpnlaaGreatDoorMAd
import Derived.Deep.MidRow
import Derived.Recover
set_option linter.unusedVariables false
set_option linter.unusedSimpArgs false
set_option linter.defProp false
set_option linter.constructorNameAsVariable false
namespace Go.Proofs.YtbhigefbihpnlaaGreatDoor
open Go.RowKit
theorem decodeGo_mks (l : List Nat) (h : l ≠ []) : Lib.decodeGo (mks l) = decL l := by
 unfold Lib.decodeGo
 rw [if_neg (by rw [size_mks]; exact fun h' => h (List.eq_nil_of_length_eq_zero h'))]
 have := decode_drop l 0
 simpa using this
theorem decRune_h (l : List Nat) (h : l ≠ []) {r k : Nat} (hd : decL l = (r, k)) : Hid (∀ w, LibOK w → Calls Tryz.prog 81 #[.string (mks l)] w fun e w' => e = .returned (.tuple #[.int .i32 (r : Int), .int .i64 (k : Int)]) ∧ Below w.heap.size w w') := fun w hw => by
 have := Tryz.utf8_DecodeRuneInString (mks l) w hw.tabs
 rw [decodeGo_mks l h, hd] at this
 exact this
def ckAt (o : Option Nat) : Int := match o with | some k => (k : Int) | none => -1
def ckErr (o : Option Nat) : Int := match o with | some _ => 11 | none => 0
def CheckR (w : World) (o : Option Nat) (e : Ending) (w' : World) : Prop := e = .returned (.tuple #[.int .i64 (ckAt o), .int .i64 (ckErr o)]) ∧ Below w.heap.size w w'
theorem check_cases {f : Nat} {l : List Nat} {p r k : Nat} {v : Option Nat} (hne : l ≠ []) (hd : decL l = (r, k)) (h : checkG (f + 1) p l = v) :
  (r = 65533 ∧ k = 1 ∧ v = some p) ∨ (r = 65533 ∧ k ≠ 1 ∧ checkG f (p + k) (l.drop k) = v) ∨ (r ≠ 65533 ∧ checkG f (p + k) (l.drop k) = v) := by
 rw [checkG, if_neg hne, hd] at h
 by_cases hr : r = 65533
 ·by_cases hk : k = 1
  ·subst hr; subst hk; simp at h; exact .inl ⟨rfl, rfl, h.symm⟩
  ·rw [if_neg (by intro e; exact hk (congrArg Prod.snd e))] at h; exact .inr (.inl ⟨hr, hk, h⟩)
 ·rw [if_neg (by intro e; exact hr (congrArg Prod.fst e))] at h; exact .inr (.inr ⟨hr, h⟩)
set_option maxRecDepth 8000 in
set_option maxHeartbeats 2000000 in
theorem check_any (l : List Nat) (hlen : l.length < 4294967296) (w : World) (hw : LibOK w) : Calls Tryz.prog 59 #[.string (mks l)] w (CheckR w (checkV l)) := by
 generalize hv : checkV l = v
 have HV : Hid (checkG l.length 0 (l.drop 0) = v) := hv
 have HW := Lib.hid hw
 clear hv hw
 go_enter Tryz.func59, Tryz.ntmps59
 go_wp2
 go_loopw [] (fun wr => ∃ pos fuel, wr.heap[w.heap.size]? = some (.stringIter (mks l) pos) ∧ Below w.heap.size w wr ∧ Hid (checkG fuel pos (l.drop pos) = v) ∧ l.length ≤ pos + fuel ∧ pos ≤ l.length) (fun wr => l.length - wr.iterPos w.heap.size)
 case atStart =>
  refine ⟨0, l.length, ?_, (Below.refl _ w).alloc (Nat.le_refl _) _, HV, by omega, by omega⟩
  have := World.iter_heap w (mks l) 0
  simpa using this
 case round =>
  obtain ⟨pos, fuel, hit, hbw, hq, hfu, hpl⟩ := hrel
  have hsz : w.heap.size < wr.heap.size := (Array.getElem?_eq_some_iff.1 hit).1
  by_cases hp : pos < l.length
  ·have hne : l.drop pos ≠ [] := by intro h; have := congrArg List.length h; simp at this; omega
   have hnx0 : ∀ ty, (Instr.next (.pointer (some ⟨w.heap.size, 0, none⟩)) true ty).run Tryz.prog wr = _ := fun ty => Lib.run_next_any_at wr w.heap.size (mks l) pos ty hit (by rw [size_mks]; exact hp)
   rw [decode_drop] at hnx0
   obtain ⟨f, rfl⟩ : ∃ f, fuel = f + 1 := ⟨fuel - 1, by omega⟩
   have hd := decL_bd (l.drop pos)
   have hkl : (decL (l.drop pos)).2 ≤ (l.drop pos).length := by
    have := Lib.decodeL_le (u8s (l.drop pos)) (by intro h; exact hne (List.map_eq_nil_iff.1 h))
    rw [show (u8s (l.drop pos)).length = (l.drop pos).length by unfold u8s; rw [List.length_map]] at this
    exact this
   rw [List.length_drop] at hkl
   obtain ⟨⟨r, k⟩, hdd⟩ : ∃ x, decL (l.drop pos) = x := ⟨_, rfl⟩
   have DD := decRune_h (l.drop pos) hne hdd
   have hcases := check_cases hne hdd hq.out
   rw [hdd] at hnx0 hd hkl
   rw [List.drop_drop] at hcases
   clear hq hdd hne
   simp only at hd hkl hcases hnx0
   have hit2 := Lib.iterAt_heap wr w.heap.size (mks l) pos (pos + k) hit
   have hbw2 := Lib.below_iterAt hbw (k := w.heap.size) (by omega) (mks l) (pos + k)
   have hsz2 : w.heap.size < (wr.iterAt w.heap.size (mks l) (pos + k)).heap.size := by rw [Lib.iterAt_size]; exact hsz
   have HIT2 := Lib.hid hit2
   clear hit2 hbw
   have hok := HW.out.keep hbw2
   have hp' : (pos : Int) ≤ l.length := by omega
   rcases hcases with ⟨rfl, rfl, hq⟩ | ⟨rfl, h1, hq⟩ | ⟨hr, hq⟩
   ·subst hq
    go_wp2_with (go_at_call 81; ((with_reducible refine (DD.out _ hok).mono ?_)); rintro e w5 ⟨rfl, hb5⟩)
    go_ret2
    exact ⟨rfl, hbw2.trans (hb5.mono (by omega))⟩
   ·have h1' : ((k : Int) == 1) = false := by simp; omega
    have HQ := Lib.hid hq
    clear hq h1
    go_wp2_with (go_at_call 81; ((with_reducible refine (DD.out _ hok).mono ?_)); rintro e w5 ⟨rfl, hb5⟩)
    have hit5 := (hb5.block _ hsz2).trans HIT2.out
    go_roundw
    case rel => exact ⟨pos + k, f, hit5, hbw2.trans (hb5.mono (by omega)), HQ, by omega, by omega⟩
    case measure =>
     simp only [World.iterPos, hit5, hit]
     omega
   ·have hr' : ((r : Int) == 65533) = false := by simp; omega
    have HQ := Lib.hid hq
    clear hq hr
    go_wp2
    go_roundw
    case rel => exact ⟨pos + k, f, HIT2.out, hbw2, HQ, by omega, by omega⟩
    case measure =>
     simp only [World.iterPos, HIT2.out, hit]
     omega
  ·have hnx0 : ∀ ty, (Instr.next (.pointer (some ⟨w.heap.size, 0, none⟩)) true ty).run Tryz.prog wr = _ := fun ty => Lib.run_next_end_at wr w.heap.size (mks l) pos ty hit (by rw [size_mks]; exact hp)
   have hd : l.drop pos = [] := List.drop_eq_nil_of_le (by omega)
   have hce : checkG fuel pos [] = none := by cases fuel <;> simp [checkG]
   rw [hd, hce] at hq
   clear hd hce
   go_wp2
   go_ret2
   have h := hq.out
   subst h
   exact ⟨rfl, hbw⟩
end Go.Proofs.YtbhigefbihpnlaaGreatDoor
namespace Go.Proofs.YtbhigefbihpnlaaGreatDoor
open Go.RowKit
theorem three (p q r : Prop) : ((p ∨ q ∨ r) ∧ (p ∨ (¬ p ∧ q) ∨ (¬ p ∧ ¬ q ∧ r))) ∨ (¬ (p ∨ q ∨ r) ∧ (¬ p ∧ ¬ q ∧ ¬ r)) := by
 by_cases hp : p <;> by_cases hq : q <;> by_cases hr : r <;> simp [hp, hq, hr]
end Go.Proofs.YtbhigefbihpnlaaGreatDoor
namespace Go.Proofs.YtbhigefbihpnlaaGreatDoor
open Go.RowKit
end Go.Proofs.YtbhigefbihpnlaaGreatDoor
namespace Go.Proofs.YtbhigefbihpnlaaGreatDoor
open Go.RowKit
theorem cells_new (w : World) (t : TypeId) (us : List Value) : ∀ j u, us[j]? = some u → (w.alloc (.cells us.toArray t)).cell? ((⟨w.heap.size, 0, none⟩ : Addr).add j) = some u := by
 intro j u h
 obtain ⟨ad, e, hc⟩ := (Arr.new w t us).rd j u h
 obtain rfl := Option.some.inj e
 exact hc
section
variable {P : Program} {w : World} {ops : Array Oper} {rest : List Oper} {o : Oper} {a : Act} {Q : Exit → Act → World → Prop}
theorem wpList_apS (hg : o.guard = none) (s x : Operand) (t : TypeId) (ho : o.op = .call { callee := .builtin .append, args := #[s, x], argTypes := #[t, t] }) (base : Nat) (e : TypeId) (z : Value) (k bytes : Nat)
  (ht : P.underlying t = some (.slice e)) (h2 : (P.info? e).map (fun i => (i.zero, i.size, i.bytes)) = some (some z, k, bytes)) (hz : z.cells.size = k) (hk : 0 < k)
  (v : Value) (n : Nat) (xs : List Value) (hs : a.eval s = v) (hown : w.ownsRow base e k v n xs) (ad : Addr) (c : Nat) (us : List Value) (hus : us.length = k) (hx : a.eval x = .slice (some ad) 1 c)
  (hc : ∀ j u, us[j]? = some u → w.cell? (ad.add j) = some u) (h1 : us.all (·.oneCell') = true) (hm : n + 1 ≤ maxLen) (hb : (n + 1) * bytes ≤ 140737488355328) (hbase : base ≤ w.heap.size)
  (hK : ∀ v' w', w'.ownsRow base e k v' (n + 1) (xs ++ us) → w.grownBy w' v.ownBlock → (v'.ownBlock = v.ownBlock ∨ v'.ownBlock = some w.heap.size) → wpList P ops Q rest (a.put o.dst v') w') : wpList P ops Q (o :: rest) a w := by
 obtain ⟨i, hi, hz1, hz2, hz3⟩ := info_parts h2
 exact wpList_append_own_at w hg s x t ho base e i z k bytes ht hi hz1 hz2 hz3 hz hk v n xs hs hown ad 1 c us hx (by omega) hc (fun u hu => (List.all_eq_true.1 h1) u hu) hm hb hbase (fun v' w' h3 h4 _ h5 => hK v' w' h3 h4 h5)
end
section
variable {P : Program} {w : World} {ops : Array Oper} {o : Oper} {a : Act} {K : Act → World → Prop} {Q : Exit → Act → World → Prop} {E : Prop}
theorem step_apS (hg : o.guard = none) (s x : Operand) (t : TypeId) (ho : o.op = .call { callee := .builtin .append, args := #[s, x], argTypes := #[t, t] }) (base : Nat) (e : TypeId) (z : Value) (k bytes : Nat)
  (ht : P.underlying t = some (.slice e)) (h2 : (P.info? e).map (fun i => (i.zero, i.size, i.bytes)) = some (some z, k, bytes)) (hz : z.cells.size = k) (hk : 0 < k)
  (v : Value) (n : Nat) (xs : List Value) (hs : a.eval s = v) (hown : w.ownsRow base e k v n xs) (ad : Addr) (c : Nat) (us : List Value) (hus : us.length = k) (hx : a.eval x = .slice (some ad) 1 c)
  (hc : ∀ j u, us[j]? = some u → w.cell? (ad.add j) = some u) (h1 : us.all (·.oneCell') = true) (hm : n + 1 ≤ maxLen) (hb : (n + 1) * bytes ≤ 140737488355328) (hbase : base ≤ w.heap.size)
  (hK : ∀ v' w', w'.ownsRow base e k v' (n + 1) (xs ++ us) → w.grownBy w' v.ownBlock → (v'.ownBlock = v.ownBlock ∨ v'.ownBlock = some w.heap.size) → K (a.put o.dst v') w') :
  if Region.wanted o (yielded ops a.tmps) = true then Oper.wp P o a w K Q else E := by
 have hw : Region.wanted o (yielded ops a.tmps) = true := by simp [Region.wanted, hg]
 rw [if_pos hw]
 obtain ⟨i, hi, hz1, hz2, hz3⟩ := info_parts h2
 obtain ⟨v', w', hr, h3, h4, _, h5⟩ := run_append_own_at (P := P) w base t o.type e i z k bytes ht hi hz1 hz2 hz3 hz hk v n xs hown ad 1 c us (by omega) hc (fun u hu => (List.all_eq_true.1 h1) u hu) hm hb hbase
 unfold Oper.wp execOp
 simp only [ho, resolve, invoke, builtin, Sem.run_bind, Sem.run_pure, Result.andThen_ok, List.map_toArray, List.map_cons, List.map_nil, hs, hx, hr]
 exact hK _ _ h3 h4 h5
end
theorem own_ne {w : World} {b b' : Nat} {e e' : TypeId} {k k' : Nat} {v v' : Value} {n n' : Nat} {xs xs' : List Value} (h : w.ownsRow b e k v n xs) (h' : w.ownsRow b' e' k' v' n' xs') (hne : e ≠ e') :
  v.ownBlock = none ∨ v.ownBlock ≠ v'.ownBlock := by
 rcases h.2 with ⟨rfl, _⟩ | ⟨g, cap, cur, rfl, _, hg, _⟩
 ·exact .inl rfl
 ·rcases h'.2 with ⟨rfl, _⟩ | ⟨g', cap', cur', rfl, _, hg', _⟩
  ·exact .inr (by simp [Value.ownBlock])
  ·refine .inr ?_
   simp only [Value.ownBlock, ne_eq, Option.some.injEq]
   rintro rfl
   rw [hg] at hg'
   injection hg' with h1
   injection h1 with _ h2
   exact hne h2
theorem own_kind {w : World} {b : Nat} {e : TypeId} {k : Nat} {v : Value} {n : Nat} {xs : List Value} (h : w.ownsRow b e k v n xs) {g : Nat} (hg : v.ownBlock = some g) : ∃ C fz, w.heap[g]? = some (.cells C e fz) := by
 rcases h.2 with ⟨rfl, _⟩ | ⟨g', cap, cur, rfl, _, hgg, _⟩
 ·simp [Value.ownBlock] at hg
 ·simp only [Value.ownBlock, Option.some.injEq] at hg
  subst hg
  exact ⟨cur, _, hgg⟩
theorem cells_kind {w : World} {g : Nat} {C C' : Array Value} {t t' : TypeId} {fz fz' : Nat × Nat} (h : w.heap[g]? = some (.cells C t fz)) (h' : w.heap[g]? = some (.cells C' t' fz')) : t = t' := by
 rw [h] at h'
 injection h' with e1
 injection e1
theorem own_slice {w : World} {b : Nat} {e : TypeId} {k : Nat} {v : Value} {n : Nat} {xs : List Value} (h : w.ownsRow b e k v n xs) : ∃ A c, v = .slice A n c ∧ n ≤ c ∧ c ≤ maxLen := by
 rcases h.2 with ⟨rfl, rfl⟩ | ⟨g, cap, cur, rfl, _, _, h1, h2, _⟩
 ·exact ⟨none, 0, rfl, Nat.le_refl _, by decide⟩
 ·exact ⟨_, cap, rfl, h1, h2⟩
theorem own_same {w w' : World} {b : Nat} {e : TypeId} {k : Nat} {v : Value} {n : Nat} {xs : List Value} (h : w.ownsRow b e k v n xs) (hs : ∀ g, v.ownBlock = some g → w'.heap[g]? = w.heap[g]?) : w'.ownsRow b e k v n xs := by
 refine ⟨h.1, ?_⟩
 rcases h.2 with hn | ⟨g, cap, cur, rfl, hb, hg, rest⟩
 ·exact .inl hn
 ·exact .inr ⟨g, cap, cur, rfl, hb, by rw [hs g rfl]; exact hg, rest⟩
theorem own_below {w w' : World} {b : Nat} {e : TypeId} {k : Nat} {v : Value} {n : Nat} {xs : List Value} (h : w.ownsRow b e k v n xs) (hb : Below w.heap.size w w') : w'.ownsRow b e k v n xs := by
 refine h.kept (row := none) ⟨hb.os, hb.tape, hb.output, hb.size, fun k hk _ => hb.block k hk⟩ ?_
 cases v.ownBlock with
 | none => exact .inl rfl
 | some g => exact .inr (by simp)
theorem own_arr {w : World} {b : Nat} {e : TypeId} {k : Nat} {v : Value} {n : Nat} {xs : List Value} {g : Nat} {t : TypeId} {us : List Value} (h : w.ownsRow b e k v n xs) (ha : Arr w g t us) (hne : e ≠ t) : v.ownBlock ≠ some g := by
 intro hg
 rcases h.2 with ⟨rfl, _⟩ | ⟨g', cap, cur, rfl, _, hgg, _⟩
 ·simp [Value.ownBlock] at hg
 ·simp only [Value.ownBlock, Option.some.injEq] at hg
  subst hg
  unfold Arr at ha
  rw [hgg] at ha
  injection ha with h1
  injection h1 with _ h2
  exact hne h2
theorem own_far {w : World} {b : Nat} {e : TypeId} {k : Nat} {v : Value} {n : Nat} {xs : List Value} (h : w.ownsRow b e k v n xs) {p : Addr} (hp : v.ownBlock ≠ some p.block) (u : Value) : (w.setCell p u).ownsRow b e k v n xs := by
 refine h.kept (row := some p.block) ⟨rfl, rfl, rfl, by simp [World.setCell], fun k _ hk => Below.heap_setCell w p u k (by rintro rfl; exact hk rfl)⟩ (.inr hp)
end Go.Proofs.YtbhigefbihpnlaaGreatDoor
namespace Go.Proofs.YtbhigefbihpnlaaGreatDoor
open Go.RowKit
end Go.Proofs.YtbhigefbihpnlaaGreatDoor
namespace Go.Proofs.YtbhigefbihpnlaaGreatDoor
open Go.RowKit
section
variable {f k : Nat} {l : List Nat} {ts : List JTok} {ns : List JNote} {v : Scanned}
end
end Go.Proofs.YtbhigefbihpnlaaGreatDoor
namespace Go.Proofs.YtbhigefbihpnlaaGreatDoor
open Go.RowKit
structure GNode where
 kind : Int
 text : List Nat
 ord : Bool
 keys : List Int
 items : List Int
end Go.Proofs.YtbhigefbihpnlaaGreatDoor
namespace Go.Proofs.YtbhigefbihpnlaaGreatDoor
open Go.RowKit
structure JSpan where
 node : Int
 parent : Int
 entry : Int
 from_ : Int
 to_ : Int
 kf : Int
 kt : Int
 alias_ : Bool
 whole : Bool
structure PSt where
 left : List JTok
 nodes : List GNode
 spans : List JSpan
def spanC (s : JSpan) : List Value := [.int .i64 s.node, .int .i64 s.parent, .int .i64 s.entry, .int .i64 s.from_, .int .i64 s.to_, .int .i64 s.kf, .int .i64 s.kt, .bool s.alias_, .bool s.whole]
def spansC (l : List JSpan) : List Value := l.flatMap spanC
theorem spansC_snoc (l : List JSpan) (x : JSpan) : spansC (l ++ [x]) = spansC l ++ spanC x := by simp [spansC]
def IntsRd (w : World) (F : Nat → Prop) (A : Option Addr) (n : Nat) (xs : List Int) : Prop :=
 n = xs.length ∧ Rd w A (I64 xs) ∧ ∀ ad, A = some ad → F ad.block ∧ ∃ C fz, w.heap[ad.block]? = some (.cells C 3 fz)
def NodeRd (w : World) (F : Nat → Prop) (cs : List Value) (nd : GNode) : Prop :=
 ∃ K nk ck I ni ci, cs = [.int .i64 nd.kind, .string (mks nd.text), .bool nd.ord, .slice K nk ck, .slice I ni ci] ∧ IntsRd w F K nk nd.keys ∧ IntsRd w F I ni nd.items
def NodesRd (w : World) (F : Nat → Prop) (ncs : List Value) (nodes : List GNode) : Prop :=
 ncs.length = nodes.length * 5 ∧ ∀ i nd, nodes[i]? = some nd → NodeRd w F ((ncs.drop (i * 5)).take 5) nd
structure PK where
 en : Nat
 f : Value
 s : Value
 r : Value
 n : Value
structure PStep (w w' : World) (F F' : Nat → Prop) : Prop where
 os : w'.os = w.os
 tape : w'.tape = w.tape
 output : w'.output = w.output
 size : w.heap.size ≤ w'.heap.size
 keep : ∀ k, k < w.heap.size → ¬ F k → w'.heap[k]? = w.heap[k]?
 new : ∀ k, F' k → F k ∨ w.heap.size ≤ k
theorem PStep.trans {a b c : World} {F F1 F2 : Nat → Prop} (h : PStep a b F F1) (k : PStep b c F1 F2) : PStep a c F F2 where
 os := k.os.trans h.os
 tape := k.tape.trans h.tape
 output := k.output.trans h.output
 size := Nat.le_trans h.size k.size
 keep := fun i hi hn => (k.keep i (Nat.lt_of_lt_of_le hi h.size) (fun hf => by
  rcases h.new i hf with h1 | h1
  ·exact hn h1
  ·omega)).trans (h.keep i hi hn)
 new := fun i hi => by
  rcases k.new i hi with h1 | h1
  ·exact h.new i h1
  ·exact .inr (Nat.le_trans h.size h1)
theorem PStep.of_below {w w' : World} {F : Nat → Prop} (h : Below w.heap.size w w') : PStep w w' F F :=
 ⟨h.os, h.tape, h.output, h.size, fun k hk _ => h.block k hk, fun _ hk => .inl hk⟩
theorem PStep.below {w w' : World} {F F' : Nat → Prop} {B : Nat} (h : PStep w w' F F') (hF : ∀ g, F g → B ≤ g) (hB : B ≤ w.heap.size) : Below B w w' :=
 ⟨h.os, h.tape, h.output, h.size, fun k hk => h.keep k (by omega) (fun hf => by have := hF k hf; omega)⟩
theorem PStep.arr {w w' : World} {F F' : Nat → Prop} {g : Nat} {t : TypeId} {xs : List Value} (h : PStep w w' F F') (ha : Arr w g t xs) (hg : ¬ F g) : Arr w' g t xs := (h.keep g ha.lt hg).trans ha
theorem PStep.out {w w' : World} {F F' : Nat → Prop} {g : Nat} (h : PStep w w' F F') (hl : g < w.heap.size) (hg : ¬ F g) : ¬ F' g := fun hf => by
 rcases h.new g hf with h1 | h1
 ·exact hg h1
 ·omega
def IntsKept (w w' : World) (F : Nat → Prop) : Prop := ∀ k C fz, F k → w.heap[k]? = some (.cells C 3 fz) → w'.heap[k]? = some (.cells C 3 fz)
theorem IntsRd.keep {w w' : World} {F F' : Nat → Prop} {A : Option Addr} {n : Nat} {xs : List Int} (h : IntsRd w F A n xs) (hk : IntsKept w w' F) (hF : ∀ g, F g → F' g) : IntsRd w' F' A n xs := by
 refine ⟨h.1, ?_, fun ad e => ?_⟩
 ·intro j u hj
  obtain ⟨ad, e, hc⟩ := h.2.1 j u hj
  obtain ⟨hf, C, fz, hb⟩ := h.2.2 ad e
  refine ⟨ad, e, ?_⟩
  rw [← hc]
  exact World.cell?_of_block (by rw [blk_add, hk _ C fz hf hb, hb])
 ·obtain ⟨hf, C, fz, hb⟩ := h.2.2 ad e
  exact ⟨hF _ hf, C, fz, hk _ C fz hf hb⟩
theorem NodeRd.keep {w w' : World} {F F' : Nat → Prop} {cs : List Value} {nd : GNode} (h : NodeRd w F cs nd) (hk : IntsKept w w' F) (hF : ∀ g, F g → F' g) : NodeRd w' F' cs nd := by
 obtain ⟨K, nk, ck, I, ni, ci, rfl, h1, h2⟩ := h
 exact ⟨K, nk, ck, I, ni, ci, rfl, h1.keep hk hF, h2.keep hk hF⟩
theorem NodesRd.keep {w w' : World} {F F' : Nat → Prop} {ncs : List Value} {nodes : List GNode} (h : NodesRd w F ncs nodes) (hk : IntsKept w w' F) (hF : ∀ g, F g → F' g) : NodesRd w' F' ncs nodes :=
 ⟨h.1, fun i nd hi => (h.2 i nd hi).keep hk hF⟩
theorem NodesRd.snoc {w : World} {F : Nat → Prop} {ncs cs : List Value} {nodes : List GNode} {nd : GNode} (h : NodesRd w F ncs nodes) (hn : NodeRd w F cs nd) : NodesRd w F (ncs ++ cs) (nodes ++ [nd]) := by
 have hl : cs.length = 5 := by obtain ⟨K, nk, ck, I, ni, ci, rfl, _⟩ := hn; rfl
 refine ⟨by rw [List.length_append, List.length_append, h.1, hl]; simp; omega, fun i x hi => ?_⟩
 by_cases hlt : i < nodes.length
 ·rw [List.getElem?_append_left hlt] at hi
  have h1 := h.2 i x hi
  rw [List.drop_append_of_le_length (by rw [h.1]; omega), List.take_append_of_le_length (by rw [List.length_drop, h.1]; omega)]
  exact h1
 ·have hi2 := (List.getElem?_eq_some_iff.1 hi).1
  have : i = nodes.length := by simp at hi2; omega
  subst this
  have e : x = nd := by simpa using hi.symm
  subst e
  rw [← h.1, List.drop_left, List.take_of_length_le (by omega)]
  exact hn
theorem IntsKept.of_below {w w' : World} {F : Nat → Prop} (h : Below w.heap.size w w') : IntsKept w w' F := fun k C fz _ hb => by
 rw [h.block k (Array.getElem?_eq_some_iff.1 hb).1, hb]
theorem setCell_heap_ne (w : World) (p : Addr) (u : Value) {g : Nat} (h : g ≠ p.block) : (w.setCell p u).heap[g]? = w.heap[g]? := Below.heap_setCell w p u g h
end Go.Proofs.YtbhigefbihpnlaaGreatDoor
namespace Go.Proofs.YtbhigefbihpnlaaGreatDoor
def inB (n : Nat) (x : Int) : Bool := decide (0 ≤ x) && decide (x < (n : Int))
theorem inB_iff {n : Nat} {x : Int} : inB n x = true ↔ 0 ≤ x ∧ x < n := by unfold inB; simp
def ndAt (nodes : List GNode) (i : Nat) : GNode := nodes.getD i ⟨0, [], false, [], []⟩
def refs (nd : GNode) : List Int := nd.keys ++ nd.items
def inAll (n : Nat) (nd : GNode) : Bool := nd.keys.all (inB n) && nd.items.all (inB n)
def indicesV (nodes : List GNode) (root : Int) : Bool := inB nodes.length root && nodes.all (inAll nodes.length)
def Idx (nodes : List GNode) : Prop := ∀ i, i < nodes.length → ∀ x ∈ refs (ndAt nodes i), 0 ≤ x ∧ x < (nodes.length : Int)
theorem ndAt_get {nodes : List GNode} {i : Nat} (h : i < nodes.length) : nodes[i]? = some (ndAt nodes i) := by
 unfold ndAt; rw [List.getD_eq_getElem?_getD, List.getElem?_eq_getElem h]; rfl
theorem ndAt_mem {nodes : List GNode} {i : Nat} (h : i < nodes.length) : ndAt nodes i ∈ nodes := List.mem_of_getElem? (ndAt_get h)
theorem idx_of {nodes : List GNode} {root : Int} (h : indicesV nodes root = true) : (0 ≤ root ∧ root < (nodes.length : Int)) ∧ Idx nodes := by
 unfold indicesV at h
 rw [Bool.and_eq_true, List.all_eq_true] at h
 refine ⟨inB_iff.1 h.1, fun i hi x hx => ?_⟩
 have h1 := h.2 _ (ndAt_mem hi)
 unfold inAll at h1
 rw [Bool.and_eq_true, List.all_eq_true, List.all_eq_true] at h1
 unfold refs at hx
 rcases List.mem_append.1 hx with hx | hx
 ·exact inB_iff.1 (h1.1 x hx)
 ·exact inB_iff.1 (h1.2 x hx)
/-! ### Marks -/
def runG {σ : Type} (g : Int → σ → Option σ) : List Int → σ → Option σ
 | [], m => some m
 | x :: xs, m => match g x m with | none => none | some m' => runG g xs m'
def visitV (nodes : List GNode) : Nat → Int → List Bool → Option (List Bool)
 | 0, _, _ => none
 | f + 1, at_, m =>
  if inB nodes.length at_ then
   if m.getD at_.toNat false then some m
   else match runG (visitV nodes f) (ndAt nodes at_.toNat).keys (m.set at_.toNat true) with
    | none => none
    | some m1 => runG (visitV nodes f) (ndAt nodes at_.toNat).items m1
  else none
theorem runG_append {σ : Type} (g : Int → σ → Option σ) (a b : List Int) (m : σ) : runG g (a ++ b) m = (runG g a m).bind (runG g b) := by
 induction a generalizing m with
 | nil => rfl
 | cons x a ih =>
  simp only [List.cons_append, runG]
  cases g x m with
  | none => rfl
  | some m' => exact ih m'
theorem visitV_refs (nodes : List GNode) (f : Nat) (at_ : Int) (m : List Bool) (h : inB nodes.length at_ = true) :
  visitV nodes (f + 1) at_ m = if m.getD at_.toNat false then some m else runG (visitV nodes f) (refs (ndAt nodes at_.toNat)) (m.set at_.toNat true) := by
 rw [visitV, if_pos h]
 unfold refs
 rw [runG_append]
 cases runG (visitV nodes f) (ndAt nodes at_.toNat).keys (m.set at_.toNat true) <;> rfl
inductive Reach (nodes : List GNode) (a : Nat) : Nat → Prop
 | refl : Reach nodes a a
 | step {b : Nat} {x : Int} : Reach nodes a b → b < nodes.length → x ∈ refs (ndAt nodes b) → Reach nodes a x.toNat
theorem Reach.trans {nodes : List GNode} {a b c : Nat} (h : Reach nodes a b) (k : Reach nodes b c) : Reach nodes a c := by
 induction k with
 | refl => exact h
 | step _ hl hx ih => exact ih.step hl hx
def lack (m : List Bool) : Nat := m.count false
theorem lack_set {m : List Bool} {i : Nat} (h : m.getD i false = false) (hi : i < m.length) : lack (m.set i true) + 1 = lack m := by
 unfold lack
 induction m generalizing i with
 | nil => simp at hi
 | cons b m ih =>
  cases i with
  | zero =>
   have : b = false := by simpa using h
   subst this
   simp
  | succ i =>
   have := ih (i := i) (by simpa using h) (by simpa using hi)
   simp only [List.set_cons_succ, List.count_cons]
   omega
theorem getD_set {α : Type} {m : List α} {i j : Nat} {b d : α} (hi : i < m.length) : (m.set i b).getD j d = if i = j then b else m.getD j d := by
 rw [List.getD_eq_getElem?_getD, List.getElem?_set, List.getD_eq_getElem?_getD]
 by_cases h : i = j
 ·subst h; simp [hi]
 ·simp [h]
structure VisR (nodes : List GNode) (from_ : Nat → Prop) (m m' : List Bool) : Prop where
 len : m'.length = m.length
 keep : ∀ i, m.getD i false = true → m'.getD i false = true
 new : ∀ i, m'.getD i false = true → m.getD i false = true ∨ ∃ a, from_ a ∧ Reach nodes a i
 shut : ∀ i, i < nodes.length → m'.getD i false = true → m.getD i false = true ∨ ∀ x ∈ refs (ndAt nodes i), m'.getD x.toNat false = true
 from' : ∀ a, from_ a → m'.getD a false = true
 less : lack m' ≤ lack m
theorem VisR.nil (nodes : List GNode) (m : List Bool) : VisR nodes (fun _ => False) m m :=
 ⟨rfl, fun _ h => h, fun _ h => .inl h, fun _ _ h => .inl h, fun _ h => h.elim, Nat.le_refl _⟩
theorem VisR.trans {nodes : List GNode} {A B : Nat → Prop} {m m1 m2 : List Bool} (h : VisR nodes A m m1) (k : VisR nodes B m1 m2) : VisR nodes (fun a => A a ∨ B a) m m2 where
 len := k.len.trans h.len
 keep := fun i hi => k.keep i (h.keep i hi)
 new := fun i hi => by
  rcases k.new i hi with h1 | ⟨a, ha, hr⟩
  ·rcases h.new i h1 with h2 | ⟨a, ha, hr⟩
   ·exact .inl h2
   ·exact .inr ⟨a, .inl ha, hr⟩
  ·exact .inr ⟨a, .inr ha, hr⟩
 shut := fun i hl hi => by
  rcases k.shut i hl hi with h1 | h1
  ·rcases h.shut i hl h1 with h2 | h2
   ·exact .inl h2
   ·exact .inr fun x hx => k.keep _ (h2 x hx)
  ·exact .inr h1
 from' := fun a ha => ha.elim (fun h1 => k.keep a (h.from' a h1)) (k.from' a)
 less := Nat.le_trans k.less h.less
theorem runG_vis {nodes : List GNode} {g : Int → List Bool → Option (List Bool)} {n : Nat} (hg : ∀ x m, (0 ≤ x ∧ x < (nodes.length : Int)) → m.length = nodes.length → lack m ≤ n → ∃ m', g x m = some m' ∧ VisR nodes (fun a => a = x.toNat) m m')
  (xs : List Int) (hx : ∀ x ∈ xs, 0 ≤ x ∧ x < (nodes.length : Int)) (m : List Bool) (hl : m.length = nodes.length) (hn : lack m ≤ n) : ∃ m', runG g xs m = some m' ∧ VisR nodes (fun a => ∃ x ∈ xs, a = x.toNat) m m' := by
 induction xs generalizing m with
 | nil =>
  refine ⟨m, rfl, ?_⟩
  have : (fun a => ∃ x ∈ ([] : List Int), a = x.toNat) = fun _ : Nat => False := by funext a; simp
  rw [this]
  exact VisR.nil nodes m
 | cons x xs ih =>
  obtain ⟨m1, h1, r1⟩ := hg x m (hx x (by simp)) hl hn
  obtain ⟨m2, h2, r2⟩ := ih (fun y hy => hx y (by simp [hy])) m1 (r1.len.trans hl) (Nat.le_trans r1.less hn)
  refine ⟨m2, by rw [runG, h1]; exact h2, ?_⟩
  have e : (fun a => ∃ y ∈ x :: xs, a = y.toNat) = fun a => a = x.toNat ∨ ∃ y ∈ xs, a = y.toNat := by funext a; simp
  rw [e]
  exact r1.trans r2
theorem visitV_vis {nodes : List GNode} (hI : Idx nodes) (f : Nat) : ∀ (x : Int) (m : List Bool), (0 ≤ x ∧ x < (nodes.length : Int)) → m.length = nodes.length → lack m < f → ∃ m', visitV nodes f x m = some m' ∧ VisR nodes (fun a => a = x.toNat) m m' := by
 induction f with
 | zero => intro x m _ _ h; omega
 | succ f ih =>
  intro x m hx hl hn
  rw [visitV_refs nodes f x m (inB_iff.2 hx)]
  by_cases hm : m.getD x.toNat false = true
  ·rw [if_pos hm]
   refine ⟨m, rfl, rfl, fun _ h => h, fun _ h => .inl h, fun _ _ h => .inl h, fun a h => by rw [h]; exact hm, Nat.le_refl _⟩
  ·rw [if_neg hm]
   have hm' : m.getD x.toNat false = false := by simpa using hm
   have hlt : x.toNat < m.length := by omega
   have hk := lack_set hm' hlt
   obtain ⟨m', h1, r⟩ := runG_vis (n := f - 1) (fun y m0 hy hl0 hn0 => ih y m0 hy hl0 (by omega)) (refs (ndAt nodes x.toNat)) (fun y hy => hI x.toNat (by omega) y hy) (m.set x.toNat true) (by rw [List.length_set]; exact hl) (by omega)
   refine ⟨m', h1, ?_⟩
   have hat : m'.getD x.toNat false = true := r.keep _ (by rw [getD_set hlt, if_pos rfl])
   refine ⟨by rw [r.len, List.length_set], fun i hi => r.keep i (by rw [getD_set hlt]; split <;> simp_all), fun i hi => ?_, fun i hil hi => ?_, fun a h => by rw [h]; exact hat, by have := r.less; omega⟩
   ·rcases r.new i hi with h2 | ⟨a, ⟨y, hy, ha⟩, hr⟩
    ·rw [getD_set hlt] at h2
     by_cases e : x.toNat = i
     ·exact .inr ⟨x.toNat, rfl, by rw [e]; exact .refl⟩
     ·rw [if_neg e] at h2; exact .inl h2
    ·refine .inr ⟨x.toNat, rfl, ?_⟩
     subst ha
     exact (Reach.refl.step (by omega) hy).trans hr
   ·rcases r.shut i hil hi with h2 | h2
    ·rw [getD_set hlt] at h2
     by_cases e : x.toNat = i
     ·subst e
      exact .inr fun y hy => r.from' _ ⟨y, hy, rfl⟩
     ·rw [if_neg e] at h2; exact .inl h2
    ·exact .inr h2
def Closed (nodes : List GNode) (m : List Bool) : Prop := ∀ i, i < nodes.length → m.getD i false = true → ∀ x ∈ refs (ndAt nodes i), m.getD x.toNat false = true
theorem VisR.closed {nodes : List GNode} {A : Nat → Prop} {m m' : List Bool} (h : VisR nodes A m m') (hc : Closed nodes m) : Closed nodes m' := fun i hl hi => by
 rcases h.shut i hl hi with h1 | h1
 ·exact fun x hx => h.keep _ (hc i hl h1 x hx)
 ·exact h1
theorem VisR.reach {nodes : List GNode} {A : Nat → Prop} {m m' : List Bool} (h : VisR nodes A m m') (hc : Closed nodes m) (i : Nat) : m'.getD i false = true ↔ m.getD i false = true ∨ ∃ a, A a ∧ Reach nodes a i := by
 refine ⟨h.new i, fun h1 => ?_⟩
 rcases h1 with h1 | ⟨a, ha, hr⟩
 ·exact h.keep i h1
 ·have := h.closed hc
  induction hr with
  | refl => exact h.from' a ha
  | step _ hl hx ih => exact this _ hl ih _ hx
def reachedV (nodes : List GNode) (at_ : Int) (m : List Bool) : List Bool := (visitV nodes (nodes.length + 1) at_ m).getD []
theorem lack_le (m : List Bool) : lack m ≤ m.length := List.count_le_length
theorem reachedV_ok {nodes : List GNode} (hI : Idx nodes) {at_ : Int} {m : List Bool} (hx : 0 ≤ at_ ∧ at_ < (nodes.length : Int)) (hl : m.length = nodes.length) :
  visitV nodes (nodes.length + 1) at_ m = some (reachedV nodes at_ m) ∧ VisR nodes (fun a => a = at_.toNat) m (reachedV nodes at_ m) := by
 obtain ⟨m', h, r⟩ := visitV_vis hI (nodes.length + 1) at_ m hx hl (by have := lack_le m; omega)
 unfold reachedV
 rw [h]
 exact ⟨rfl, r⟩
def noMarks (n : Nat) : List Bool := List.replicate n false
theorem noMarks_get (n i : Nat) : (noMarks n).getD i false = false := by
 unfold noMarks
 rw [List.getD_eq_getElem?_getD, List.getElem?_replicate]
 split <;> rfl
theorem noMarks_closed (nodes : List GNode) (n : Nat) : Closed nodes (noMarks n) := fun i _ h => by rw [noMarks_get] at h; cases h
/-! ### Counts -/
def bump (l : List Int) (x : Int) : List Int := l.set x.toNat (l.getD x.toNat 0 + 1)
def countsV (nodes : List GNode) (root : Int) : List Int := (nodes.flatMap refs).foldl bump (bump (List.replicate nodes.length 0) root)
theorem bump_len (l : List Int) (x : Int) : (bump l x).length = l.length := by simp [bump]
theorem bumps_len (xs : List Int) (l : List Int) : (xs.foldl bump l).length = l.length := by
 induction xs generalizing l with
 | nil => rfl
 | cons x xs ih => rw [List.foldl_cons, ih, bump_len]
def cnt (nodes : List GNode) (root : Int) (i : Nat) : Nat := (root :: nodes.flatMap refs).count (i : Int)
/-! ### The nodes of keys -/
def inKeysV (nodes : List GNode) : List Bool := (nodes.flatMap GNode.keys).foldl (fun m k => reachedV nodes k m) (noMarks nodes.length)
theorem inKeys_fold {nodes : List GNode} (hI : Idx nodes) (ks : List Int) (hk : ∀ k ∈ ks, 0 ≤ k ∧ k < (nodes.length : Int)) (m : List Bool) (hl : m.length = nodes.length) (hc : Closed nodes m) :
  (ks.foldl (fun m k => reachedV nodes k m) m).length = nodes.length ∧ ∀ i, (ks.foldl (fun m k => reachedV nodes k m) m).getD i false = true ↔ m.getD i false = true ∨ ∃ k ∈ ks, Reach nodes k.toNat i := by
 induction ks generalizing m with
 | nil => exact ⟨hl, fun i => by simp⟩
 | cons k ks ih =>
  have r := (reachedV_ok hI (hk k (by simp)) hl).2
  obtain ⟨h1, h2⟩ := ih (fun y hy => hk y (by simp [hy])) (reachedV nodes k m) (r.len.trans hl) (r.closed hc)
  refine ⟨h1, fun i => ?_⟩
  rw [List.foldl_cons, h2 i, r.reach hc i]
  constructor
  ·rintro ((h | ⟨a, rfl, h⟩) | ⟨x, hx, h⟩)
   ·exact .inl h
   ·exact .inr ⟨k, by simp, h⟩
   ·exact .inr ⟨x, by simp [hx], h⟩
  ·rintro (h | ⟨x, hx, h⟩)
   ·exact .inl (.inl h)
   ·rcases List.mem_cons.1 hx with rfl | hx
    ·exact .inl (.inr ⟨_, rfl, h⟩)
    ·exact .inr ⟨x, hx, h⟩
end Go.Proofs.YtbhigefbihpnlaaGreatDoor
