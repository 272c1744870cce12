/- The walk of the closure in change.normal: marks, and the order in which nodes are met. -/
import Derived.Test.YtoppncpmfajbcaaGreatDoorMBa
import Derived.Test.YtoppncpmfajbcaaGreatDoorMAl
import Derived.Test.YtoppncpmfajbcaaGreatDoorMAm
import Derived.Test.YtoppncpmfajbcaaGreatDoorMAz
import Derived.Test.YtoppncpmfajbcaaGreatDoorMAe
import Derived.Deep.RegionHeld3
import Derived.Deep.QuietTactic
import Derived.BigQuiet
set_option linter.unusedVariables false
set_option linter.unusedSimpArgs false
set_option linter.defProp false
set_option linter.constructorNameAsVariable false
namespace Go.Proofs.YtoppncpmfajbcaaGreatDoor
open Go.RowKit
abbrev ChS := List Bool × List Int
def visC (nodes : List GNode) : Nat → Int → ChS → Option ChS
 | 0, _, _ => none
 | f + 1, k, s =>
  if inB nodes.length k then
   if s.1.getD k.toNat false then some s
   else match runG (visC nodes f) (ndAt nodes k.toNat).keys (s.1.set k.toNat true, s.2 ++ [k]) with
    | none => none
    | some s1 => runG (visC nodes f) (ndAt nodes k.toNat).items s1
  else none
def chFn (bm bo bg bv : Nat) : Value := .func (.func 73) #[] #[.pointer (some ⟨bm, 0, none⟩), .pointer (some ⟨bo, 0, none⟩), .pointer (some ⟨bg, 0, none⟩), .pointer (some ⟨bv, 0, none⟩)]
structure CnB where
 bm : Nat
 bo : Nat
 bg : Nat
 bv : Nat
 mb : Nat
structure CnE (w : World) (z B g o c : Nat) (nodes : List GNode) (root : Int) (e : CnB) (s : ChS) (ov : Value) : Prop where
 gr : GRd w B g o nodes
 am : Arr w e.bm 87 [.slice (some ⟨e.mb, 0, none⟩) nodes.length nodes.length]
 mkd : Arr w e.mb 4 (Bs s.1)
 ao : Arr w e.bo 32 [ov]
 ro : w.ownsRow z 3 1 ov s.2.length (I64 s.2)
 ag : Arr w e.bg 26 [.slice (some ⟨g, o, none⟩) nodes.length c, .int .i64 root]
 av : Arr w e.bv 107 [chFn e.bm e.bo e.bg e.bv]
 zB : B ≤ z
 zm : z ≤ e.mb
 zo : z ≤ e.bo
 zw : z ≤ w.heap.size
 len : s.1.length = nodes.length
 cnt : s.2.length + lack s.1 ≤ 65536
structure Fr (w w' : World) (mb bo : Nat) (ov ov' : Value) : Prop where
 os : w'.os = w.os
 tape : w'.tape = w.tape
 output : w'.output = w.output
 size : w.heap.size ≤ w'.heap.size
 block : ∀ b, b < w.heap.size → b ≠ mb → b ≠ bo → ov.ownBlock ≠ some b → w'.heap[b]? = w.heap[b]?
 own : ov'.ownBlock = ov.ownBlock ∨ ∃ b, ov'.ownBlock = some b ∧ w.heap.size ≤ b
theorem Fr.refl (w : World) (mb bo : Nat) (ov : Value) : Fr w w mb bo ov ov := ⟨rfl, rfl, rfl, Nat.le_refl _, fun _ _ _ _ _ => rfl, .inl rfl⟩
theorem Fr.trans {a b c : World} {mb bo : Nat} {u v x : Value} (h : Fr a b mb bo u v) (k : Fr b c mb bo v x) : Fr a c mb bo u x := by
 refine ⟨k.os.trans h.os, k.tape.trans h.tape, k.output.trans h.output, Nat.le_trans h.size k.size, fun j hj h1 h2 h3 => ?_, ?_⟩
 ·refine (k.block j (Nat.lt_of_lt_of_le hj h.size) h1 h2 (fun e => ?_)).trans (h.block j hj h1 h2 h3)
  rcases h.own with e1 | ⟨q, e1, e2⟩
  ·exact h3 (e1 ▸ e)
  ·rw [e1] at e; have := Option.some.inj e; omega
 ·rcases k.own with e1 | ⟨q, e1, e2⟩
  ·rcases h.own with e3 | ⟨p, e3, e4⟩
   ·exact .inl (e1.trans e3)
   ·exact .inr ⟨p, e1.trans e3, e4⟩
  ·exact .inr ⟨q, e1, Nat.le_trans h.size e2⟩
theorem Fr.below {w w' : World} {mb bo z : Nat} {u v : Value} (h : Fr w w' mb bo u v) (h1 : z ≤ mb) (h2 : z ≤ bo) (h3 : ∀ b, u.ownBlock = some b → z ≤ b) (hz : z ≤ w.heap.size) : Below z w w' :=
 ⟨h.os, h.tape, h.output, h.size, fun j hj => h.block j (by omega) (by omega) (by omega) (fun e => by have := h3 j e; omega)⟩
theorem Fr.new {w w' w0 : World} {mb bo : Nat} {u v : Value} (h : Fr w w' mb bo u v) (hb : Below w0.heap.size w0 w) : Fr w0 w' mb bo u v := by
 refine ⟨h.os.trans hb.os, h.tape.trans hb.tape, h.output.trans hb.output, Nat.le_trans hb.size h.size, fun j hj h1 h2 h3 => (h.block j (Nat.lt_of_lt_of_le hj hb.size) h1 h2 h3).trans (hb.block j hj), ?_⟩
 rcases h.own with e1 | ⟨q, e1, e2⟩
 ·exact .inl e1
 ·exact .inr ⟨q, e1, Nat.le_trans hb.size e2⟩
theorem Fr.arr {w w' : World} {mb bo b : Nat} {u v : Value} {t : TypeId} {xs : List Value} (h : Fr w w' mb bo u v) (ha : Arr w b t xs) (h1 : b ≠ mb) (h2 : b ≠ bo) (h3 : u.ownBlock ≠ some b) : Arr w' b t xs := (h.block b ha.lt h1 h2 h3).trans ha
section
variable {w w' : World} {z B g o c : Nat} {nodes : List GNode} {root : Int} {e : CnB} {s : ChS} {ov : Value}
theorem CnE.keep (h : CnE w z B g o c nodes root e s ov) (hb : Below w.heap.size w w') : CnE w' z B g o c nodes root e s ov where
 gr := h.gr.below hb h.gr.2.1
 am := h.am.keep hb
 mkd := h.mkd.keep hb
 ao := h.ao.keep hb
 ro := own_below h.ro hb
 ag := h.ag.keep hb
 av := h.av.keep hb
 zB := h.zB
 zm := h.zm
 zo := h.zo
 zw := Nat.le_trans h.zw hb.size
 len := h.len
 cnt := h.cnt
theorem CnE.mark (h : CnE w z B g o c nodes root e s ov) {k : Nat} (hk : k < nodes.length) (hm : s.1.getD k false = false) :
  CnE (w.setCell ⟨e.mb, k, none⟩ (.bool true)) z B g o c nodes root e (s.1.set k true, s.2) ov ∧ Fr w (w.setCell ⟨e.mb, k, none⟩ (.bool true)) e.mb e.bo ov ov := by
 have kd : ∀ {b : Nat} {t : TypeId} {xs : List Value}, Arr w b t xs → t ≠ 4 → b ≠ e.mb := fun ha ht => ha.ne h.mkd ht
 refine ⟨⟨?_, h.am.far (kd h.am (by decide)) _, ?_, h.ao.far (kd h.ao (by decide)) _, ?_, h.ag.far (kd h.ag (by decide)) _, h.av.far (kd h.av (by decide)) _, h.zB, h.zm, h.zo, by simpa [World.setCell] using h.zw, by simpa using h.len, ?_⟩, ⟨rfl, rfl, rfl, by simp [World.setCell], fun b _ h1 _ _ => setCell_heap_ne _ _ _ h1, .inl rfl⟩⟩
 ·exact h.gr.grown (grown_set w ⟨e.mb, k, none⟩ _) (Nat.le_trans h.zB h.zm)
 ·have := h.mkd.store k (.bool true)
  rw [Bs_set] at this
  exact this
 ·refine own_far (p := ⟨e.mb, k, none⟩) h.ro (fun e' => ?_) _
  obtain ⟨C, fz, hc⟩ := own_kind h.ro e'
  exact absurd (cells_kind h.mkd hc) (by decide)
 ·have := lack_set (i := k) hm (by rw [h.len]; exact hk)
  have := h.cnt
  show s.2.length + lack (s.1.set k true) ≤ 65536
  omega
theorem CnE.ao3 (h : CnE w z B g o c nodes root e s ov) {w1 w3 : World} (hb : Below w.heap.size w w1) (hg : w1.grownBy w3 ov.ownBlock) : Arr w3 e.bo 32 [ov] :=
 (h.ao.keep hb).grown hg fun e' => by
  obtain ⟨C, fz, hc⟩ := own_kind (h.keep hb).ro e'.symm
  exact absurd (cells_kind (h.ao.keep hb) hc) (by decide)
theorem CnE.push (h : CnE w z B g o c nodes root e s ov) {w1 w3 : World} {v' : Value} {x : Int} (hc : s.2.length + 1 + lack s.1 ≤ 65536) (hb : Below w.heap.size w w1) (hg : w1.grownBy w3 ov.ownBlock) (hown : w3.ownsRow z 3 1 v' (s.2.length + 1) (I64 s.2 ++ [.int .i64 x])) (hat : v'.ownBlock = ov.ownBlock ∨ v'.ownBlock = some w1.heap.size) :
  CnE (w3.setCell ⟨e.bo, 0, none⟩ v') z B g o c nodes root e (s.1, s.2 ++ [x]) v' ∧ Fr w (w3.setCell ⟨e.bo, 0, none⟩ v') e.mb e.bo ov v' := by
 have h1 := h.keep hb
 have kn : ∀ {b : Nat} {t : TypeId} {xs : List Value}, Arr w1 b t xs → t ≠ 3 → some b ≠ ov.ownBlock := fun {b t xs} ha ht e' => by
  obtain ⟨C, fz, hc⟩ := own_kind h1.ro e'.symm
  exact ht (cells_kind ha hc)
 have gr : ∀ {b : Nat} {t : TypeId} {xs : List Value}, Arr w1 b t xs → t ≠ 3 → Arr w3 b t xs := fun ha ht => ha.grown hg (kn ha ht)
 have a3 := gr h1.ao (by decide)
 have kd : ∀ {b : Nat} {t : TypeId} {xs : List Value}, Arr w3 b t xs → t ≠ 32 → b ≠ e.bo := fun ha ht => ha.ne a3 ht
 have hlo : ∀ b, ov.ownBlock = some b → z ≤ b := fun b e' => (h1.ro.lt b e').1
 have hB3 : Below z w w3 := (hb.mono h.zw).trans (below_of_grown hg h1.zw hlo)
 refine ⟨⟨?_, (gr h1.am (by decide)).far (kd (gr h1.am (by decide)) (by decide)) _, (gr h1.mkd (by decide)).far (kd (gr h1.mkd (by decide)) (by decide)) _, ?_, ?_, (gr h1.ag (by decide)).far (kd (gr h1.ag (by decide)) (by decide)) _, (gr h1.av (by decide)).far (kd (gr h1.av (by decide)) (by decide)) _, h.zB, h.zm, h.zo, ?_, h.len, ?_⟩, ⟨?_, ?_, ?_, ?_, fun b hb' h1' h2' h3' => ?_, ?_⟩⟩
 ·exact (h.gr.below hB3 h.zB).grown (grown_set w3 ⟨e.bo, 0, none⟩ _) (Nat.le_trans h.zB h.zo)
 ·exact a3.store 0 v'
 ·rw [List.length_append, List.length_singleton, I64_append]
  refine own_far (p := ⟨e.bo, 0, none⟩) hown (fun e' => ?_) _
  obtain ⟨C, fz, hc⟩ := own_kind hown e'
  exact absurd (cells_kind a3 hc) (by decide)
 ·have := hB3.size
  have := h.zw
  simp [World.setCell]
  omega
 ·rw [List.length_append, List.length_singleton]
  exact hc
 ·exact hB3.os
 ·exact hB3.tape
 ·exact hB3.output
 ·simpa [World.setCell] using hB3.size
 ·exact (setCell_heap_ne _ _ _ h2').trans ((hg.block b (Nat.lt_of_lt_of_le hb' hb.size) (fun e' => h3' e'.symm)).trans (hb.block b hb'))
 ·rcases hat with e1 | e1
  ·exact .inl e1
  ·exact .inr ⟨_, e1, hb.size⟩
end
def VisCE (w : World) (z B g o c : Nat) (nodes : List GNode) (root : Int) (e : CnB) (s' : ChS) (ov : Value) (en : Ending) (w' : World) : Prop :=
 en = .returned (.tuple #[]) ∧ ∃ ov', Fr w w' e.mb e.bo ov ov' ∧ CnE w' z B g o c nodes root e s' ov'
def restC (nodes : List GNode) (f : Nat) (nd : GNode) (j : Nat) (s : ChS) : Option ChS :=
 if j = 0 then (runG (visC nodes f) nd.keys s).bind (runG (visC nodes f) nd.items) else if j = 1 then runG (visC nodes f) nd.items s else some s
def listC (nd : GNode) (j : Nat) : List Int := if j = 0 then nd.keys else nd.items
def restI (nodes : List GNode) (f : Nat) (nd : GNode) (j q : Nat) (s : ChS) : Option ChS :=
 if j = 0 then (runG (visC nodes f) (nd.keys.drop q) s).bind (runG (visC nodes f) nd.items) else runG (visC nodes f) (nd.items.drop q) s
theorem restC_I {nodes : List GNode} {f j : Nat} {nd : GNode} {s : ChS} (h : j < 2) : restC nodes f nd j s = restI nodes f nd j 0 s := by
 unfold restC restI
 by_cases h0 : j = 0
 ·rw [if_pos h0, if_pos h0, List.drop_zero]
 ·rw [if_neg h0, if_neg h0, if_pos (by omega), List.drop_zero]
theorem restI_end {nodes : List GNode} {f j q : Nat} {nd : GNode} {s : ChS} (hj : j < 2) (h : q = (listC nd j).length) : restI nodes f nd j q s = restC nodes f nd (j + 1) s := by
 unfold restC restI
 unfold listC at h
 by_cases h0 : j = 0
 ·rw [if_pos h0] at h ⊢
  rw [List.drop_of_length_le (by omega), if_neg (by omega), if_pos (by omega)]
  rfl
 ·rw [if_neg h0] at h ⊢
  rw [List.drop_of_length_le (by omega), if_neg (by omega), if_neg (by omega)]
  rfl
theorem restI_step {nodes : List GNode} {f j q : Nat} {nd : GNode} {s s' : ChS} {x : Int} (hx : (listC nd j)[q]? = some x) (h : restI nodes f nd j q s = some s') : ∃ s1, visC nodes f x s = some s1 ∧ restI nodes f nd j (q + 1) s1 = some s' := by
 unfold listC at hx
 unfold restI at h ⊢
 by_cases h0 : j = 0
 ·rw [if_pos h0] at hx h
  rw [drop_cons_at hx, runG] at h
  cases hv : visC nodes f x s with
  | none => rw [hv] at h; cases h
  | some s1 => rw [hv] at h; exact ⟨s1, rfl, by rw [if_pos h0]; exact h⟩
 ·rw [if_neg h0] at hx h
  rw [drop_cons_at hx, runG] at h
  cases hv : visC nodes f x s with
  | none => rw [hv] at h; cases h
  | some s1 => rw [hv] at h; exact ⟨s1, rfl, by rw [if_neg h0]; exact h⟩
set_option maxRecDepth 20000 in
set_option maxHeartbeats 8000000 in
theorem visC_any {z B g o c : Nat} {nodes : List GNode} {root : Int} {e : CnB} (hI : Idx nodes) (hL : NL 65536 nodes) (f : Nat) : ∀ (k : Nat) (s s' : ChS) (ov : Value) (w : World), visC nodes f (k : Int) s = some s' →
  CnE w z B g o c nodes root e s ov → Calls Tryz.prog 73 #[.int .i64 (k : Int), .pointer (some ⟨e.bm, 0, none⟩), .pointer (some ⟨e.bo, 0, none⟩), .pointer (some ⟨e.bg, 0, none⟩), .pointer (some ⟨e.bv, 0, none⟩)] w (VisCE w z B g o c nodes root e s' ov) := by
 induction f with
 | zero => intro k s s' ov w h; cases h
 | succ f ih =>
  intro k s s' ov w h hE
  rw [visC] at h
  split at h
  ·rename_i hin
   obtain ⟨_, hk2⟩ := inB_iff.1 hin
   have hk : k < nodes.length := by omega
   have hkl : (k : Int) < nodes.length := by omega
   have hk0 : (0 : Int) ≤ k := by omega
   rw [Int.toNat_natCast] at h
   have x0 := hE.am.cell' (i := 0) rfl
   have m0 := hE.mkd.cell' (Bs_get (m := s.1) (k := k) (by rw [hE.len]; omega))
   by_cases hm : s.1.getD k false = true
   ·rw [if_pos hm] at h
    obtain rfl := Option.some.inj h
    rw [hm] at m0
    go_enter Tryz.func73, Tryz.ntmps73
    go_wp2_with (fail)
    go_end0
    exact ⟨rfl, ov, Fr.refl _ _ _ _, hE⟩
   ·rw [if_neg hm] at h
    have hm' : s.1.getD k false = false := by simpa using hm
    rw [hm'] at m0
    have f0 := hE.mkd.frozen k
    obtain ⟨hE1, hF1⟩ := hE.mark hk hm'
    have hcnt : s.2.length + 1 + lack (s.1.set k true) ≤ 65536 := by
     have := lack_set (i := k) hm' (by rw [hE.len]; exact hk)
     have := hE.cnt
     omega
    have HE1 := Lib.hid hE1
    have HF1 := Lib.hid hF1
    clear hE1 hF1
    go_enter Tryz.func73, Tryz.ntmps73
    go_upto_region 2 with (fail)
    clear m0 f0 x0 hm hm'
    generalize hw1 : w.setCell ⟨e.mb, k, none⟩ (.bool true) = w1 at *
    clear hw1
    have b0 := HE1.out.ao.cell' (i := 0) rfl
    have bf := HE1.out.ao.frozen 0
    have hrow := Lib.hid HE1.out.ro
    have hb2 : Below w1.heap.size w1 (w1.alloc (.cells #[.int .i64 (k : Int)] 3)) := (Below.refl _ _).alloc (Nat.le_refl _) _
    have hzw1 := HE1.out.zw
    have hl2 : s.2.length + 1 ≤ 65536 := by omega
    go_upto_region 3 with (at_builtin; go_loud (refine wpList_apS rfl (.tmp 17) (.tmp 19) 32 rfl z 3 _ 1 _ Tryz.underlying32 infoInt rfl (by decide) _ s.2.length (I64 s.2) rfl (hrow.out.alloc _) ⟨w1.heap.size, 0, none⟩ _ [.int .i64 (k : Int)] rfl rfl (cells_new _ _ _) rfl (by unfold maxLen; omega) (by omega) (by simp; omega) ?_; intro v3 w3 hown3 hgr3 hat3; obtain ⟨A3, c3, hv3, hc3, hm3⟩ := own_slice hown3; subst hv3; have a3 := HE1.out.ao3 hb2 hgr3; have b3 := a3.cell' (i := 0) rfl; have f3 := a3.frozen 0))
    obtain ⟨hE5, hF5⟩ := HE1.out.push hcnt hb2 hgr3 hown3 hat3
    have HE5 := Lib.hid hE5
    have HF5 := Lib.hid (HF1.out.trans hF5)
    clear hE5 hF5 hown3 hgr3 hat3 a3 b3 f3 HE1 HF1 b0 bf hrow hb2 hzw1 hcnt hE
    generalize w3.setCell ⟨e.bo, 0, none⟩ (.slice A3 (s.2.length + 1) c3) = w5 at *
    generalize (Value.slice A3 (s.2.length + 1) c3) = ov5 at *
    obtain ⟨K, ck, I, ci, d0, d1, d2, d3, d4, ⟨hK, hKb⟩, hI', hIb⟩ := HE5.out.gr.of_at hk
    obtain ⟨hKl, hIl⟩ := hL k hk
    have g0 := HE5.out.ag.cell' (i := 0) rfl
    have hrefs := Lib.hid (hI k hk)
    have HK := Lib.hid hK
    have HI := Lib.hid hI'
    have HKB := Lib.hid hKb
    have HIB := Lib.hid hIb
    have hH : Hid (restC nodes f (ndAt nodes k) 0 (s.1.set k true, s.2 ++ [(k : Int)]) = some s') := by
     show _ = _
     rw [restC, if_pos rfl, ← h]
     cases runG (visC nodes f) (ndAt nodes k).keys (s.1.set k true, s.2 ++ [(k : Int)]) <;> rfl
    clear hKb hIb hK hI' d0 d1 d2 hin hk2 h
    generalize hnd : ndAt nodes k = nd at *
    generalize (s.1.set k true, s.2 ++ [(k : Int)]) = s5 at *
    clear hnd
    go_upto_region 4 with (fail)
    go_region
    have hb6 : Below w5.heap.size w5 (w5.alloc (.cells #[.slice K nd.keys.length ck, .slice I nd.items.length ci] 32)).drew := ((Below.refl _ _).alloc (Nat.le_refl _) _).drew
    have hL6 : Hid (Arr (w5.alloc (.cells #[.slice K nd.keys.length ck, .slice I nd.items.length ci] 32)).drew w5.heap.size 32 [.slice K nd.keys.length ck, .slice I nd.items.length ci]) := Arr.new w5 _ _
    have hE6 := Lib.hid (HE5.out.keep hb6)
    obtain ⟨lb, hlb⟩ : ∃ x, w5.heap.size = x := ⟨_, rfl⟩
    have hF6 : Hid (Fr w (w5.alloc (.cells #[.slice K nd.keys.length ck, .slice I nd.items.length ci] 32)).drew e.mb e.bo ov ov5) := by
     have h := HF5.out
     refine ⟨hb6.os.trans h.os, hb6.tape.trans h.tape, hb6.output.trans h.output, Nat.le_trans h.size hb6.size, fun b hb h1 h2 h3 => (hb6.block b (Nat.lt_of_lt_of_le hb h.size)).trans (h.block b hb h1 h2 h3), h.own⟩
    have hlo : e.mb < lb ∧ e.bo < lb ∧ (∀ b, ov5.ownBlock = some b → b < lb) := by
     rw [← hlb]
     exact ⟨HE5.out.mkd.lt, HE5.out.ao.lt, fun b hb => (HE5.out.ro.lt b hb).2⟩
    have hBl : B ≤ lb := by have := HE5.out.gr.2.1; omega
    have HLO := Lib.hid hlo
    rw [hlb] at hL6 ⊢
    have hzB : B ≤ e.mb ∧ B ≤ e.bo ∧ B ≤ (w5.alloc (.cells #[.slice K nd.keys.length ck, .slice I nd.items.length ci] 32)).drew.heap.size ∧ ∀ b, ov5.ownBlock = some b → B ≤ b := ⟨by have := HE5.out.zB; have := HE5.out.zm; omega, by have := HE5.out.zB; have := HE5.out.zo; omega, hE6.out.gr.2.1, fun b hb => by have := HE5.out.zB; have := (HE5.out.ro.lt b hb).1; omega⟩
    have HZB := Lib.hid hzB
    have HKW := Lib.hid (HK.out.keep hb6)
    have HIW := Lib.hid (HI.out.keep hb6)
    clear hb6 HE5 HF5 g0 d3 d4 hlb hlo HK HI hzB
    generalize (w5.alloc (.cells #[.slice K nd.keys.length ck, .slice I nd.items.length ci] 32)).drew = w6 at *
    go_upto_region 4 with (fail)
    go_loopw [35] (fun v wr => ∃ (j : Nat) (sj : ChS) (oj : Value), j ≤ 2 ∧ v = .int .i64 (j : Int) ∧ Hid (restC nodes f nd j sj = some s') ∧ Hid (CnE wr z B g o c nodes root e sj oj) ∧ Hid (Fr w wr e.mb e.bo ov oj) ∧ Hid (Fr w6 wr e.mb e.bo ov5 oj)) (fun v _ => 2 - (intOf v).toNat)
    case atStart => exact ⟨0, s5, ov5, by omega, rfl, hH, hE6, hF6, Fr.refl _ _ _ _⟩
    case round =>
     obtain ⟨j, sj, oj, hj, rfl, hrest, hEj, hFj, hGj⟩ := hrel
     obtain ⟨w8, hw8⟩ : ∃ x, x = wr := ⟨_, rfl⟩
     subst hw8
     clear hE6 hF6 hH
     have hLj := Lib.hid (hGj.out.arr hL6.out (by have := HLO.out; omega) (by have := HLO.out; omega) (fun e' => by have := HLO.out.2.2 _ e'; omega))
     have l0 := hLj.out.cell' (i := 0) rfl
     have l1 := hLj.out.cell' (i := 1) rfl
     by_cases h2 : j = 2
     ·subst h2
      have hs : sj = s' := by
       have := hrest.out
       unfold restC at this
       rw [if_neg (by omega), if_neg (by omega)] at this
       exact Option.some.inj this
      subst hs
      go_wp2_with (fail)
      go_end0
      exact ⟨rfl, oj, hFj.out, hEj.out⟩
     ·have hj2 : (j : Int) < 2 := by omega
      have hjn : j < 2 := by omega
      have hin : Hid (restI nodes f nd j 0 sj = some s') := by show _ = _; rw [← restC_I hjn]; exact hrest.out
      obtain ⟨xs, X, cx, hxs, hlen, hRd, hXB, hxr⟩ : ∃ (xs : List Int) (X : Option Addr) (cx : Nat), Hid (xs = listC nd j) ∧ xs.length ≤ 65536 ∧ Hid (Rd w6 X (I64 xs)) ∧ Hid (∀ ad, X = some ad → ad.block < B) ∧ Hid (w8.cell? ⟨lb, j, none⟩ = some (.slice X xs.length cx)) := by
       have h01 : j = 0 ∨ j = 1 := by omega
       rcases h01 with rfl | rfl
       ·exact ⟨nd.keys, K, ck, rfl, hKl, HKW, HKB, l0⟩
       ·exact ⟨nd.items, I, ci, rfl, hIl, HIW, HIB, l1⟩
      have lj := hxr.out
      clear l0 l1 hxr hLj hrest
      have hj00 : (0 : Int) ≤ j := by omega
      go_upto_region 7 with (fail)
      clear lj
      go_loopw [41] (fun v wr => ∃ (q : Nat) (sq : ChS) (oq : Value), q ≤ xs.length ∧ v = .int .i64 (q : Int) ∧ Hid (restI nodes f nd j q sq = some s') ∧ Hid (CnE wr z B g o c nodes root e sq oq) ∧ Hid (Fr w wr e.mb e.bo ov oq) ∧ Hid (Fr w6 wr e.mb e.bo ov5 oq)) (fun v _ => xs.length - (intOf v).toNat)
      case atStart => exact ⟨0, sj, oj, Nat.zero_le _, rfl, hin, hEj, hFj, hGj⟩
      case round =>
       obtain ⟨q, sq, oq, hq, rfl, hrun, hEq, hFq, hGq⟩ := hrel
       clear hin hEj hFj hGj
       by_cases hql : q = xs.length
       ·have hq' : ¬ (q : Int) < xs.length := by omega
        have hr2 : Hid (restC nodes f nd (j + 1) sq = some s') := by show _ = _; rw [← restI_end (q := q) hjn (by rw [hql, hxs.out])]; exact hrun.out
        go_wp2_with (fail)
        go_roundw
        case rel => exact ⟨j + 1, sq, oq, by omega, i64e (by omega), hr2, hEq, hFq, hGq⟩
        case measure => simp [intOf]; omega
       ·have hq' : (q : Int) < xs.length := by omega
        have hq0 : (0 : Int) ≤ q := by omega
        obtain ⟨x, hx⟩ : ∃ x, xs[q]? = some x := ⟨_, List.getElem?_eq_getElem (by omega)⟩
        have hB6 : Below B w6 wr := hGq.out.below HZB.out.1 HZB.out.2.1 HZB.out.2.2.2 HZB.out.2.2.1
        obtain ⟨ad, rfl, hc⟩ := (hRd.out.below hB6 hXB.out).at_ (I64_get hx)
        have hx' : (listC nd j)[q]? = some x := by rw [← hxs.out]; exact hx
        have hxr := hrefs.out x (by
         have hm := List.mem_of_getElem? hx'
         unfold listC at hm
         unfold refs
         split at hm
         ·exact List.mem_append.2 (.inl hm)
         ·exact List.mem_append.2 (.inr hm))
        obtain ⟨kx, rfl⟩ : ∃ kx : Nat, x = (kx : Int) := ⟨x.toNat, by omega⟩
        obtain ⟨s1, hv, hr1⟩ := restI_step hx' hrun.out
        have HR1 := Lib.hid hr1
        have D := Lib.hid (ih kx sq s1 oq wr hv hEq.out)
        have v0 := hEq.out.av.cell' (i := 0) rfl
        unfold chFn at v0
        clear hrun hv hxr hx hx' hr1 hB6
        go_wp2_with (go_at_call 73; ((with_reducible refine D.out.mono ?_)); rintro en w9 ⟨rfl, o9, hF9, hE9⟩)
        go_roundw
        case rel => exact ⟨q + 1, s1, o9, by omega, i64e (by omega), HR1, hE9, hFq.out.trans hF9, hGq.out.trans hF9⟩
        case measure => simp [intOf]; omega
  ·cases h
end Go.Proofs.YtoppncpmfajbcaaGreatDoor
namespace Go.Proofs.YtoppncpmfajbcaaGreatDoor
open Go.RowKit
theorem infoNd : (Tryz.prog.info? 34).map (fun i => (i.zero, i.size, i.bytes)) = some (some (.agg #[.int .i64 0, .string ⟨#[]⟩, .bool false, .slice none 0 0, .slice none 0 0]), 5, 80) := by kernel_rfl
def kleafC (nd : GNode) : List Value := [.int .i64 nd.kind, .string (mks nd.text), .bool nd.ord, .slice none 0 0, .slice none 0 0]
end Go.Proofs.YtoppncpmfajbcaaGreatDoor
namespace Go.Proofs.YtoppncpmfajbcaaGreatDoor
open Go.RowKit
end Go.Proofs.YtoppncpmfajbcaaGreatDoor
