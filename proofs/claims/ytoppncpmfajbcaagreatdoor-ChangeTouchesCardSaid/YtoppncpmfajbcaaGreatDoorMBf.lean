/- canon's normal in memory: the variables that the closure has captured, and what a step does to them. -/
import Derived.Test.YtoppncpmfajbcaaGreatDoorMBe
import Derived.Test.YtoppncpmfajbcaaGreatDoorMBa
import Derived.Test.YtoppncpmfajbcaaGreatDoorMAr
import Derived.Test.YtoppncpmfajbcaaGreatDoorMAs
set_option linter.unusedVariables false
set_option linter.unusedSimpArgs false
set_option linter.defProp false
set_option linter.constructorNameAsVariable false
namespace Go.Proofs.YtoppncpmfajbcaaGreatDoor
open Go.RowKit
structure NmB where
  bat : Nat
  cn : Nat
  gr : Nat
  tp : Nat
  vi : Nat
  ou : Nat
  am : Nat
  om : Nat
  tb : Nat
  sb : Nat
def normFn (e : NmB) : Value := .func (.func 49) #[] #[.pointer (some ⟨e.bat, 0, none⟩), .pointer (some ⟨e.cn, 0, none⟩), .pointer (some ⟨e.gr, 0, none⟩), .pointer (some ⟨e.tp, 0, none⟩), .pointer (some ⟨e.vi, 0, none⟩), .pointer (some ⟨e.ou, 0, none⟩)]
def NmF (e : NmB) (b : Nat) : Prop := b = e.am ∨ b = e.cn ∨ b = e.om ∨ b = e.sb
def NmLt (e : NmB) (z : Nat) : Prop := e.bat < z ∧ e.cn < z ∧ e.gr < z ∧ e.tp < z ∧ e.vi < z ∧ e.ou < z ∧ e.am < z ∧ e.om < z ∧ e.tb < z ∧ e.sb < z
structure NmE (w0 w : World) (B g o c : Nat) (nodes : List GNode) (root : Int) (e : NmB) (R : Nat → Prop) (s : NSt) (ncs es : List Value) : Prop where
  be : Below B w0 w
  gd : GRd w B g o nodes
  bat : Arr w e.bat 32 [.slice (some ⟨e.am, 0, none⟩) nodes.length nodes.length]
  cn : Arr w e.cn 3 [.int .i64 (s.cnt : Int)]
  gr : Arr w e.gr 26 [.slice (some ⟨g, o, none⟩) nodes.length c, .int .i64 root]
  tp : Arr w e.tp 53 [.pointer (some ⟨e.tb, 0, none⟩)]
  vi : Arr w e.vi 92 [normFn e]
  ou : Arr w e.ou 26 [.slice (some ⟨e.om, 0, none⟩) nodes.length nodes.length, .int .i64 0]
  am : Arr w e.am 3 (I64 s.at_)
  om : Arr w e.om 34 ncs
  rd : NodesRd w R ncs s.out
  rl : ∀ b, R b → B ≤ b ∧ b ≠ e.am ∧ b ≠ e.cn
  tab : TabN w e.tb e.sb g o c nodes.length root es
  lo : ∀ b, NmF e b → B ≤ b
  d1 : e.am ≠ e.cn
  d2 : e.gr ≠ e.ou
  d3 : e.bat ≠ e.sb
def negs (l : List Int) : Nat := l.countP (fun x => decide (x < 0))
structure NmS (n : Nat) (s : NSt) (es : List Value) : Prop where
  al : s.at_.length = n
  ol : s.out.length = n
  el : es.length = n
  nil : ∀ k, k < n → s.at_.getD k 0 < 0 → es[k]? = some (.slice none 0 0)
  cc : s.cnt + negs s.at_ ≤ n
theorem negs_set {l : List Int} {k : Nat} {v : Int} (hk : k < l.length) (h : l.getD k 0 < 0) (hv : 0 ≤ v) : negs (l.set k v) + 1 = negs l := by
  unfold negs
  induction l generalizing k with
  | nil => simp at hk
  | cons a l ih =>
    cases k with
    | zero =>
      have ha : a < 0 := by simpa using h
      have hv' : ¬ v < 0 := by omega
      simp [ha, hv']
    | succ k =>
      have := ih (k := k) (by simpa using hk) (by simpa using h)
      simp only [List.set_cons_succ, List.countP_cons]
      omega
theorem arr_puts {g : Nat} {t : TypeId} : ∀ (vs : List Value) (o : Nat) {w : World} {xs : List Value}, Arr w g t xs → Arr (w.setCells g o vs) g t (setL xs o vs)
  | [], _, _, _, h => h
  | v :: r, o, _, _, h => arr_puts r (o + 1) (h.store o v)
section
variable {w0 w w' : World} {B g o c : Nat} {nodes : List GNode} {root : Int} {e : NmB} {R : Nat → Prop} {s : NSt} {ncs es : List Value}
theorem NmE.hi (h : NmE w0 w B g o c nodes root e R s ncs es) : ∀ b, NmF e b → b < w.heap.size := fun b hb => by
  rcases hb with rfl | rfl | rfl | rfl
  · exact h.am.lt
  · exact h.cn.lt
  · exact h.om.lt
  · exact h.tab.srt.lt
theorem NmE.fr (h : NmE w0 w B g o c nodes root e R s ncs es) : ¬ NmF e e.bat ∧ ¬ NmF e e.gr ∧ ¬ NmF e e.tp ∧ ¬ NmF e e.vi ∧ ¬ NmF e e.ou ∧ ¬ NmF e e.tb := by
  refine ⟨?_, ?_, ?_, ?_, ?_, ?_⟩
  · rintro (k | k | k | k)
    · exact kind_ne h.bat h.am (by decide) k
    · exact kind_ne h.bat h.cn (by decide) k
    · exact kind_ne h.bat h.om (by decide) k
    · exact h.d3 k
  · rintro (k | k | k | k)
    · exact kind_ne h.gr h.am (by decide) k
    · exact kind_ne h.gr h.cn (by decide) k
    · exact kind_ne h.gr h.om (by decide) k
    · exact kind_ne h.gr h.tab.srt (by decide) k
  · rintro (k | k | k | k)
    · exact kind_ne h.tp h.am (by decide) k
    · exact kind_ne h.tp h.cn (by decide) k
    · exact kind_ne h.tp h.om (by decide) k
    · exact kind_ne h.tp h.tab.srt (by decide) k
  · rintro (k | k | k | k)
    · exact kind_ne h.vi h.am (by decide) k
    · exact kind_ne h.vi h.cn (by decide) k
    · exact kind_ne h.vi h.om (by decide) k
    · exact kind_ne h.vi h.tab.srt (by decide) k
  · rintro (k | k | k | k)
    · exact kind_ne h.ou h.am (by decide) k
    · exact kind_ne h.ou h.cn (by decide) k
    · exact kind_ne h.ou h.om (by decide) k
    · exact kind_ne h.ou h.tab.srt (by decide) k
  · rintro (k | k | k | k)
    · exact kind_ne h.tab.tab h.am (by decide) k
    · exact kind_ne h.tab.tab h.cn (by decide) k
    · exact kind_ne h.tab.tab h.om (by decide) k
    · exact kind_ne h.tab.tab h.tab.srt (by decide) k
theorem NmE.below (h : NmE w0 w B g o c nodes root e R s ncs es) {z : Nat} (hb : Below z w w') (hz : ∀ b, b < w.heap.size → B ≤ b → b < z) (hBz : B ≤ z) : NmE w0 w' B g o c nodes root e R s ncs es := by
  have hk : ∀ {b : Nat} {t : TypeId} {xs : List Value}, Arr w b t xs → b < z → Arr w' b t xs := fun ha hl => ha.below hb hl
  have hz' : ∀ b, b < w.heap.size → b < z := fun b hb => by
    by_cases h1 : B ≤ b
    · exact hz b hb h1
    · omega
  exact { be := h.be.trans (hb.mono hBz)
          gd := h.gd.below hb hBz
          bat := hk h.bat (hz' _ h.bat.lt)
          cn := hk h.cn (hz' _ h.cn.lt)
          gr := hk h.gr (hz' _ h.gr.lt)
          tp := hk h.tp (hz' _ h.tp.lt)
          vi := hk h.vi (hz' _ h.vi.lt)
          ou := hk h.ou (hz' _ h.ou.lt)
          am := hk h.am (hz' _ h.am.lt)
          om := hk h.om (hz' _ h.om.lt)
          rd := h.rd.over fun b hl hF _ => ⟨hb.block b (hz' b hl), hF⟩
          tab := ⟨hk h.tab.tab (hz' _ h.tab.tab.lt), hk h.tab.srt (hz' _ h.tab.srt.lt)⟩
          rl := h.rl
          lo := h.lo
          d1 := h.d1
          d2 := h.d2
          d3 := h.d3 }
theorem NmE.kept (h : NmE w0 w B g o c nodes root e R s ncs es) (hb : Below w.heap.size w w') : NmE w0 w' B g o c nodes root e R s ncs es := h.below hb (fun _ h _ => h) h.gd.2.1
theorem NmE.blt (h : NmE w0 w B g o c nodes root e R s ncs es) : NmLt e w.heap.size := ⟨h.bat.lt, h.cn.lt, h.gr.lt, h.tp.lt, h.vi.lt, h.ou.lt, h.am.lt, h.om.lt, h.tab.tab.lt, h.tab.srt.lt⟩
theorem NmE.rows (h : NmE w0 w B g o c nodes root e R s ncs es) {R' : Nat → Prop} (h1 : ∀ b, b < w.heap.size → R b → R' b) (h2 : ∀ b, R' b → B ≤ b ∧ b ≠ e.am ∧ b ≠ e.cn) : NmE w0 w B g o c nodes root e R' s ncs es :=
  { h with rd := h.rd.over fun b hl hF _ => ⟨rfl, h1 b hl hF⟩, rl := h2 }
theorem NmE.far (h : NmE w0 w B g o c nodes root e R s ncs es) {z : Nat} {r : Option Nat} (hg : w.grownBy w' r) (hr : ∀ b, r = some b → z ≤ b ∧ (¬ R b ∨ ∃ t cs, Arr w b t cs ∧ t ≠ 3)) (hz : NmLt e z) (hBz : B ≤ z) : NmE w0 w' B g o c nodes root e R s ncs es := by
  obtain ⟨z1, z2, z3, z4, z5, z6, z7, z8, z9, z10⟩ := hz
  have hk : ∀ {b : Nat} {t : TypeId} {xs : List Value}, Arr w b t xs → b < z → Arr w' b t xs := fun ha hl => ha.grown hg (fun e => by have := (hr _ e.symm).1; omega)
  have hB : ∀ b, r = some b → B ≤ b := fun b e => by have := (hr b e).1; omega
  exact { be := h.be.trans (below_of_grown hg h.gd.2.1 hB)
          gd := h.gd.grownO hg hB
          bat := hk h.bat z1
          cn := hk h.cn z2
          gr := hk h.gr z3
          tp := hk h.tp z4
          vi := hk h.vi z5
          ou := hk h.ou z6
          am := hk h.am z7
          om := hk h.om z8
          rd := h.rd.over fun b hl hF hi => ⟨hg.block b hl (fun e => (hr b e.symm).2.elim (fun k => k hF) (fun ⟨t, cs, ha, ht⟩ => by
            obtain ⟨C, fz, hc⟩ := hi
            exact ht (cells_kind ha hc))), hF⟩
          tab := ⟨hk h.tab.tab z9, hk h.tab.srt z10⟩
          rl := h.rl
          lo := h.lo
          d1 := h.d1
          d2 := h.d2
          d3 := h.d3 }
theorem NmE.set_am (h : NmE w0 w B g o c nodes root e R s ncs es) (k : Nat) (v : Int) : NmE w0 (w.setCell ⟨e.am, k, none⟩ (.int .i64 v)) B g o c nodes root e R { s with at_ := s.at_.set k v } ncs es := by
  obtain ⟨f1, f2, f3, f4, f5, f6⟩ := h.fr
  have hB := h.lo _ (.inl rfl)
  exact { be := h.be.setCell (p := ⟨e.am, k, none⟩) hB _
          gd := h.gd.grown (grown_set w ⟨e.am, k, none⟩ _) hB
          bat := h.bat.far (p := ⟨e.am, k, none⟩) (fun e => f1 (.inl e)) _
          cn := h.cn.far (p := ⟨e.am, k, none⟩) (Ne.symm h.d1) _
          gr := h.gr.far (p := ⟨e.am, k, none⟩) (fun e => f2 (.inl e)) _
          tp := h.tp.far (p := ⟨e.am, k, none⟩) (fun e => f3 (.inl e)) _
          vi := h.vi.far (p := ⟨e.am, k, none⟩) (fun e => f4 (.inl e)) _
          ou := h.ou.far (p := ⟨e.am, k, none⟩) (fun e => f5 (.inl e)) _
          am := by have := h.am.store k (.int .i64 v); rw [I64_set] at this; exact this
          om := h.om.far (p := ⟨e.am, k, none⟩) (kind_ne h.om h.am (by decide)) _
          rd := h.rd.over fun b _ hF _ => ⟨setCell_heap_ne _ _ _ (h.rl b hF).2.1, hF⟩
          tab := ⟨h.tab.tab.far (p := ⟨e.am, k, none⟩) (fun e => f6 (.inl e)) _, h.tab.srt.far (p := ⟨e.am, k, none⟩) (kind_ne h.tab.srt h.am (by decide)) _⟩
          rl := h.rl
          lo := h.lo
          d1 := h.d1
          d2 := h.d2
          d3 := h.d3 }
theorem NmE.set_cn (h : NmE w0 w B g o c nodes root e R s ncs es) (v : Nat) : NmE w0 (w.setCell ⟨e.cn, 0, none⟩ (.int .i64 (v : Int))) B g o c nodes root e R { s with cnt := v } ncs es := by
  obtain ⟨f1, f2, f3, f4, f5, f6⟩ := h.fr
  have hB := h.lo _ (.inr (.inl rfl))
  exact { be := h.be.setCell (p := ⟨e.cn, 0, none⟩) hB _
          gd := h.gd.grown (grown_set w ⟨e.cn, 0, none⟩ _) hB
          bat := h.bat.far (p := ⟨e.cn, 0, none⟩) (fun e => f1 (.inr (.inl e))) _
          cn := h.cn.store 0 _
          gr := h.gr.far (p := ⟨e.cn, 0, none⟩) (fun e => f2 (.inr (.inl e))) _
          tp := h.tp.far (p := ⟨e.cn, 0, none⟩) (fun e => f3 (.inr (.inl e))) _
          vi := h.vi.far (p := ⟨e.cn, 0, none⟩) (fun e => f4 (.inr (.inl e))) _
          ou := h.ou.far (p := ⟨e.cn, 0, none⟩) (fun e => f5 (.inr (.inl e))) _
          am := h.am.far (p := ⟨e.cn, 0, none⟩) h.d1 _
          om := h.om.far (p := ⟨e.cn, 0, none⟩) (kind_ne h.om h.cn (by decide)) _
          rd := h.rd.over fun b _ hF _ => ⟨setCell_heap_ne _ _ _ (h.rl b hF).2.2, hF⟩
          tab := ⟨h.tab.tab.far (p := ⟨e.cn, 0, none⟩) (fun e => f6 (.inr (.inl e))) _, h.tab.srt.far (p := ⟨e.cn, 0, none⟩) (kind_ne h.tab.srt h.cn (by decide)) _⟩
          rl := h.rl
          lo := h.lo
          d1 := h.d1
          d2 := h.d2
          d3 := h.d3 }
theorem NmE.set_sb (h : NmE w0 w B g o c nodes root e R s ncs es) {es' : List Value} (hg : w.grownBy w' (some e.sb)) (hA : Arr w' e.sb 32 es') : NmE w0 w' B g o c nodes root e R s ncs es' := by
  obtain ⟨f1, f2, f3, f4, f5, f6⟩ := h.fr
  have hB := h.lo _ (.inr (.inr (.inr rfl)))
  have k4 : ∀ {x : Nat}, ¬ NmF e x → some x ≠ some e.sb := fun hf => some_ne (fun k => hf (.inr (.inr (.inr k))))
  exact { be := below_row h.be hg h.gd.2.1 hB
          gd := h.gd.grown hg hB
          bat := h.bat.grown hg (k4 f1)
          cn := h.cn.grown hg (some_ne (kind_ne h.cn h.tab.srt (by decide)))
          gr := h.gr.grown hg (k4 f2)
          tp := h.tp.grown hg (k4 f3)
          vi := h.vi.grown hg (k4 f4)
          ou := h.ou.grown hg (k4 f5)
          am := h.am.grown hg (some_ne (kind_ne h.am h.tab.srt (by decide)))
          om := h.om.grown hg (some_ne (kind_ne h.om h.tab.srt (by decide)))
          rd := h.rd.over fun b hl hF hi => ⟨hg.block b hl (fun k => by
            have := Option.some.inj k
            subst this
            obtain ⟨C, fz, hc⟩ := hi
            exact absurd (cells_kind hc h.tab.srt) (by decide)), hF⟩
          tab := ⟨h.tab.tab.grown hg (k4 f6), hA⟩
          rl := h.rl
          lo := h.lo
          d1 := h.d1
          d2 := h.d2
          d3 := h.d3 }
theorem NmE.set_om (h : NmE w0 w B g o c nodes root e R s ncs es) {i : Nat} (hi : i < s.out.length) {cs : List Value} {nd : GNode} (hn : NodeRd w R cs nd) : NmE w0 (w.setCells e.om (i * 5) cs) B g o c nodes root e R { s with out := s.out.set i nd } (setL ncs (i * 5) cs) es := by
  obtain ⟨f1, f2, f3, f4, f5, f6⟩ := h.fr
  have hB := h.lo _ (.inr (.inr (.inl rfl)))
  have hbl : ∀ b, b ≠ e.om → (w.setCells e.om (i * 5) cs).heap[b]? = w.heap[b]? := fun b hb => heap_setCells e.om cs _ w hb
  obtain ⟨q1, q2, q3⟩ := same_setCells e.om cs (i * 5) w
  have hg : w.grownBy (w.setCells e.om (i * 5) cs) (some e.om) := ⟨q1, q2, q3, by rw [size_setCells]; exact Nat.le_refl _, fun j _ hj => hbl j (fun e => hj (by rw [e]))⟩
  have k4 : ∀ {x : Nat}, ¬ NmF e x → some x ≠ some e.om := fun hf => some_ne (fun k => hf (.inr (.inr (.inl k))))
  exact { be := below_row h.be hg h.gd.2.1 hB
          gd := h.gd.grown hg hB
          bat := h.bat.grown hg (k4 f1)
          cn := h.cn.grown hg (some_ne (kind_ne h.cn h.om (by decide)))
          gr := h.gr.grown hg (k4 f2)
          tp := h.tp.grown hg (k4 f3)
          vi := h.vi.grown hg (k4 f4)
          ou := h.ou.grown hg (k4 f5)
          am := h.am.grown hg (some_ne (kind_ne h.am h.om (by decide)))
          om := arr_puts cs (i * 5) h.om
          rd := (NodesRd.put (st := ⟨[], s.out, []⟩) h.rd hi hn).over fun b hl hF hi => ⟨hbl b (fun k => by
            subst k
            obtain ⟨C, fz, hc⟩ := hi
            exact absurd (cells_kind hc h.om) (by decide)), hF⟩
          tab := ⟨h.tab.tab.grown hg (k4 f6), h.tab.srt.grown hg (some_ne (kind_ne h.tab.srt h.om (by decide)))⟩
          rl := h.rl
          lo := h.lo
          d1 := h.d1
          d2 := h.d2
          d3 := h.d3 }
end
end Go.Proofs.YtoppncpmfajbcaaGreatDoor
namespace Go.Proofs.YtoppncpmfajbcaaGreatDoor
open Go.RowKit
def ownR (R : Nat → Prop) (z : Nat) (vk vi : Value) (b : Nat) : Prop := (R b ∨ z ≤ b) ∧ vk.ownBlock ≠ some b ∧ vi.ownBlock ≠ some b
def addR (R : Nat → Prop) (z : Nat) (b : Nat) : Prop := R b ∨ z ≤ b
def VNC (w0 w : World) (B g o c : Nat) (nodes : List GNode) (root : Int) (e : NmB) (R : Nat → Prop) (v : Int) (s' : NSt) (en : Ending) (w' : World) : Prop :=
 en = .returned (.int .i64 v) ∧ ∃ ncs' es', Hid (NmE w0 w' B g o c nodes root e (addR R w.heap.size) s' ncs' es') ∧ Hid (NmS nodes.length s' es') ∧ PStep w w' (NmF e) (NmF e)
def VisN (w0 : World) (B g o c : Nat) (nodes : List GNode) (root : Int) (e : NmB) (f : Nat) : Prop := ∀ (k : Nat) (w : World) (R : Nat → Prop) (s s' : NSt) (v : Int) (ncs es : List Value), k < nodes.length → NmS nodes.length s es → NmE w0 w B g o c nodes root e R s ncs es → visitN nodes (entV nodes) f (k : Int) s = some (v, s') →
 Calls Tryz.prog 49 #[.int .i64 (k : Int), .pointer (some ⟨e.bat, 0, none⟩), .pointer (some ⟨e.cn, 0, none⟩), .pointer (some ⟨e.gr, 0, none⟩), .pointer (some ⟨e.tp, 0, none⟩), .pointer (some ⟨e.vi, 0, none⟩), .pointer (some ⟨e.ou, 0, none⟩)] w (VNC w0 w B g o c nodes root e R v s')
theorem own_app {w3 : World} {zz : Nat} {v' : Value} {ks : List Int} {x : Int} (hown : w3.ownsRow zz 3 1 v' (ks.length + 1) (I64 ks ++ [.int .i64 x])) : w3.ownsRow zz 3 1 v' (ks ++ [x]).length (I64 (ks ++ [x])) := by
 rw [I64_append, List.length_append, List.length_singleton]; exact hown
structure NmL (w0 w wr : World) (B g o c : Nat) (nodes : List GNode) (root : Int) (e : NmB) (R : Nat → Prop) (z zz mb ob : Nat) (nd : GNode) (xs : List Int) (s : NSt) (ncs es : List Value) (vk vi : Value) (ks is : List Int) : Prop where
 st : NmE w0 wr B g o c nodes root e (ownR R z vk vi) s ncs es
 sc : NmS nodes.length s es
 mb : Arr wr mb 34 [.int .i64 nd.kind, .string (mks nd.text), .bool nd.ord, vk, vi]
 rk : wr.ownsRow zz 3 1 vk ks.length (I64 ks)
 ri : wr.ownsRow zz 3 1 vi is.length (I64 is)
 ne : ∀ b, vk.ownBlock = some b → vi.ownBlock ≠ some b
 rd : Rd wr (some ⟨ob, 0, none⟩) (I64 xs)
 ps : PStep w wr (NmF e) (NmF e)
 hz : zz ≤ wr.heap.size
structure NmC (w : World) (B : Nat) (e : NmB) (R : Nat → Prop) (z zz mb ob : Nat) : Prop where
 lt : NmLt e z
 add : ∀ b, addR R z b → B ≤ b ∧ b ≠ e.am ∧ b ≠ e.cn
 hzz : z ≤ zz
 hmb : z ≤ mb ∧ mb < ob
 hob : ob < zz
 bz : B ≤ z
 wz : w.heap.size = z
theorem NmLt.nf {e : NmB} {z b : Nat} (h : NmLt e z) (hb : z ≤ b) : ¬ NmF e b := fun k => by
 obtain ⟨z1, z2, z3, z4, z5, z6, z7, z8, z9, z10⟩ := h
 rcases k with k | k | k | k <;> omega
section
variable {w0 w wr w7 w8 : World} {B g o c : Nat} {nodes : List GNode} {root : Int} {e : NmB} {R : Nat → Prop} {z zz mb ob : Nat} {nd : GNode} {xs : List Int} {s s7 : NSt} {ncs es ncs7 es7 : List Value} {vk vi v8 : Value} {ks is : List Int} {x : Int}
theorem NmL.push_k (h : NmL w0 w wr B g o c nodes root e R z zz mb ob nd xs s ncs es vk vi ks is) (hC : NmC w B e R z zz mb ob) (hE7 : NmE w0 w7 B g o c nodes root e (addR (ownR R z vk vi) wr.heap.size) s7 ncs7 es7) (hS7 : NmS nodes.length s7 es7) (hP7 : PStep wr w7 (NmF e) (NmF e)) (ob1 : Obj)
  (hown : w8.ownsRow zz 3 1 v8 (ks.length + 1) (I64 ks ++ [.int .i64 x])) (hg : (w7.alloc ob1).grownBy w8 vk.ownBlock) (hat : v8.ownBlock = vk.ownBlock ∨ v8.ownBlock = some (w7.alloc ob1).heap.size) :
  NmL w0 w (w8.setCell ⟨mb, 3, none⟩ v8) B g o c nodes root e R z zz mb ob nd xs s7 ncs7 es7 v8 vi (ks ++ [x]) is := by
 obtain ⟨hm1, hm2⟩ := hC.hmb
 have hoz := hC.hob
 have hzz := hC.hzz
 have nf : ∀ {b : Nat}, z ≤ b → ¬ NmF e b := fun hb => hC.lt.nf hb
 have hbA : Below w7.heap.size w7 (w7.alloc ob1) := (Below.refl _ _).alloc (Nat.le_refl _) _
 have hszA : (w7.alloc ob1).heap.size = w7.heap.size + 1 := by simp
 have hwr7 := hP7.size
 have hVlt : ∀ b, vk.ownBlock = some b → zz ≤ b ∧ b < wr.heap.size := fun b e => h.rk.lt b e
 have hOlt : ∀ b, vi.ownBlock = some b → zz ≤ b ∧ b < wr.heap.size := fun b e => h.ri.lt b e
 have hmbl : mb < wr.heap.size := h.mb.lt
 have hVmb : vk.ownBlock ≠ some mb := own_arr h.rk h.mb (by decide)
 have hOmb : vi.ownBlock ≠ some mb := own_arr h.ri h.mb (by decide)
 have hOne : ∀ b, vi.ownBlock = some b → v8.ownBlock ≠ some b := fun b e1 e2 => by
  rcases hat with e3 | e3
  ·rw [e3] at e2; exact h.ne b e2 e1
  ·rw [e3] at e2
   have := Option.some.inj e2
   have := (hOlt b e1).2
   omega
 have kp : ∀ b, b < wr.heap.size → z ≤ b → vk.ownBlock ≠ some b → w8.heap[b]? = wr.heap[b]? := fun b hb hz hn => (hg.block b (by omega) (fun e => hn e.symm)).trans ((hbA.block b (by omega)).trans (hP7.keep b hb (nf hz)))
 have hmb8 : Arr w8 mb 34 [.int .i64 nd.kind, .string (mks nd.text), .bool nd.ord, vk, vi] := (kp mb hmbl hm1 hVmb).trans h.mb
 have hv8mb : v8.ownBlock ≠ some mb := own_arr hown hmb8 (by decide)
 have hO8 : w8.ownsRow zz 3 1 vi is.length (I64 is) := own_same h.ri fun b e1 => kp b (hOlt b e1).2 (by have := (hOlt b e1).1; omega) (fun e2 => h.ne b e2 e1)
 have hown9 : (w8.setCell ⟨mb, 3, none⟩ v8).ownsRow zz 3 1 v8 (ks ++ [x]).length (I64 (ks ++ [x])) := own_far (p := ⟨mb, 3, none⟩) (own_app hown) hv8mb v8
 have ho9 := own_far (p := ⟨mb, 3, none⟩) hO8 hOmb v8
 -- the state
 have hE7' : NmE w0 w7 B g o c nodes root e (fun b => addR (ownR R z vk vi) wr.heap.size b ∧ b < w7.heap.size) s7 ncs7 es7 := hE7.rows (fun b hl hF => ⟨hF, hl⟩) (fun b hb => hE7.rl b hb.1)
 have hE7a := hE7'.kept hbA
 have hE8 := hE7a.far hg (z := z) (fun b e1 => ⟨by have := (hVlt b e1).1; omega, .inl (fun hb => by
  rcases hb.1 with hb | hb
  ·exact hb.2.1 e1
  ·have := (hVlt b e1).2; omega)⟩) hC.lt hC.bz
 have hE8' : NmE w0 w8 B g o c nodes root e (ownR R z v8 vi) s7 ncs7 es7 := hE8.rows (fun b hl hF => by
  obtain ⟨hb, hb7⟩ := hF
  have hnew : v8.ownBlock ≠ some b := fun e1 => by
   rcases hat with e3 | e3
   ·rcases hb with hb | hb
    ·exact hb.2.1 (e3 ▸ e1)
    ·have := (hVlt b (e3 ▸ e1)).2; omega
   ·rw [e3] at e1; have := Option.some.inj e1; omega
  rcases hb with hb | hb
  ·exact ⟨hb.1, hnew, hb.2.2⟩
  ·have hzw : z ≤ wr.heap.size := by have := h.ps.size; rw [hC.wz] at this; exact this
   exact ⟨.inr (by omega), hnew, fun e1 => by have := (h.ri.lt b e1).2; omega⟩) (fun b hb => hC.add b hb.1)
 have hE9 := hE8'.far (grown_set w8 ⟨mb, 3, none⟩ v8) (z := z) (fun b e1 => by
  have := Option.some.inj e1
  subst this
  exact ⟨hm1, .inr ⟨_, _, hmb8, by decide⟩⟩) hC.lt hC.bz
 exact {
  st := hE9
  sc := hS7
  mb := hmb8.store 3 v8
  rk := hown9
  ri := ho9
  ne := fun b e1 e2 => hOne b e2 e1
  rd := fun j u hj => by
   obtain ⟨ad, e1, hc⟩ := h.rd j u hj
   obtain rfl := Option.some.inj e1
   have hob : ob < wr.heap.size := by have h1 := block_lt_of_cell hc; rw [blk_add] at h1; exact h1
   refine ⟨_, rfl, ?_⟩
   rw [← hc]
   refine World.cell?_of_block ?_
   rw [blk_add]
   exact (setCell_heap_ne _ _ _ (show ob ≠ mb by omega)).trans (kp ob hob (by omega) (fun e2 => by have := (hVlt ob e2).1; omega))
  ps := (((h.ps.trans hP7).below' hbA).grown hg (fun b e1 => by have := (hVlt b e1).1; rw [hC.wz]; omega)).far (p := ⟨mb, 3, none⟩) (.inl (by rw [hC.wz]; exact hm1)) v8
  hz := by have h1 := h.hz; have h2 := hg.size; rw [hszA] at h2; simp [World.setCell]; omega }
theorem NmL.push_i (h : NmL w0 w wr B g o c nodes root e R z zz mb ob nd xs s ncs es vk vi ks is) (hC : NmC w B e R z zz mb ob) (hE7 : NmE w0 w7 B g o c nodes root e (addR (ownR R z vk vi) wr.heap.size) s7 ncs7 es7) (hS7 : NmS nodes.length s7 es7) (hP7 : PStep wr w7 (NmF e) (NmF e)) (ob1 : Obj)
  (hown : w8.ownsRow zz 3 1 v8 (is.length + 1) (I64 is ++ [.int .i64 x])) (hg : (w7.alloc ob1).grownBy w8 vi.ownBlock) (hat : v8.ownBlock = vi.ownBlock ∨ v8.ownBlock = some (w7.alloc ob1).heap.size) :
  NmL w0 w (w8.setCell ⟨mb, 4, none⟩ v8) B g o c nodes root e R z zz mb ob nd xs s7 ncs7 es7 vk v8 ks (is ++ [x]) := by
 obtain ⟨hm1, hm2⟩ := hC.hmb
 have hoz := hC.hob
 have hzz := hC.hzz
 have nf : ∀ {b : Nat}, z ≤ b → ¬ NmF e b := fun hb => hC.lt.nf hb
 have hbA : Below w7.heap.size w7 (w7.alloc ob1) := (Below.refl _ _).alloc (Nat.le_refl _) _
 have hszA : (w7.alloc ob1).heap.size = w7.heap.size + 1 := by simp
 have hwr7 := hP7.size
 have hVlt : ∀ b, vi.ownBlock = some b → zz ≤ b ∧ b < wr.heap.size := fun b e => h.ri.lt b e
 have hOlt : ∀ b, vk.ownBlock = some b → zz ≤ b ∧ b < wr.heap.size := fun b e => h.rk.lt b e
 have hmbl : mb < wr.heap.size := h.mb.lt
 have hVmb : vi.ownBlock ≠ some mb := own_arr h.ri h.mb (by decide)
 have hOmb : vk.ownBlock ≠ some mb := own_arr h.rk h.mb (by decide)
 have hOne : ∀ b, vk.ownBlock = some b → v8.ownBlock ≠ some b := fun b e1 e2 => by
  rcases hat with e3 | e3
  ·rw [e3] at e2; exact h.ne b e1 e2
  ·rw [e3] at e2
   have := Option.some.inj e2
   have := (hOlt b e1).2
   omega
 have kp : ∀ b, b < wr.heap.size → z ≤ b → vi.ownBlock ≠ some b → w8.heap[b]? = wr.heap[b]? := fun b hb hz hn => (hg.block b (by omega) (fun e => hn e.symm)).trans ((hbA.block b (by omega)).trans (hP7.keep b hb (nf hz)))
 have hmb8 : Arr w8 mb 34 [.int .i64 nd.kind, .string (mks nd.text), .bool nd.ord, vk, vi] := (kp mb hmbl hm1 hVmb).trans h.mb
 have hv8mb : v8.ownBlock ≠ some mb := own_arr hown hmb8 (by decide)
 have hO8 : w8.ownsRow zz 3 1 vk ks.length (I64 ks) := own_same h.rk fun b e1 => kp b (hOlt b e1).2 (by have := (hOlt b e1).1; omega) (fun e2 => h.ne b e1 e2)
 have hown9 : (w8.setCell ⟨mb, 4, none⟩ v8).ownsRow zz 3 1 v8 (is ++ [x]).length (I64 (is ++ [x])) := own_far (p := ⟨mb, 4, none⟩) (own_app hown) hv8mb v8
 have ho9 := own_far (p := ⟨mb, 4, none⟩) hO8 hOmb v8
 -- the state
 have hE7' : NmE w0 w7 B g o c nodes root e (fun b => addR (ownR R z vk vi) wr.heap.size b ∧ b < w7.heap.size) s7 ncs7 es7 := hE7.rows (fun b hl hF => ⟨hF, hl⟩) (fun b hb => hE7.rl b hb.1)
 have hE7a := hE7'.kept hbA
 have hE8 := hE7a.far hg (z := z) (fun b e1 => ⟨by have := (hVlt b e1).1; omega, .inl (fun hb => by
  rcases hb.1 with hb | hb
  ·exact hb.2.2 e1
  ·have := (hVlt b e1).2; omega)⟩) hC.lt hC.bz
 have hE8' : NmE w0 w8 B g o c nodes root e (ownR R z vk v8) s7 ncs7 es7 := hE8.rows (fun b hl hF => by
  obtain ⟨hb, hb7⟩ := hF
  have hnew : v8.ownBlock ≠ some b := fun e1 => by
   rcases hat with e3 | e3
   ·rcases hb with hb | hb
    ·exact hb.2.2 (e3 ▸ e1)
    ·have := (hVlt b (e3 ▸ e1)).2; omega
   ·rw [e3] at e1; have := Option.some.inj e1; omega
  rcases hb with hb | hb
  ·exact ⟨hb.1, hb.2.1, hnew⟩
  ·have hzw : z ≤ wr.heap.size := by have := h.ps.size; rw [hC.wz] at this; exact this
   exact ⟨.inr (by omega), fun e1 => by have := (h.rk.lt b e1).2; omega, hnew⟩) (fun b hb => hC.add b hb.1)
 have hE9 := hE8'.far (grown_set w8 ⟨mb, 4, none⟩ v8) (z := z) (fun b e1 => by
  have := Option.some.inj e1
  subst this
  exact ⟨hm1, .inr ⟨_, _, hmb8, by decide⟩⟩) hC.lt hC.bz
 exact {
  st := hE9
  sc := hS7
  mb := hmb8.store 4 v8
  rk := ho9
  ri := hown9
  ne := fun b e1 e2 => hOne b e1 e2
  rd := fun j u hj => by
   obtain ⟨ad, e1, hc⟩ := h.rd j u hj
   obtain rfl := Option.some.inj e1
   have hob : ob < wr.heap.size := by have h1 := block_lt_of_cell hc; rw [blk_add] at h1; exact h1
   refine ⟨_, rfl, ?_⟩
   rw [← hc]
   refine World.cell?_of_block ?_
   rw [blk_add]
   exact (setCell_heap_ne _ _ _ (show ob ≠ mb by omega)).trans (kp ob hob (by omega) (fun e2 => by have := (hVlt ob e2).1; omega))
  ps := (((h.ps.trans hP7).below' hbA).grown hg (fun b e1 => by have := (hVlt b e1).1; rw [hC.wz]; omega)).far (p := ⟨mb, 4, none⟩) (.inl (by rw [hC.wz]; exact hm1)) v8
  hz := by have h1 := h.hz; have h2 := hg.size; rw [hszA] at h2; simp [World.setCell]; omega }
end
end Go.Proofs.YtoppncpmfajbcaaGreatDoor
