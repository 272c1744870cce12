/- A graph under construction in memory: its head with the rows of keys and items, and the nodes behind it. -/
import Derived.Test.YtbhigefbihpnlaaGreatDoorMBo
import Derived.Test.YtbhigefbihpnlaaGreatDoorMBj
import Derived.Test.YtbhigefbihpnlaaGreatDoorMBk
import Derived.Test.YtbhigefbihpnlaaGreatDoorMAo
import Derived.Test.YtbhigefbihpnlaaGreatDoorMBc
import Derived.Test.YtbhigefbihpnlaaGreatDoorMAh
import Derived.Test.YtbhigefbihpnlaaGreatDoorMBe
set_option linter.unusedVariables false
set_option linter.unusedSimpArgs false
set_option linter.defProp false
set_option linter.constructorNameAsVariable false
namespace Go.Proofs.YtbhigefbihpnlaaGreatDoor
open Go.RowKit
theorem GRd.grownO {w w' : World} {B g o : Nat} {r : Option Nat} {nodes : List GNode} (h : GRd w B g o nodes) (hb : w.grownBy w' r) (hB : ∀ b, r = some b → B ≤ b) : GRd w' B g o nodes :=
 ⟨h.1, Nat.le_trans h.2.1 hb.size, fun i nd hi => (h.2.2 i nd hi).same h.1 fun a ha u hu => hb.cell hu (by intro e; have := hB _ e.symm; omega)⟩
def mload (t : TypeId) (x : Operand) : Op := .load t x
@[go_sem] theorem mload_is (t : TypeId) (x : Operand) : mload t x = .load t x := rfl
theorem mload_eq (t : TypeId) (x : Operand) : Op.load t x = mload t x := rfl
theorem IntsRd.over {w w' : World} {F F' : Nat → Prop} {A : Option Addr} {n : Nat} {xs : List Int} (h : IntsRd w F A n xs) (hk : ∀ b, b < w.heap.size → F b → w'.heap[b]? = w.heap[b]? ∧ F' b) : IntsRd w' F' A n xs := by
 have hl : ∀ ad, A = some ad → ad.block < w.heap.size := fun ad e => by
  obtain ⟨_, C, fz, hb⟩ := h.2.2 ad e
  exact (Array.getElem?_eq_some_iff.1 hb).1
 refine ⟨h.1, ?_, fun ad e => ?_⟩
 ·intro j u hj
  obtain ⟨ad, e, hc⟩ := h.2.1 j u hj
  exact ⟨ad, e, by rw [← hc]; exact World.cell?_of_block (by rw [blk_add]; exact (hk _ (hl ad e) (h.2.2 ad e).1).1)⟩
 ·obtain ⟨hf, C, fz, hb⟩ := h.2.2 ad e
  exact ⟨(hk _ (hl ad e) hf).2, C, fz, by rw [(hk _ (hl ad e) hf).1]; exact hb⟩
theorem NodesRd.over {w w' : World} {F F' : Nat → Prop} {ncs : List Value} {nodes : List GNode} (h : NodesRd w F ncs nodes) (hk : ∀ b, b < w.heap.size → F b → (∃ C fz, w.heap[b]? = some (.cells C 3 fz)) → w'.heap[b]? = w.heap[b]? ∧ F' b) : NodesRd w' F' ncs nodes := by
 refine ⟨h.1, fun i nd hi => ?_⟩
 obtain ⟨K, nk, ck, I, ni, ci, hc, h1, h2⟩ := h.2 i nd hi
 have ov : ∀ {A : Option Addr} {n : Nat} {xs : List Int}, IntsRd w F A n xs → IntsRd w' F' A n xs := fun {A n xs} h => by
  have hl : ∀ ad, A = some ad → ad.block < w.heap.size := fun ad e => by
   obtain ⟨_, C, fz, hb⟩ := h.2.2 ad e
   exact (Array.getElem?_eq_some_iff.1 hb).1
  have hq : ∀ ad, A = some ad → w'.heap[ad.block]? = w.heap[ad.block]? ∧ F' ad.block := fun ad e => hk _ (hl ad e) (h.2.2 ad e).1 (h.2.2 ad e).2
  refine ⟨h.1, ?_, fun ad e => ?_⟩
  ·intro j u hj
   obtain ⟨ad, e, hc⟩ := h.2.1 j u hj
   exact ⟨ad, e, by rw [← hc]; exact World.cell?_of_block (by rw [blk_add]; exact (hq ad e).1)⟩
  ·obtain ⟨hf, C, fz, hb⟩ := h.2.2 ad e
   exact ⟨(hq ad e).2, C, fz, by rw [(hq ad e).1]; exact hb⟩
 exact ⟨K, nk, ck, I, ni, ci, hc, ov h1, ov h2⟩
theorem NodesRd.nil (w : World) (F : Nat → Prop) : NodesRd w F [] [] := ⟨rfl, fun i nd hi => by simp at hi⟩
theorem NodesRd.app {w : World} {F : Nat → Prop} {xs ys : List Value} {N M : List GNode} (h : NodesRd w F xs N) (k : NodesRd w F ys M) : NodesRd w F (xs ++ ys) (N ++ M) := by
 refine ⟨by rw [List.length_append, List.length_append, h.1, k.1]; omega, fun i nd hi => ?_⟩
 by_cases hlt : i < N.length
 ·rw [List.getElem?_append_left hlt] at hi
  have h1 := h.2 i nd hi
  rw [List.drop_append_of_le_length (by rw [h.1]; omega), List.take_append_of_le_length (by rw [List.length_drop, h.1]; omega)]
  exact h1
 ·rw [List.getElem?_append_right (by omega)] at hi
  have e : (xs ++ ys).drop (i * 5) = ys.drop ((i - N.length) * 5) := by
   rw [List.drop_append, List.drop_of_length_le (by rw [h.1]; omega), List.nil_append, h.1]
   congr 1
   omega
  rw [e]
  exact k.2 _ nd hi
theorem NodesRd.one {w : World} {F : Nat → Prop} {cs : List Value} {nd : GNode} (h : NodeRd w F cs nd) : NodesRd w F cs [nd] := by
 have h1 := NodesRd.snoc (NodesRd.nil w F) h
 simpa using h1
theorem own_ints {w : World} {B : Nat} {F : Nat → Prop} {v : Value} {xs : List Int} (h : w.ownsRow B 3 1 v xs.length (I64 xs)) (hF : ∀ b, v.ownBlock = some b → F b) : ∃ A c, v = .slice A xs.length c ∧ IntsRd w F A xs.length xs := by
 obtain ⟨A, c, rfl, _, _, _, hr, _⟩ := own_rd h
 refine ⟨A, c, rfl, rfl, hr, fun ad e => ?_⟩
 subst e
 have hb : (Value.slice (some ad) xs.length c).ownBlock = some ad.block := rfl
 exact ⟨hF _ hb, own_kind h hb⟩
def headC (kd : Int) (od : Bool) (vk vi : Value) : List Value := [.int .i64 kd, .string ⟨#[]⟩, .bool od, vk, vi]
def ownF (B : Nat) (vk vi : Value) (b : Nat) : Prop := B ≤ b ∧ vk.ownBlock ≠ some b ∧ vi.ownBlock ≠ some b
structure Tab (w : World) (B : Nat) (kd : Int) (od : Bool) (v vk vi : Value) (ks is : List Int) (rest : List GNode) (ncs : List Value) : Prop where
 row : w.ownsRow B 60 5 v (1 + rest.length) (headC kd od vk vi ++ ncs)
 rk : w.ownsRow B 3 1 vk ks.length (I64 ks)
 ri : w.ownsRow B 3 1 vi is.length (I64 is)
 ne : ∀ b, vk.ownBlock = some b → vi.ownBlock ≠ some b
 rd : NodesRd w (ownF B vk vi) ncs rest
section
variable {w w' : World} {B : Nat} {kd : Int} {od : Bool} {v vk vi : Value} {ks is : List Int} {rest : List GNode} {ncs : List Value}
theorem Tab.keep (h : Tab w B kd od v vk vi ks is rest ncs) (hb : Below w.heap.size w w') : Tab w' B kd od v vk vi ks is rest ncs where
 row := own_below h.row hb
 rk := own_below h.rk hb
 ri := own_below h.ri hb
 ne := h.ne
 rd := h.rd.over fun b hl hF _ => ⟨hb.block b hl, hF⟩
theorem Tab.grd (h : Tab w B kd od v vk vi ks is rest ncs) : ∃ gb c, v = .slice (some ⟨gb, 0, none⟩) (1 + rest.length) c ∧ GRd w w.heap.size gb 0 (⟨kd, [], od, ks, is⟩ :: rest) := by
 obtain ⟨gb, c, rfl, _, _⟩ := own_some h.row (by omega)
 refine ⟨gb, c, rfl, ?_⟩
 obtain ⟨K, ck, hk, hkr⟩ := own_ints (F := fun _ => True) h.rk (fun _ _ => trivial)
 obtain ⟨I, ci, hi, hir⟩ := own_ints (F := fun _ => True) h.ri (fun _ _ => trivial)
 have hd : NodesRd w (fun _ => True) (headC kd od vk vi) [⟨kd, [], od, ks, is⟩] := NodesRd.one ⟨K, _, ck, I, _, ci, by rw [hk, hi]; rfl, hkr, hir⟩
 have hall : NodesRd w (fun _ => True) (headC kd od vk vi ++ ncs) (⟨kd, [], od, ks, is⟩ :: rest) := hd.app (h.rd.over fun b _ _ _ => ⟨rfl, trivial⟩)
 have hrow := h.row
 have el : 1 + rest.length = ((⟨kd, [], od, ks, is⟩ : GNode) :: rest).length := by simp; omega
 rw [el] at hrow
 exact grd_own hrow hall
theorem Tab.app {v' : Value} {ncs' : List Value} {more : List GNode} (h : Tab w B kd od v vk vi ks is rest ncs) (hBw : B ≤ w.heap.size) (hrow : w'.ownsRow B 60 5 v' (1 + rest.length + more.length) (headC kd od vk vi ++ ncs ++ ncs')) (hm : NodesRd w' (fun b => w.heap.size ≤ b) ncs' more) (hg : w.grownBy w' v.ownBlock) :
  Tab w' B kd od v' vk vi ks is (rest ++ more) (ncs ++ ncs') := by
 have hn : ∀ {b : Nat}, (∃ C fz, w.heap[b]? = some (.cells C 3 fz)) → some b ≠ v.ownBlock := fun {b} ⟨C, fz, hb⟩ e => by
  obtain ⟨C', fz', hb'⟩ := own_kind h.row e.symm
  exact absurd (cells_kind hb hb') (by decide)
 have ow : ∀ {u : Value} {n : Nat} {xs : List Value}, w.ownsRow B 3 1 u n xs → w'.ownsRow B 3 1 u n xs := fun ho => own_same ho fun b hb => hg.block b (ho.lt b hb).2 (hn (own_kind ho hb))
 have hlt : ∀ {u : Value} {n : Nat} {xs : List Value} {b : Nat}, w.ownsRow B 3 1 u n xs → w.heap.size ≤ b → u.ownBlock ≠ some b := fun ho hb e => by have := (ho.lt _ e).2; omega
 refine ⟨?_, ow h.rk, ow h.ri, h.ne, ?_⟩
 ·rw [List.length_append, ← Nat.add_assoc, ← List.append_assoc]; exact hrow
 ·exact (h.rd.over fun b hl hF hb => ⟨hg.block b hl (hn hb), hF⟩).app (hm.over fun b _ hF _ => ⟨rfl, by show _ ≤ _; omega, hlt h.rk hF, hlt h.ri hF⟩)
theorem Tab.push_k {w1 w3 : World} {v' : Value} {gb c : Nat} {x : Int} (h : Tab w B kd od (.slice (some ⟨gb, 0, none⟩) (1 + rest.length) c) vk vi ks is rest ncs) (hBw : B ≤ w.heap.size) (hb : Below w.heap.size w w1) (hg : w1.grownBy w3 vk.ownBlock) (hown : w3.ownsRow B 3 1 v' (ks.length + 1) (I64 ks ++ [.int .i64 x])) (hat : v'.ownBlock = vk.ownBlock ∨ v'.ownBlock = some w1.heap.size) :
  Tab (w3.setCell ⟨gb, 3, none⟩ v') B kd od (.slice (some ⟨gb, 0, none⟩) (1 + rest.length) c) v' vi (ks ++ [x]) is rest ncs ∧ Below B w (w3.setCell ⟨gb, 3, none⟩ v') := by
 have h1 := h.keep hb
 have hgB : B ≤ gb := (h.row.lt gb rfl).1
 have hrk := own_kind h.row (g := gb) rfl
 have hVn : vk.ownBlock ≠ some gb := fun e => by
  obtain ⟨C, fz, hc⟩ := own_kind h.rk e
  obtain ⟨C', fz', hc'⟩ := hrk
  exact absurd (cells_kind hc hc') (by decide)
 have hv'n : v'.ownBlock ≠ some gb := fun e => by
  rcases hat with e1 | e1
  ·exact hVn (e1 ▸ e)
  ·rw [e1] at e
   have := Option.some.inj e
   have := (h.row.lt gb rfl).2
   have := hb.size
   omega
 have hrow3 : w3.ownsRow B 60 5 (.slice (some ⟨gb, 0, none⟩) (1 + rest.length) c) (1 + rest.length) (headC kd od vk vi ++ ncs) := own_same h1.row fun b hb' => hg.block b (h1.row.lt b hb').2 (fun e => by have := Option.some.inj hb'; subst this; exact hVn e.symm)
 have hOne : ∀ b, vi.ownBlock = some b → v'.ownBlock ≠ some b := fun b e1 e2 => by
  rcases hat with e3 | e3
  ·rw [e3] at e2; exact h.ne b e2 e1
  ·rw [e3] at e2
   have := Option.some.inj e2
   have := (h.ri.lt b e1).2
   have := hb.size
   omega
 have hO3 : w3.ownsRow B 3 1 vi is.length (I64 is) := own_same h1.ri fun b hb' => hg.block b (h1.ri.lt b hb').2 (fun e => by exact h.ne b e.symm hb')
 have hBw1 : B ≤ w1.heap.size := Nat.le_trans hBw hb.size
 refine ⟨⟨?_, ?_, ?_, ?_, ?_⟩, ?_⟩
 ·have h2 := own_set1 hrow3 3 v'
  exact h2
 ·exact (by rw [I64_append, List.length_append, List.length_singleton]; exact own_far (p := ⟨gb, 3, none⟩) hown hv'n v')
 ·exact own_far (p := ⟨gb, 3, none⟩) hO3 (fun e => by obtain ⟨C, fz, hc⟩ := own_kind h.ri e; obtain ⟨C', fz', hc'⟩ := hrk; exact absurd (cells_kind hc hc') (by decide)) v'
 ·exact fun b e1 e2 => hOne b e2 e1
 ·refine h1.rd.over fun b hl hF hk => ⟨?_, hF.1, ?_, ?_⟩
  ·refine (setCell_heap_ne _ _ _ ?_).trans (hg.block b hl ?_)
   ·rintro rfl
    obtain ⟨C, fz, hc⟩ := hk
    obtain ⟨C', fz', hc'⟩ := hrk
    rw [← hb.block _ (h.row.lt _ rfl).2] at hc'
    exact absurd (cells_kind hc hc') (by decide)
   ·exact fun e => hF.2.1 e.symm
  ·exact fun e => by rcases hat with e3 | e3; exact hF.2.1 (e3 ▸ e); rw [e3] at e; have := Option.some.inj e; omega
  ·exact hF.2.2
 ·exact ((hb.mono hBw).trans (below_of_grown hg hBw1 (fun k e => (h.rk.lt k e).1))).setCell (p := ⟨gb, 3, none⟩) hgB v'
theorem Tab.push_i {w1 w3 : World} {v' : Value} {gb c : Nat} {x : Int} (h : Tab w B kd od (.slice (some ⟨gb, 0, none⟩) (1 + rest.length) c) vk vi ks is rest ncs) (hBw : B ≤ w.heap.size) (hb : Below w.heap.size w w1) (hg : w1.grownBy w3 vi.ownBlock) (hown : w3.ownsRow B 3 1 v' (is.length + 1) (I64 is ++ [.int .i64 x])) (hat : v'.ownBlock = vi.ownBlock ∨ v'.ownBlock = some w1.heap.size) :
  Tab (w3.setCell ⟨gb, 4, none⟩ v') B kd od (.slice (some ⟨gb, 0, none⟩) (1 + rest.length) c) vk v' ks (is ++ [x]) rest ncs ∧ Below B w (w3.setCell ⟨gb, 4, none⟩ v') := by
 have h1 := h.keep hb
 have hgB : B ≤ gb := (h.row.lt gb rfl).1
 have hrk := own_kind h.row (g := gb) rfl
 have hVn : vi.ownBlock ≠ some gb := fun e => by
  obtain ⟨C, fz, hc⟩ := own_kind h.ri e
  obtain ⟨C', fz', hc'⟩ := hrk
  exact absurd (cells_kind hc hc') (by decide)
 have hv'n : v'.ownBlock ≠ some gb := fun e => by
  rcases hat with e1 | e1
  ·exact hVn (e1 ▸ e)
  ·rw [e1] at e
   have := Option.some.inj e
   have := (h.row.lt gb rfl).2
   have := hb.size
   omega
 have hrow3 : w3.ownsRow B 60 5 (.slice (some ⟨gb, 0, none⟩) (1 + rest.length) c) (1 + rest.length) (headC kd od vk vi ++ ncs) := own_same h1.row fun b hb' => hg.block b (h1.row.lt b hb').2 (fun e => by have := Option.some.inj hb'; subst this; exact hVn e.symm)
 have hOne : ∀ b, vk.ownBlock = some b → v'.ownBlock ≠ some b := fun b e1 e2 => by
  rcases hat with e3 | e3
  ·rw [e3] at e2; exact h.ne b e1 e2
  ·rw [e3] at e2
   have := Option.some.inj e2
   have := (h.rk.lt b e1).2
   have := hb.size
   omega
 have hO3 : w3.ownsRow B 3 1 vk ks.length (I64 ks) := own_same h1.rk fun b hb' => hg.block b (h1.rk.lt b hb').2 (fun e => by exact h.ne b hb' e.symm)
 have hBw1 : B ≤ w1.heap.size := Nat.le_trans hBw hb.size
 refine ⟨⟨?_, ?_, ?_, ?_, ?_⟩, ?_⟩
 ·have h2 := own_set1 hrow3 4 v'
  exact h2
 ·exact own_far (p := ⟨gb, 4, none⟩) hO3 (fun e => by obtain ⟨C, fz, hc⟩ := own_kind h.rk e; obtain ⟨C', fz', hc'⟩ := hrk; exact absurd (cells_kind hc hc') (by decide)) v'
 ·exact (by rw [I64_append, List.length_append, List.length_singleton]; exact own_far (p := ⟨gb, 4, none⟩) hown hv'n v')
 ·exact fun b e1 e2 => hOne b e1 e2
 ·refine h1.rd.over fun b hl hF hk => ⟨?_, hF.1, ?_, ?_⟩
  ·refine (setCell_heap_ne _ _ _ ?_).trans (hg.block b hl ?_)
   ·rintro rfl
    obtain ⟨C, fz, hc⟩ := hk
    obtain ⟨C', fz', hc'⟩ := hrk
    rw [← hb.block _ (h.row.lt _ rfl).2] at hc'
    exact absurd (cells_kind hc hc') (by decide)
   ·exact fun e => hF.2.2 e.symm
  ·exact hF.2.1
  ·exact fun e => by rcases hat with e3 | e3; exact hF.2.2 (e3 ▸ e); rw [e3] at e; have := Option.some.inj e; omega
 ·exact ((hb.mono hBw).trans (below_of_grown hg hBw1 (fun k e => (h.ri.lt k e).1))).setCell (p := ⟨gb, 4, none⟩) hgB v'
end
end Go.Proofs.YtbhigefbihpnlaaGreatDoor
namespace Go.Proofs.YtbhigefbihpnlaaGreatDoor
open Go.RowKit
structure NmB where
  bat : Nat
  cn : Nat
  gr : Nat
  tp : Nat
  vi : Nat
  ou : Nat
  am : Nat
  om : Nat
  tb : Nat
  sb : Nat
def normFn (e : NmB) : Value := .func (.func 33) #[] #[.pointer (some ⟨e.bat, 0, none⟩), .pointer (some ⟨e.cn, 0, none⟩), .pointer (some ⟨e.gr, 0, none⟩), .pointer (some ⟨e.tp, 0, none⟩), .pointer (some ⟨e.vi, 0, none⟩), .pointer (some ⟨e.ou, 0, none⟩)]
def NmF (e : NmB) (b : Nat) : Prop := b = e.am ∨ b = e.cn ∨ b = e.om ∨ b = e.sb
def NmLt (e : NmB) (z : Nat) : Prop := e.bat < z ∧ e.cn < z ∧ e.gr < z ∧ e.tp < z ∧ e.vi < z ∧ e.ou < z ∧ e.am < z ∧ e.om < z ∧ e.tb < z ∧ e.sb < z
structure NmE (w0 w : World) (B g o c : Nat) (nodes : List GNode) (root : Int) (e : NmB) (R : Nat → Prop) (s : NSt) (ncs es : List Value) : Prop where
  be : Below B w0 w
  gd : GRd w B g o nodes
  bat : Arr w e.bat 44 [.slice (some ⟨e.am, 0, none⟩) nodes.length nodes.length]
  cn : Arr w e.cn 3 [.int .i64 (s.cnt : Int)]
  gr : Arr w e.gr 26 [.slice (some ⟨g, o, none⟩) nodes.length c, .int .i64 root]
  tp : Arr w e.tp 92 [.pointer (some ⟨e.tb, 0, none⟩)]
  vi : Arr w e.vi 94 [normFn e]
  ou : Arr w e.ou 26 [.slice (some ⟨e.om, 0, none⟩) nodes.length nodes.length, .int .i64 0]
  am : Arr w e.am 3 (I64 s.at_)
  om : Arr w e.om 60 ncs
  rd : NodesRd w R ncs s.out
  rl : ∀ b, R b → B ≤ b ∧ b ≠ e.am ∧ b ≠ e.cn
  tab : TabN w e.tb e.sb g o c nodes.length root es
  lo : ∀ b, NmF e b → B ≤ b
  d1 : e.am ≠ e.cn
  d2 : e.gr ≠ e.ou
  d3 : e.bat ≠ e.sb
def negs (l : List Int) : Nat := l.countP (fun x => decide (x < 0))
structure NmS (n : Nat) (s : NSt) (es : List Value) : Prop where
  al : s.at_.length = n
  ol : s.out.length = n
  el : es.length = n
  nil : ∀ k, k < n → s.at_.getD k 0 < 0 → es[k]? = some (.slice none 0 0)
  cc : s.cnt + negs s.at_ ≤ n
theorem negs_set {l : List Int} {k : Nat} {v : Int} (hk : k < l.length) (h : l.getD k 0 < 0) (hv : 0 ≤ v) : negs (l.set k v) + 1 = negs l := by
  unfold negs
  induction l generalizing k with
  | nil => simp at hk
  | cons a l ih =>
    cases k with
    | zero =>
      have ha : a < 0 := by simpa using h
      have hv' : ¬ v < 0 := by omega
      simp [ha, hv']
    | succ k =>
      have := ih (k := k) (by simpa using hk) (by simpa using h)
      simp only [List.set_cons_succ, List.countP_cons]
      omega
theorem arr_puts {g : Nat} {t : TypeId} : ∀ (vs : List Value) (o : Nat) {w : World} {xs : List Value}, Arr w g t xs → Arr (w.setCells g o vs) g t (setL xs o vs)
  | [], _, _, _, h => h
  | v :: r, o, _, _, h => arr_puts r (o + 1) (h.store o v)
section
variable {w0 w w' : World} {B g o c : Nat} {nodes : List GNode} {root : Int} {e : NmB} {R : Nat → Prop} {s : NSt} {ncs es : List Value}
theorem NmE.hi (h : NmE w0 w B g o c nodes root e R s ncs es) : ∀ b, NmF e b → b < w.heap.size := fun b hb => by
  rcases hb with rfl | rfl | rfl | rfl
  · exact h.am.lt
  · exact h.cn.lt
  · exact h.om.lt
  · exact h.tab.srt.lt
theorem NmE.fr (h : NmE w0 w B g o c nodes root e R s ncs es) : ¬ NmF e e.bat ∧ ¬ NmF e e.gr ∧ ¬ NmF e e.tp ∧ ¬ NmF e e.vi ∧ ¬ NmF e e.ou ∧ ¬ NmF e e.tb := by
  refine ⟨?_, ?_, ?_, ?_, ?_, ?_⟩
  · rintro (k | k | k | k)
    · exact kind_ne h.bat h.am (by decide) k
    · exact kind_ne h.bat h.cn (by decide) k
    · exact kind_ne h.bat h.om (by decide) k
    · exact h.d3 k
  · rintro (k | k | k | k)
    · exact kind_ne h.gr h.am (by decide) k
    · exact kind_ne h.gr h.cn (by decide) k
    · exact kind_ne h.gr h.om (by decide) k
    · exact kind_ne h.gr h.tab.srt (by decide) k
  · rintro (k | k | k | k)
    · exact kind_ne h.tp h.am (by decide) k
    · exact kind_ne h.tp h.cn (by decide) k
    · exact kind_ne h.tp h.om (by decide) k
    · exact kind_ne h.tp h.tab.srt (by decide) k
  · rintro (k | k | k | k)
    · exact kind_ne h.vi h.am (by decide) k
    · exact kind_ne h.vi h.cn (by decide) k
    · exact kind_ne h.vi h.om (by decide) k
    · exact kind_ne h.vi h.tab.srt (by decide) k
  · rintro (k | k | k | k)
    · exact kind_ne h.ou h.am (by decide) k
    · exact kind_ne h.ou h.cn (by decide) k
    · exact kind_ne h.ou h.om (by decide) k
    · exact kind_ne h.ou h.tab.srt (by decide) k
  · rintro (k | k | k | k)
    · exact kind_ne h.tab.tab h.am (by decide) k
    · exact kind_ne h.tab.tab h.cn (by decide) k
    · exact kind_ne h.tab.tab h.om (by decide) k
    · exact kind_ne h.tab.tab h.tab.srt (by decide) k
theorem NmE.below (h : NmE w0 w B g o c nodes root e R s ncs es) {z : Nat} (hb : Below z w w') (hz : ∀ b, b < w.heap.size → B ≤ b → b < z) (hBz : B ≤ z) : NmE w0 w' B g o c nodes root e R s ncs es := by
  have hk : ∀ {b : Nat} {t : TypeId} {xs : List Value}, Arr w b t xs → b < z → Arr w' b t xs := fun ha hl => ha.below hb hl
  have hz' : ∀ b, b < w.heap.size → b < z := fun b hb => by
    by_cases h1 : B ≤ b
    · exact hz b hb h1
    · omega
  exact { be := h.be.trans (hb.mono hBz)
          gd := h.gd.below hb hBz
          bat := hk h.bat (hz' _ h.bat.lt)
          cn := hk h.cn (hz' _ h.cn.lt)
          gr := hk h.gr (hz' _ h.gr.lt)
          tp := hk h.tp (hz' _ h.tp.lt)
          vi := hk h.vi (hz' _ h.vi.lt)
          ou := hk h.ou (hz' _ h.ou.lt)
          am := hk h.am (hz' _ h.am.lt)
          om := hk h.om (hz' _ h.om.lt)
          rd := h.rd.over fun b hl hF _ => ⟨hb.block b (hz' b hl), hF⟩
          tab := ⟨hk h.tab.tab (hz' _ h.tab.tab.lt), hk h.tab.srt (hz' _ h.tab.srt.lt)⟩
          rl := h.rl
          lo := h.lo
          d1 := h.d1
          d2 := h.d2
          d3 := h.d3 }
theorem NmE.kept (h : NmE w0 w B g o c nodes root e R s ncs es) (hb : Below w.heap.size w w') : NmE w0 w' B g o c nodes root e R s ncs es := h.below hb (fun _ h _ => h) h.gd.2.1
theorem NmE.blt (h : NmE w0 w B g o c nodes root e R s ncs es) : NmLt e w.heap.size := ⟨h.bat.lt, h.cn.lt, h.gr.lt, h.tp.lt, h.vi.lt, h.ou.lt, h.am.lt, h.om.lt, h.tab.tab.lt, h.tab.srt.lt⟩
theorem NmE.rows (h : NmE w0 w B g o c nodes root e R s ncs es) {R' : Nat → Prop} (h1 : ∀ b, b < w.heap.size → R b → R' b) (h2 : ∀ b, R' b → B ≤ b ∧ b ≠ e.am ∧ b ≠ e.cn) : NmE w0 w B g o c nodes root e R' s ncs es :=
  { h with rd := h.rd.over fun b hl hF _ => ⟨rfl, h1 b hl hF⟩, rl := h2 }
theorem NmE.far (h : NmE w0 w B g o c nodes root e R s ncs es) {z : Nat} {r : Option Nat} (hg : w.grownBy w' r) (hr : ∀ b, r = some b → z ≤ b ∧ (¬ R b ∨ ∃ t cs, Arr w b t cs ∧ t ≠ 3)) (hz : NmLt e z) (hBz : B ≤ z) : NmE w0 w' B g o c nodes root e R s ncs es := by
  obtain ⟨z1, z2, z3, z4, z5, z6, z7, z8, z9, z10⟩ := hz
  have hk : ∀ {b : Nat} {t : TypeId} {xs : List Value}, Arr w b t xs → b < z → Arr w' b t xs := fun ha hl => ha.grown hg (fun e => by have := (hr _ e.symm).1; omega)
  have hB : ∀ b, r = some b → B ≤ b := fun b e => by have := (hr b e).1; omega
  exact { be := h.be.trans (below_of_grown hg h.gd.2.1 hB)
          gd := h.gd.grownO hg hB
          bat := hk h.bat z1
          cn := hk h.cn z2
          gr := hk h.gr z3
          tp := hk h.tp z4
          vi := hk h.vi z5
          ou := hk h.ou z6
          am := hk h.am z7
          om := hk h.om z8
          rd := h.rd.over fun b hl hF hi => ⟨hg.block b hl (fun e => (hr b e.symm).2.elim (fun k => k hF) (fun ⟨t, cs, ha, ht⟩ => by
            obtain ⟨C, fz, hc⟩ := hi
            exact ht (cells_kind ha hc))), hF⟩
          tab := ⟨hk h.tab.tab z9, hk h.tab.srt z10⟩
          rl := h.rl
          lo := h.lo
          d1 := h.d1
          d2 := h.d2
          d3 := h.d3 }
theorem NmE.set_am (h : NmE w0 w B g o c nodes root e R s ncs es) (k : Nat) (v : Int) : NmE w0 (w.setCell ⟨e.am, k, none⟩ (.int .i64 v)) B g o c nodes root e R { s with at_ := s.at_.set k v } ncs es := by
  obtain ⟨f1, f2, f3, f4, f5, f6⟩ := h.fr
  have hB := h.lo _ (.inl rfl)
  exact { be := h.be.setCell (p := ⟨e.am, k, none⟩) hB _
          gd := h.gd.grown (grown_set w ⟨e.am, k, none⟩ _) hB
          bat := h.bat.far (p := ⟨e.am, k, none⟩) (fun e => f1 (.inl e)) _
          cn := h.cn.far (p := ⟨e.am, k, none⟩) (Ne.symm h.d1) _
          gr := h.gr.far (p := ⟨e.am, k, none⟩) (fun e => f2 (.inl e)) _
          tp := h.tp.far (p := ⟨e.am, k, none⟩) (fun e => f3 (.inl e)) _
          vi := h.vi.far (p := ⟨e.am, k, none⟩) (fun e => f4 (.inl e)) _
          ou := h.ou.far (p := ⟨e.am, k, none⟩) (fun e => f5 (.inl e)) _
          am := by have := h.am.store k (.int .i64 v); rw [I64_set] at this; exact this
          om := h.om.far (p := ⟨e.am, k, none⟩) (kind_ne h.om h.am (by decide)) _
          rd := h.rd.over fun b _ hF _ => ⟨setCell_heap_ne _ _ _ (h.rl b hF).2.1, hF⟩
          tab := ⟨h.tab.tab.far (p := ⟨e.am, k, none⟩) (fun e => f6 (.inl e)) _, h.tab.srt.far (p := ⟨e.am, k, none⟩) (kind_ne h.tab.srt h.am (by decide)) _⟩
          rl := h.rl
          lo := h.lo
          d1 := h.d1
          d2 := h.d2
          d3 := h.d3 }
theorem NmE.set_cn (h : NmE w0 w B g o c nodes root e R s ncs es) (v : Nat) : NmE w0 (w.setCell ⟨e.cn, 0, none⟩ (.int .i64 (v : Int))) B g o c nodes root e R { s with cnt := v } ncs es := by
  obtain ⟨f1, f2, f3, f4, f5, f6⟩ := h.fr
  have hB := h.lo _ (.inr (.inl rfl))
  exact { be := h.be.setCell (p := ⟨e.cn, 0, none⟩) hB _
          gd := h.gd.grown (grown_set w ⟨e.cn, 0, none⟩ _) hB
          bat := h.bat.far (p := ⟨e.cn, 0, none⟩) (fun e => f1 (.inr (.inl e))) _
          cn := h.cn.store 0 _
          gr := h.gr.far (p := ⟨e.cn, 0, none⟩) (fun e => f2 (.inr (.inl e))) _
          tp := h.tp.far (p := ⟨e.cn, 0, none⟩) (fun e => f3 (.inr (.inl e))) _
          vi := h.vi.far (p := ⟨e.cn, 0, none⟩) (fun e => f4 (.inr (.inl e))) _
          ou := h.ou.far (p := ⟨e.cn, 0, none⟩) (fun e => f5 (.inr (.inl e))) _
          am := h.am.far (p := ⟨e.cn, 0, none⟩) h.d1 _
          om := h.om.far (p := ⟨e.cn, 0, none⟩) (kind_ne h.om h.cn (by decide)) _
          rd := h.rd.over fun b _ hF _ => ⟨setCell_heap_ne _ _ _ (h.rl b hF).2.2, hF⟩
          tab := ⟨h.tab.tab.far (p := ⟨e.cn, 0, none⟩) (fun e => f6 (.inr (.inl e))) _, h.tab.srt.far (p := ⟨e.cn, 0, none⟩) (kind_ne h.tab.srt h.cn (by decide)) _⟩
          rl := h.rl
          lo := h.lo
          d1 := h.d1
          d2 := h.d2
          d3 := h.d3 }
theorem NmE.set_sb (h : NmE w0 w B g o c nodes root e R s ncs es) {es' : List Value} (hg : w.grownBy w' (some e.sb)) (hA : Arr w' e.sb 44 es') : NmE w0 w' B g o c nodes root e R s ncs es' := by
  obtain ⟨f1, f2, f3, f4, f5, f6⟩ := h.fr
  have hB := h.lo _ (.inr (.inr (.inr rfl)))
  have k4 : ∀ {x : Nat}, ¬ NmF e x → some x ≠ some e.sb := fun hf => some_ne (fun k => hf (.inr (.inr (.inr k))))
  exact { be := below_row h.be hg h.gd.2.1 hB
          gd := h.gd.grown hg hB
          bat := h.bat.grown hg (k4 f1)
          cn := h.cn.grown hg (some_ne (kind_ne h.cn h.tab.srt (by decide)))
          gr := h.gr.grown hg (k4 f2)
          tp := h.tp.grown hg (k4 f3)
          vi := h.vi.grown hg (k4 f4)
          ou := h.ou.grown hg (k4 f5)
          am := h.am.grown hg (some_ne (kind_ne h.am h.tab.srt (by decide)))
          om := h.om.grown hg (some_ne (kind_ne h.om h.tab.srt (by decide)))
          rd := h.rd.over fun b hl hF hi => ⟨hg.block b hl (fun k => by
            have := Option.some.inj k
            subst this
            obtain ⟨C, fz, hc⟩ := hi
            exact absurd (cells_kind hc h.tab.srt) (by decide)), hF⟩
          tab := ⟨h.tab.tab.grown hg (k4 f6), hA⟩
          rl := h.rl
          lo := h.lo
          d1 := h.d1
          d2 := h.d2
          d3 := h.d3 }
theorem NmE.set_om (h : NmE w0 w B g o c nodes root e R s ncs es) {i : Nat} (hi : i < s.out.length) {cs : List Value} {nd : GNode} (hn : NodeRd w R cs nd) : NmE w0 (w.setCells e.om (i * 5) cs) B g o c nodes root e R { s with out := s.out.set i nd } (setL ncs (i * 5) cs) es := by
  obtain ⟨f1, f2, f3, f4, f5, f6⟩ := h.fr
  have hB := h.lo _ (.inr (.inr (.inl rfl)))
  have hbl : ∀ b, b ≠ e.om → (w.setCells e.om (i * 5) cs).heap[b]? = w.heap[b]? := fun b hb => heap_setCells e.om cs _ w hb
  obtain ⟨q1, q2, q3⟩ := same_setCells e.om cs (i * 5) w
  have hg : w.grownBy (w.setCells e.om (i * 5) cs) (some e.om) := ⟨q1, q2, q3, by rw [size_setCells]; exact Nat.le_refl _, fun j _ hj => hbl j (fun e => hj (by rw [e]))⟩
  have k4 : ∀ {x : Nat}, ¬ NmF e x → some x ≠ some e.om := fun hf => some_ne (fun k => hf (.inr (.inr (.inl k))))
  exact { be := below_row h.be hg h.gd.2.1 hB
          gd := h.gd.grown hg hB
          bat := h.bat.grown hg (k4 f1)
          cn := h.cn.grown hg (some_ne (kind_ne h.cn h.om (by decide)))
          gr := h.gr.grown hg (k4 f2)
          tp := h.tp.grown hg (k4 f3)
          vi := h.vi.grown hg (k4 f4)
          ou := h.ou.grown hg (k4 f5)
          am := h.am.grown hg (some_ne (kind_ne h.am h.om (by decide)))
          om := arr_puts cs (i * 5) h.om
          rd := (NodesRd.put (st := ⟨[], s.out, []⟩) h.rd hi hn).over fun b hl hF hi => ⟨hbl b (fun k => by
            subst k
            obtain ⟨C, fz, hc⟩ := hi
            exact absurd (cells_kind hc h.om) (by decide)), hF⟩
          tab := ⟨h.tab.tab.grown hg (k4 f6), h.tab.srt.grown hg (some_ne (kind_ne h.tab.srt h.om (by decide)))⟩
          rl := h.rl
          lo := h.lo
          d1 := h.d1
          d2 := h.d2
          d3 := h.d3 }
end
end Go.Proofs.YtbhigefbihpnlaaGreatDoor
