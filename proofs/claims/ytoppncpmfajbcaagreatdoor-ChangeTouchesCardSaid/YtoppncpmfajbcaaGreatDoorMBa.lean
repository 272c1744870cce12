/- A graph under construction in memory: its head with the rows of keys and items, and the nodes behind it. -/
import Derived.Test.YtoppncpmfajbcaaGreatDoorMAy
import Derived.Test.YtoppncpmfajbcaaGreatDoorMAz
import Derived.Test.YtoppncpmfajbcaaGreatDoorMAq
set_option linter.unusedVariables false
set_option linter.unusedSimpArgs false
set_option linter.defProp false
set_option linter.constructorNameAsVariable false
namespace Go.Proofs.YtoppncpmfajbcaaGreatDoor
open Go.RowKit
def shiftN (d : Nat) (nd : GNode) : GNode := { nd with keys := nd.keys.map (· + (d : Int)), items := nd.items.map (· + (d : Int)) }
theorem GRd.grownO {w w' : World} {B g o : Nat} {r : Option Nat} {nodes : List GNode} (h : GRd w B g o nodes) (hb : w.grownBy w' r) (hB : ∀ b, r = some b → B ≤ b) : GRd w' B g o nodes :=
 ⟨h.1, Nat.le_trans h.2.1 hb.size, fun i nd hi => (h.2.2 i nd hi).same h.1 fun a ha u hu => hb.cell hu (by intro e; have := hB _ e.symm; omega)⟩
def mload (t : TypeId) (x : Operand) : Op := .load t x
@[go_sem] theorem mload_is (t : TypeId) (x : Operand) : mload t x = .load t x := rfl
theorem mload_eq (t : TypeId) (x : Operand) : Op.load t x = mload t x := rfl
theorem IntsRd.over {w w' : World} {F F' : Nat → Prop} {A : Option Addr} {n : Nat} {xs : List Int} (h : IntsRd w F A n xs) (hk : ∀ b, b < w.heap.size → F b → w'.heap[b]? = w.heap[b]? ∧ F' b) : IntsRd w' F' A n xs := by
 have hl : ∀ ad, A = some ad → ad.block < w.heap.size := fun ad e => by
  obtain ⟨_, C, fz, hb⟩ := h.2.2 ad e
  exact (Array.getElem?_eq_some_iff.1 hb).1
 refine ⟨h.1, ?_, fun ad e => ?_⟩
 ·intro j u hj
  obtain ⟨ad, e, hc⟩ := h.2.1 j u hj
  exact ⟨ad, e, by rw [← hc]; exact World.cell?_of_block (by rw [blk_add]; exact (hk _ (hl ad e) (h.2.2 ad e).1).1)⟩
 ·obtain ⟨hf, C, fz, hb⟩ := h.2.2 ad e
  exact ⟨(hk _ (hl ad e) hf).2, C, fz, by rw [(hk _ (hl ad e) hf).1]; exact hb⟩
theorem NodesRd.over {w w' : World} {F F' : Nat → Prop} {ncs : List Value} {nodes : List GNode} (h : NodesRd w F ncs nodes) (hk : ∀ b, b < w.heap.size → F b → (∃ C fz, w.heap[b]? = some (.cells C 3 fz)) → w'.heap[b]? = w.heap[b]? ∧ F' b) : NodesRd w' F' ncs nodes := by
 refine ⟨h.1, fun i nd hi => ?_⟩
 obtain ⟨K, nk, ck, I, ni, ci, hc, h1, h2⟩ := h.2 i nd hi
 have ov : ∀ {A : Option Addr} {n : Nat} {xs : List Int}, IntsRd w F A n xs → IntsRd w' F' A n xs := fun {A n xs} h => by
  have hl : ∀ ad, A = some ad → ad.block < w.heap.size := fun ad e => by
   obtain ⟨_, C, fz, hb⟩ := h.2.2 ad e
   exact (Array.getElem?_eq_some_iff.1 hb).1
  have hq : ∀ ad, A = some ad → w'.heap[ad.block]? = w.heap[ad.block]? ∧ F' ad.block := fun ad e => hk _ (hl ad e) (h.2.2 ad e).1 (h.2.2 ad e).2
  refine ⟨h.1, ?_, fun ad e => ?_⟩
  ·intro j u hj
   obtain ⟨ad, e, hc⟩ := h.2.1 j u hj
   exact ⟨ad, e, by rw [← hc]; exact World.cell?_of_block (by rw [blk_add]; exact (hq ad e).1)⟩
  ·obtain ⟨hf, C, fz, hb⟩ := h.2.2 ad e
   exact ⟨(hq ad e).2, C, fz, by rw [(hq ad e).1]; exact hb⟩
 exact ⟨K, nk, ck, I, ni, ci, hc, ov h1, ov h2⟩
theorem NodesRd.nil (w : World) (F : Nat → Prop) : NodesRd w F [] [] := ⟨rfl, fun i nd hi => by simp at hi⟩
theorem NodesRd.app {w : World} {F : Nat → Prop} {xs ys : List Value} {N M : List GNode} (h : NodesRd w F xs N) (k : NodesRd w F ys M) : NodesRd w F (xs ++ ys) (N ++ M) := by
 refine ⟨by rw [List.length_append, List.length_append, h.1, k.1]; omega, fun i nd hi => ?_⟩
 by_cases hlt : i < N.length
 ·rw [List.getElem?_append_left hlt] at hi
  have h1 := h.2 i nd hi
  rw [List.drop_append_of_le_length (by rw [h.1]; omega), List.take_append_of_le_length (by rw [List.length_drop, h.1]; omega)]
  exact h1
 ·rw [List.getElem?_append_right (by omega)] at hi
  have e : (xs ++ ys).drop (i * 5) = ys.drop ((i - N.length) * 5) := by
   rw [List.drop_append, List.drop_of_length_le (by rw [h.1]; omega), List.nil_append, h.1]
   congr 1
   omega
  rw [e]
  exact k.2 _ nd hi
theorem NodesRd.one {w : World} {F : Nat → Prop} {cs : List Value} {nd : GNode} (h : NodeRd w F cs nd) : NodesRd w F cs [nd] := by
 have h1 := NodesRd.snoc (NodesRd.nil w F) h
 simpa using h1
theorem own_ints {w : World} {B : Nat} {F : Nat → Prop} {v : Value} {xs : List Int} (h : w.ownsRow B 3 1 v xs.length (I64 xs)) (hF : ∀ b, v.ownBlock = some b → F b) : ∃ A c, v = .slice A xs.length c ∧ IntsRd w F A xs.length xs := by
 obtain ⟨A, c, rfl, _, _, _, hr, _⟩ := own_rd h
 refine ⟨A, c, rfl, rfl, hr, fun ad e => ?_⟩
 subst e
 have hb : (Value.slice (some ad) xs.length c).ownBlock = some ad.block := rfl
 exact ⟨hF _ hb, own_kind h hb⟩
def headC (kd : Int) (od : Bool) (vk vi : Value) : List Value := [.int .i64 kd, .string ⟨#[]⟩, .bool od, vk, vi]
def ownF (B : Nat) (vk vi : Value) (b : Nat) : Prop := B ≤ b ∧ vk.ownBlock ≠ some b ∧ vi.ownBlock ≠ some b
structure Tab (w : World) (B : Nat) (kd : Int) (od : Bool) (v vk vi : Value) (ks is : List Int) (rest : List GNode) (ncs : List Value) : Prop where
 row : w.ownsRow B 34 5 v (1 + rest.length) (headC kd od vk vi ++ ncs)
 rk : w.ownsRow B 3 1 vk ks.length (I64 ks)
 ri : w.ownsRow B 3 1 vi is.length (I64 is)
 ne : ∀ b, vk.ownBlock = some b → vi.ownBlock ≠ some b
 rd : NodesRd w (ownF B vk vi) ncs rest
section
variable {w w' : World} {B : Nat} {kd : Int} {od : Bool} {v vk vi : Value} {ks is : List Int} {rest : List GNode} {ncs : List Value}
theorem Tab.keep (h : Tab w B kd od v vk vi ks is rest ncs) (hb : Below w.heap.size w w') : Tab w' B kd od v vk vi ks is rest ncs where
 row := own_below h.row hb
 rk := own_below h.rk hb
 ri := own_below h.ri hb
 ne := h.ne
 rd := h.rd.over fun b hl hF _ => ⟨hb.block b hl, hF⟩
theorem Tab.grd (h : Tab w B kd od v vk vi ks is rest ncs) : ∃ gb c, v = .slice (some ⟨gb, 0, none⟩) (1 + rest.length) c ∧ GRd w w.heap.size gb 0 (⟨kd, [], od, ks, is⟩ :: rest) := by
 obtain ⟨gb, c, rfl, _, _⟩ := own_some h.row (by omega)
 refine ⟨gb, c, rfl, ?_⟩
 obtain ⟨K, ck, hk, hkr⟩ := own_ints (F := fun _ => True) h.rk (fun _ _ => trivial)
 obtain ⟨I, ci, hi, hir⟩ := own_ints (F := fun _ => True) h.ri (fun _ _ => trivial)
 have hd : NodesRd w (fun _ => True) (headC kd od vk vi) [⟨kd, [], od, ks, is⟩] := NodesRd.one ⟨K, _, ck, I, _, ci, by rw [hk, hi]; rfl, hkr, hir⟩
 have hall : NodesRd w (fun _ => True) (headC kd od vk vi ++ ncs) (⟨kd, [], od, ks, is⟩ :: rest) := hd.app (h.rd.over fun b _ _ _ => ⟨rfl, trivial⟩)
 have hrow := h.row
 have el : 1 + rest.length = ((⟨kd, [], od, ks, is⟩ : GNode) :: rest).length := by simp; omega
 rw [el] at hrow
 exact grd_own hrow hall
theorem Tab.app {v' : Value} {ncs' : List Value} {more : List GNode} (h : Tab w B kd od v vk vi ks is rest ncs) (hBw : B ≤ w.heap.size) (hrow : w'.ownsRow B 34 5 v' (1 + rest.length + more.length) (headC kd od vk vi ++ ncs ++ ncs')) (hm : NodesRd w' (fun b => w.heap.size ≤ b) ncs' more) (hg : w.grownBy w' v.ownBlock) :
  Tab w' B kd od v' vk vi ks is (rest ++ more) (ncs ++ ncs') := by
 have hn : ∀ {b : Nat}, (∃ C fz, w.heap[b]? = some (.cells C 3 fz)) → some b ≠ v.ownBlock := fun {b} ⟨C, fz, hb⟩ e => by
  obtain ⟨C', fz', hb'⟩ := own_kind h.row e.symm
  exact absurd (cells_kind hb hb') (by decide)
 have ow : ∀ {u : Value} {n : Nat} {xs : List Value}, w.ownsRow B 3 1 u n xs → w'.ownsRow B 3 1 u n xs := fun ho => own_same ho fun b hb => hg.block b (ho.lt b hb).2 (hn (own_kind ho hb))
 have hlt : ∀ {u : Value} {n : Nat} {xs : List Value} {b : Nat}, w.ownsRow B 3 1 u n xs → w.heap.size ≤ b → u.ownBlock ≠ some b := fun ho hb e => by have := (ho.lt _ e).2; omega
 refine ⟨?_, ow h.rk, ow h.ri, h.ne, ?_⟩
 ·rw [List.length_append, ← Nat.add_assoc, ← List.append_assoc]; exact hrow
 ·exact (h.rd.over fun b hl hF hb => ⟨hg.block b hl (hn hb), hF⟩).app (hm.over fun b _ hF _ => ⟨rfl, by show _ ≤ _; omega, hlt h.rk hF, hlt h.ri hF⟩)
theorem Tab.push_k {w1 w3 : World} {v' : Value} {gb c : Nat} {x : Int} (h : Tab w B kd od (.slice (some ⟨gb, 0, none⟩) (1 + rest.length) c) vk vi ks is rest ncs) (hBw : B ≤ w.heap.size) (hb : Below w.heap.size w w1) (hg : w1.grownBy w3 vk.ownBlock) (hown : w3.ownsRow B 3 1 v' (ks.length + 1) (I64 ks ++ [.int .i64 x])) (hat : v'.ownBlock = vk.ownBlock ∨ v'.ownBlock = some w1.heap.size) :
  Tab (w3.setCell ⟨gb, 3, none⟩ v') B kd od (.slice (some ⟨gb, 0, none⟩) (1 + rest.length) c) v' vi (ks ++ [x]) is rest ncs ∧ Below B w (w3.setCell ⟨gb, 3, none⟩ v') := by
 have h1 := h.keep hb
 have hgB : B ≤ gb := (h.row.lt gb rfl).1
 have hrk := own_kind h.row (g := gb) rfl
 have hVn : vk.ownBlock ≠ some gb := fun e => by
  obtain ⟨C, fz, hc⟩ := own_kind h.rk e
  obtain ⟨C', fz', hc'⟩ := hrk
  exact absurd (cells_kind hc hc') (by decide)
 have hv'n : v'.ownBlock ≠ some gb := fun e => by
  rcases hat with e1 | e1
  ·exact hVn (e1 ▸ e)
  ·rw [e1] at e
   have := Option.some.inj e
   have := (h.row.lt gb rfl).2
   have := hb.size
   omega
 have hrow3 : w3.ownsRow B 34 5 (.slice (some ⟨gb, 0, none⟩) (1 + rest.length) c) (1 + rest.length) (headC kd od vk vi ++ ncs) := own_same h1.row fun b hb' => hg.block b (h1.row.lt b hb').2 (fun e => by have := Option.some.inj hb'; subst this; exact hVn e.symm)
 have hOne : ∀ b, vi.ownBlock = some b → v'.ownBlock ≠ some b := fun b e1 e2 => by
  rcases hat with e3 | e3
  ·rw [e3] at e2; exact h.ne b e2 e1
  ·rw [e3] at e2
   have := Option.some.inj e2
   have := (h.ri.lt b e1).2
   have := hb.size
   omega
 have hO3 : w3.ownsRow B 3 1 vi is.length (I64 is) := own_same h1.ri fun b hb' => hg.block b (h1.ri.lt b hb').2 (fun e => by exact h.ne b e.symm hb')
 have hBw1 : B ≤ w1.heap.size := Nat.le_trans hBw hb.size
 refine ⟨⟨?_, ?_, ?_, ?_, ?_⟩, ?_⟩
 ·have h2 := own_set1 hrow3 3 v'
  exact h2
 ·exact (by rw [I64_append, List.length_append, List.length_singleton]; exact own_far (p := ⟨gb, 3, none⟩) hown hv'n v')
 ·exact own_far (p := ⟨gb, 3, none⟩) hO3 (fun e => by obtain ⟨C, fz, hc⟩ := own_kind h.ri e; obtain ⟨C', fz', hc'⟩ := hrk; exact absurd (cells_kind hc hc') (by decide)) v'
 ·exact fun b e1 e2 => hOne b e2 e1
 ·refine h1.rd.over fun b hl hF hk => ⟨?_, hF.1, ?_, ?_⟩
  ·refine (setCell_heap_ne _ _ _ ?_).trans (hg.block b hl ?_)
   ·rintro rfl
    obtain ⟨C, fz, hc⟩ := hk
    obtain ⟨C', fz', hc'⟩ := hrk
    rw [← hb.block _ (h.row.lt _ rfl).2] at hc'
    exact absurd (cells_kind hc hc') (by decide)
   ·exact fun e => hF.2.1 e.symm
  ·exact fun e => by rcases hat with e3 | e3; exact hF.2.1 (e3 ▸ e); rw [e3] at e; have := Option.some.inj e; omega
  ·exact hF.2.2
 ·exact ((hb.mono hBw).trans (below_of_grown hg hBw1 (fun k e => (h.rk.lt k e).1))).setCell (p := ⟨gb, 3, none⟩) hgB v'
theorem Tab.push_i {w1 w3 : World} {v' : Value} {gb c : Nat} {x : Int} (h : Tab w B kd od (.slice (some ⟨gb, 0, none⟩) (1 + rest.length) c) vk vi ks is rest ncs) (hBw : B ≤ w.heap.size) (hb : Below w.heap.size w w1) (hg : w1.grownBy w3 vi.ownBlock) (hown : w3.ownsRow B 3 1 v' (is.length + 1) (I64 is ++ [.int .i64 x])) (hat : v'.ownBlock = vi.ownBlock ∨ v'.ownBlock = some w1.heap.size) :
  Tab (w3.setCell ⟨gb, 4, none⟩ v') B kd od (.slice (some ⟨gb, 0, none⟩) (1 + rest.length) c) vk v' ks (is ++ [x]) rest ncs ∧ Below B w (w3.setCell ⟨gb, 4, none⟩ v') := by
 have h1 := h.keep hb
 have hgB : B ≤ gb := (h.row.lt gb rfl).1
 have hrk := own_kind h.row (g := gb) rfl
 have hVn : vi.ownBlock ≠ some gb := fun e => by
  obtain ⟨C, fz, hc⟩ := own_kind h.ri e
  obtain ⟨C', fz', hc'⟩ := hrk
  exact absurd (cells_kind hc hc') (by decide)
 have hv'n : v'.ownBlock ≠ some gb := fun e => by
  rcases hat with e1 | e1
  ·exact hVn (e1 ▸ e)
  ·rw [e1] at e
   have := Option.some.inj e
   have := (h.row.lt gb rfl).2
   have := hb.size
   omega
 have hrow3 : w3.ownsRow B 34 5 (.slice (some ⟨gb, 0, none⟩) (1 + rest.length) c) (1 + rest.length) (headC kd od vk vi ++ ncs) := own_same h1.row fun b hb' => hg.block b (h1.row.lt b hb').2 (fun e => by have := Option.some.inj hb'; subst this; exact hVn e.symm)
 have hOne : ∀ b, vk.ownBlock = some b → v'.ownBlock ≠ some b := fun b e1 e2 => by
  rcases hat with e3 | e3
  ·rw [e3] at e2; exact h.ne b e1 e2
  ·rw [e3] at e2
   have := Option.some.inj e2
   have := (h.rk.lt b e1).2
   have := hb.size
   omega
 have hO3 : w3.ownsRow B 3 1 vk ks.length (I64 ks) := own_same h1.rk fun b hb' => hg.block b (h1.rk.lt b hb').2 (fun e => by exact h.ne b hb' e.symm)
 have hBw1 : B ≤ w1.heap.size := Nat.le_trans hBw hb.size
 refine ⟨⟨?_, ?_, ?_, ?_, ?_⟩, ?_⟩
 ·have h2 := own_set1 hrow3 4 v'
  exact h2
 ·exact own_far (p := ⟨gb, 4, none⟩) hO3 (fun e => by obtain ⟨C, fz, hc⟩ := own_kind h.rk e; obtain ⟨C', fz', hc'⟩ := hrk; exact absurd (cells_kind hc hc') (by decide)) v'
 ·exact (by rw [I64_append, List.length_append, List.length_singleton]; exact own_far (p := ⟨gb, 4, none⟩) hown hv'n v')
 ·exact fun b e1 e2 => hOne b e1 e2
 ·refine h1.rd.over fun b hl hF hk => ⟨?_, hF.1, ?_, ?_⟩
  ·refine (setCell_heap_ne _ _ _ ?_).trans (hg.block b hl ?_)
   ·rintro rfl
    obtain ⟨C, fz, hc⟩ := hk
    obtain ⟨C', fz', hc'⟩ := hrk
    rw [← hb.block _ (h.row.lt _ rfl).2] at hc'
    exact absurd (cells_kind hc hc') (by decide)
   ·exact fun e => hF.2.2 e.symm
  ·exact hF.2.1
  ·exact fun e => by rcases hat with e3 | e3; exact hF.2.2 (e3 ▸ e); rw [e3] at e; have := Option.some.inj e; omega
 ·exact ((hb.mono hBw).trans (below_of_grown hg hBw1 (fun k e => (h.ri.lt k e).1))).setCell (p := ⟨gb, 4, none⟩) hgB v'
end
end Go.Proofs.YtoppncpmfajbcaaGreatDoor
namespace Go.Proofs.YtoppncpmfajbcaaGreatDoor
open Go.RowKit
set_option maxRecDepth 20000 in
set_option maxHeartbeats 4000000 in
theorem number_any (text : List Nat) (w : World) : Calls Tryz.prog 8 #[.string (mks text)] w (LeafR w 2 text (fun g => g)) := by
 have h1 : Hid (Arr (w.alloc (.cells #[.slice none 0 0, .int .i64 0] 26)) w.heap.size 26 [.slice none 0 0, .int .i64 0]) := Arr.new w _ _
 have hB1 : Hid (Below w.heap.size w (w.alloc (.cells #[.slice none 0 0, .int .i64 0] 26))) := (Below.refl _ _).alloc (Nat.le_refl _) _
 go_enter Tryz.func8, Tryz.ntmps8
 go_upto_region 1 with (fail)
 generalize w.alloc (.cells #[.slice none 0 0, .int .i64 0] 26) = W at *
 obtain ⟨rb, hrb⟩ : ∃ b, w.heap.size = b := ⟨_, rfl⟩
 have HRB := Lib.hid hrb
 have hrl := h1.out.lt
 rw [hrb] at h1 hB1 hrl ⊢
 clear hrb
 have c0 := h1.out.cell' (i := 0) rfl
 have c1 := h1.out.cell' (i := 1) rfl
 have f0 := h1.out.frozen 0
 have f1 := h1.out.frozen 1
 have h4 := Lib.hid ((h1.out.store 0 (.slice (some ⟨W.heap.size, 0, none⟩) 1 1)).store 1 (.int .i64 0))
 have hB4 := Lib.hid ((hB1.out.setCell (p := ⟨rb, 0, none⟩) (Nat.le_refl _) (.slice (some ⟨W.heap.size, 0, none⟩) 1 1)).setCell (p := ⟨rb, 1, none⟩) (Nat.le_refl _) (.int .i64 0))
 have hsz : ((W.setCell ⟨rb, 0, none⟩ (.slice (some ⟨W.heap.size, 0, none⟩) 1 1)).setCell ⟨rb, 1, none⟩ (.int .i64 0)).heap.size = W.heap.size := by simp [World.setCell]
 have hN5 := Lib.hid (Arr.new ((W.setCell ⟨rb, 0, none⟩ (.slice (some ⟨W.heap.size, 0, none⟩) 1 1)).setCell ⟨rb, 1, none⟩ (.int .i64 0)) 34 [.int .i64 2, .string (mks text), .bool false, .slice none 0 0, .slice none 0 0])
 have hbn : Below ((W.setCell ⟨rb, 0, none⟩ (.slice (some ⟨W.heap.size, 0, none⟩) 1 1)).setCell ⟨rb, 1, none⟩ (.int .i64 0)).heap.size ((W.setCell ⟨rb, 0, none⟩ (.slice (some ⟨W.heap.size, 0, none⟩) 1 1)).setCell ⟨rb, 1, none⟩ (.int .i64 0)) (((W.setCell ⟨rb, 0, none⟩ (.slice (some ⟨W.heap.size, 0, none⟩) 1 1)).setCell ⟨rb, 1, none⟩ (.int .i64 0)).alloc (.cells #[.int .i64 2, .string (mks text), .bool false, .slice none 0 0, .slice none 0 0] 34)) := (Below.refl _ _).alloc (Nat.le_refl _) _
 have h5 := Lib.hid (h4.out.keep hbn)
 have hB5 := Lib.hid (hB4.out.trans (hbn.mono (by rw [hsz]; exact Nat.le_of_lt hrl)))
 rw [hsz] at hN5
 clear hbn h4 hB4 hsz
 go_wp2_with (fail)
 clear c0 c1 f0 f1
 generalize ((W.setCell ⟨rb, 0, none⟩ (.slice (some ⟨W.heap.size, 0, none⟩) 1 1)).setCell ⟨rb, 1, none⟩ (.int .i64 0)).alloc (.cells #[.int .i64 2, .string (mks text), .bool false, .slice none 0 0, .slice none 0 0] 34) = w6 at *
 have r0 := h5.out.cell' (i := 0) rfl
 have r1 := h5.out.cell' (i := 1) rfl
 refine bodyPost_ret (v := .agg #[.slice (some ⟨W.heap.size, 0, none⟩) 1 1, .int .i64 0]) (by simp [results, Tryz.results8, go_sem, r0, r1]) rfl ?_
 exact ⟨_, rfl, by have := HRB.out; omega, by rw [HRB.out]; exact hB5.out, hN5⟩
set_option maxRecDepth 20000 in
set_option maxHeartbeats 4000000 in
theorem copied_any (A : Option Addr) (c : Nat) (xs : List Int) (hl : xs.length ≤ 65536) (w : World) (hr : Rd w A (I64 xs)) :
  Calls Tryz.prog 53 #[.slice A xs.length c] w fun e w' => ∃ ob, e = .returned (.slice (some ⟨ob, 0, none⟩) xs.length xs.length) ∧ w.heap.size ≤ ob ∧ Below w.heap.size w w' ∧ Hid (Arr w' ob 3 (I64 xs)) := by
 obtain ⟨n, hn⟩ : ∃ n, xs.length = n := ⟨_, rfl⟩
 have HN := Lib.hid hn
 have HR := Lib.hid hr
 rw [hn] at hl ⊢
 clear hn hr
 go_enter Tryz.func53, Tryz.ntmps53
 go_upto_region 2 with (at_make; go_loud (refine wpList_mk rfl _ _ 32 rfl 3 _ _ Tryz.underlying32 infoInt rfl _ _ _ _ rfl rfl n n (by omega) (by omega) (by omega) (by omega) (by unfold maxLen; omega) ?_; intro ob w2 hob hO hb2 hz2))
 have HR2 := Lib.hid (HR.out.keep hb2)
 have hol : (List.replicate n (Value.int .i64 0)).length = n := List.length_replicate
 have hsl : (I64 xs).length = n := by rw [len_I64]; exact HN.out
 go_upto_region 3 with ((with_reducible refine wpList_cp rfl (.tmp 7) (.tmp 8) 32 32 rfl 3 Tryz.underlying32 sizeInt ob n n n c A rfl rfl _ _ hO.out (by omega) (I64 xs) HR2.out hsl (Nat.le_refl _) (I64_one _) ?_; intro w3 hO3 hg3 hz3))
 have hb3 : Hid (Below w.heap.size w w3) := below_row hb2 hg3 (by have := hb2.size; omega) (by have := hob.out; omega)
 have hA0 : Hid (Arr w3 ob 3 (I64 xs)) := by
  have h := hO3.out
  rw [List.drop_of_length_le (by omega), List.append_nil] at h
  exact h
 have hob2 : w.heap.size ≤ ob := by have := hob.out; omega
 clear hO hO3 HR2 HR hb2 hz2 hg3 hz3 hol hsl hob
 go_wp2_with (fail)
 go_ret
 exact ⟨ob, rfl, hob2, hb3.out, hA0⟩
end Go.Proofs.YtoppncpmfajbcaaGreatDoor
