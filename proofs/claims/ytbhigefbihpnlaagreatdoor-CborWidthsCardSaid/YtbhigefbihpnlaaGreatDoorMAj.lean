/- The heads of data items: short, is, ends; what a walk that moves the offset leaves. -/
import Derived.Test.YtbhigefbihpnlaaGreatDoorMAi
import Derived.Deep.RegionHeld3
set_option linter.unusedVariables false
set_option linter.unusedSimpArgs false
set_option linter.defProp false
set_option linter.constructorNameAsVariable false
namespace Go.Proofs.YtbhigefbihpnlaaGreatDoor
open Go.RowKit
def AtW (w : World) (B i' : Nat) (w' : World) : Prop := Below w.heap.size (w.setCell ⟨B, 1, none⟩ (.int .i64 (i' : Int))) w'
structure HF (z B : Nat) (w w' : World) : Prop where
  os : w'.os = w.os
  tape : w'.tape = w.tape
  output : w'.output = w.output
  size : z ≤ w'.heap.size
  keep : ∀ k, k < z → k ≠ B → w'.heap[k]? = w.heap[k]?
section
variable {w w1 w2 : World} {z B : Nat}
theorem HF.refl (h : z ≤ w.heap.size) : HF z B w w := ⟨rfl, rfl, rfl, h, fun _ _ _ => rfl⟩
theorem HF.alloc (h : HF z B w w1) (o : Obj) : HF z B w (w1.alloc o) := ⟨h.os, h.tape, h.output, by have := h.size; simp; omega, fun k hk hB => by
  rw [← h.keep k hk hB]
  exact ((Below.refl _ w1).alloc (Nat.le_refl _) o).block k (by have := h.size; omega)⟩
theorem HF.drew (h : HF z B w w1) : HF z B w w1.drew := ⟨h.os, h.tape, h.output, h.size, h.keep⟩
theorem HF.drewN (h : HF z B w w1) (n : Nat) : HF z B w (w1.drewN n) := ⟨h.os, h.tape, h.output, h.size, h.keep⟩
theorem HF.set (h : HF z B w w1) {g : Nat} (hg : g = B ∨ z ≤ g) (i : Nat) (u : Value) : HF z B w (w1.setCell ⟨g, i, none⟩ u) := ⟨h.os, h.tape, h.output, by have := h.size; simpa [World.setCell] using this, fun k hk hB => by
  rw [← h.keep k hk hB]
  exact setCell_heap_ne _ _ _ (fun e => by have : k = g := e; rcases hg with e2 | e2 <;> omega)⟩
theorem HF.below (h : HF z B w w1) (hb : Below w1.heap.size w1 w2) : HF z B w w2 := ⟨hb.os.trans h.os, hb.tape.trans h.tape, hb.output.trans h.output, Nat.le_trans h.size hb.size, fun k hk hB => by
  rw [← h.keep k hk hB]; exact hb.block k (Nat.lt_of_lt_of_le hk h.size)⟩
theorem HF.fin {t : TypeId} {P : List Value} {i' : Nat} (h : HF w.heap.size B w w1) (hP : Arr w B t P) (hP1 : Arr w1 B t (P.set 1 (.int .i64 (i' : Int)))) : AtW w B i' w1 := by
  refine ⟨h.os, h.tape, h.output, by have := h.size; simpa [World.setCell] using this, fun k hk => ?_⟩
  by_cases e : k = B
  · subst e
    have h2 : Arr (w.setCell ⟨k, 1, none⟩ (.int .i64 (i' : Int))) k t (P.set 1 (.int .i64 (i' : Int))) := hP.store 1 _
    exact Eq.trans hP1 h2.symm
  · rw [h.keep k hk e]
    exact (setCell_heap_ne _ _ _ (fun e2 => e e2)).symm
theorem AtW.hf {i' : Nat} (h : AtW w B i' w1) : HF w.heap.size B w w1 := ⟨h.os, h.tape, h.output, by have := h.size; simpa [World.setCell] using this, fun k hk hB => by
  rw [h.block k hk]
  exact setCell_heap_ne _ _ _ (fun e2 => hB e2)⟩
theorem AtW.arr {t : TypeId} {P : List Value} {i' : Nat} (h : AtW w B i' w1) (hP : Arr w B t P) : Arr w1 B t (P.set 1 (.int .i64 (i' : Int))) := (h.block B hP.lt).trans (hP.store 1 _)
theorem AtW.size {i' : Nat} (h : AtW w B i' w1) : w.heap.size ≤ w1.heap.size := h.hf.size
theorem HF.at_ {i' : Nat} (h : HF z B w w1) (hk : AtW w1 B i' w2) : HF z B w w2 := ⟨hk.os.trans h.os, hk.tape.trans h.tape, hk.output.trans h.output, Nat.le_trans h.size hk.size, fun k hk2 hB => by
  rw [← h.keep k hk2 hB]; exact hk.hf.keep k (Nat.lt_of_lt_of_le hk2 h.size) hB⟩
theorem AtW.trans {t : TypeId} {P : List Value} {i1 i2 : Nat} (hP : Arr w B t P) (h : AtW w B i1 w1) (k : AtW w1 B i2 w2) : AtW w B i2 w2 := by
  refine HF.fin (P := P) (HF.at_ h.hf k) hP ?_
  have h1 := k.arr (h.arr hP)
  rw [List.set_set] at h1
  exact h1
end
theorem CM.atw {w w' : World} {B i' : Nat} {s : List Nat} {vn vs vh vm : Value} {ncs : List Value} {lab : Nat → Option Nat} {st : CSt} (h : CM w B s vn vs vh vm ncs lab st) (hk : AtW w B i' w') : CM w' B s vn vs vh vm ncs lab { st with i := i' } ∧ PStep w w' (CF B vn vs lab) (CF B vn vs lab) :=
  ⟨(h.setI i').below (by have : (w.setCell ⟨B, 1, none⟩ (.int .i64 (i' : Int))).heap.size = w.heap.size := by simp [World.setCell]
                         rw [this]; exact hk),
   (cstep_set (F := CF B vn vs lab) (.inl rfl) 1 (.int .i64 (i' : Int))).trans (PStep.of_below (by have : (w.setCell ⟨B, 1, none⟩ (.int .i64 (i' : Int))).heap.size = w.heap.size := by simp [World.setCell]
                                                                                                   rw [this]; exact hk))⟩
abbrev faultV (a e : Nat) : Value := .iface 48 (.agg #[.int .i64 (a : Int), .int .i64 (e : Int)])
abbrev headV (h : CH) : Value := .agg #[.int .i64 (h.at_ : Int), .int .i64 (h.major : Int), .int .i64 (h.info : Int), .int .u64 (h.arg : Int)]
abbrev PC (s : List Nat) (i : Nat) (R : List Value) : List Value := .string (mks s) :: .int .i64 (i : Int) :: R
set_option maxRecDepth 20000 in
theorem short_cb {B i : Nat} {s : List Nat} {R : List Value} (w : World) (hP : Arr w B 46 (PC s i R)) : Calls Tryz.prog 38 #[.pointer (some ⟨B, 0, none⟩)] w fun e w' => e = .returned (faultV s.length 4) ∧ w' = w := by
  obtain ⟨n, hn⟩ : ∃ n, s.length = n := ⟨_, rfl⟩
  have hsz : (mks s).size = n := by rw [size_mks]; exact hn
  rw [hn]
  have c0 := hP.cell' (i := 0) rfl
  clear hP hn
  go_enter Tryz.func38, Tryz.ntmps38
  go_wp2
  go_ret
  exact ⟨rfl, rfl⟩
set_option maxRecDepth 20000 in
theorem is_cb (h : CH) (n : Nat) (w : World) : Calls Tryz.prog 39 #[headV h, .int .u64 (n : Int)] w fun e w' => e = .returned (.bool (h.tag n)) ∧ Below w.heap.size w w' := by
  have hA := Lib.hid (Arr.new w 76 [.int .i64 (h.at_ : Int), .int .i64 (h.major : Int), .int .i64 (h.info : Int), .int .u64 (h.arg : Int)])
  have hb : Below w.heap.size w (w.alloc (.cells #[.int .i64 (h.at_ : Int), .int .i64 (h.major : Int), .int .i64 (h.info : Int), .int .u64 (h.arg : Int)] 76)) := (Below.refl _ _).alloc (Nat.le_refl _) _
  obtain ⟨V, hV⟩ : ∃ V, h.tag n = V := ⟨_, rfl⟩
  rw [hV]
  have HV := Lib.hid hV
  clear hV
  go_enter Tryz.func39, Tryz.ntmps39
  go_upto_region 1 with (fail)
  have c1 := hA.out.cell' (i := 1) rfl
  have c3 := hA.out.cell' (i := 3) rfl
  change World.cell? (w.alloc (.cells #[.int .i64 (h.at_ : Int), .int .i64 (h.major : Int), .int .i64 (h.info : Int), .int .u64 (h.arg : Int)] 76)) _ = _ at c1 c3
  generalize (w.alloc (.cells #[.int .i64 (h.at_ : Int), .int .i64 (h.major : Int), .int .i64 (h.info : Int), .int .u64 (h.arg : Int)] 76)) = W at *
  by_cases hm : h.major = 6
  · have hm' : ((h.major : Int) == 6) = true := by simp; omega
    by_cases ha : h.arg = n
    · have e : ((h.arg : Int) == (n : Int)) = true := by simp; omega
      have hv : V = true := by rw [← HV.out]; unfold CH.tag; rw [hm, ha]; simp
      subst hv
      go_wp2
      go_ret
      exact ⟨rfl, hb⟩
    · have e : ((h.arg : Int) == (n : Int)) = false := by simp; omega
      have hv : V = false := by rw [← HV.out]; unfold CH.tag; rw [hm, beq_eq_false_iff_ne.2 ha]; simp
      subst hv
      go_wp2
      go_ret
      exact ⟨rfl, hb⟩
  · have hm' : ((h.major : Int) == 6) = false := by simp; omega
    have hv : V = false := by rw [← HV.out]; unfold CH.tag; rw [beq_eq_false_iff_ne.2 hm]; simp
    subst hv
    go_wp2
    go_ret
    exact ⟨rfl, hb⟩
set_option maxRecDepth 20000 in
theorem ends_cb (h : CH) (w : World) : Calls Tryz.prog 76 #[headV h] w fun e w' => e = .returned (.bool h.ends) ∧ Below w.heap.size w w' := by
  have hA := Lib.hid (Arr.new w 76 [.int .i64 (h.at_ : Int), .int .i64 (h.major : Int), .int .i64 (h.info : Int), .int .u64 (h.arg : Int)])
  have hb : Below w.heap.size w (w.alloc (.cells #[.int .i64 (h.at_ : Int), .int .i64 (h.major : Int), .int .i64 (h.info : Int), .int .u64 (h.arg : Int)] 76)) := (Below.refl _ _).alloc (Nat.le_refl _) _
  obtain ⟨V, hV⟩ : ∃ V, h.ends = V := ⟨_, rfl⟩
  rw [hV]
  have HV := Lib.hid hV
  clear hV
  go_enter Tryz.func76, Tryz.ntmps76
  go_upto_region 1 with (fail)
  have c1 := hA.out.cell' (i := 1) rfl
  have c3 := hA.out.cell' (i := 2) rfl
  change World.cell? (w.alloc (.cells #[.int .i64 (h.at_ : Int), .int .i64 (h.major : Int), .int .i64 (h.info : Int), .int .u64 (h.arg : Int)] 76)) _ = _ at c1 c3
  generalize (w.alloc (.cells #[.int .i64 (h.at_ : Int), .int .i64 (h.major : Int), .int .i64 (h.info : Int), .int .u64 (h.arg : Int)] 76)) = W at *
  by_cases hm : h.major = 7
  · have hm' : ((h.major : Int) == 7) = true := by simp; omega
    by_cases ha : h.info = 31
    · have e : ((h.info : Int) == 31) = true := by simp; omega
      have hv : V = true := by rw [← HV.out]; unfold CH.ends; rw [hm, ha]; rfl
      subst hv
      go_wp2
      go_ret
      exact ⟨rfl, hb⟩
    · have e : ((h.info : Int) == 31) = false := by simp; omega
      have hv : V = false := by rw [← HV.out]; unfold CH.ends; rw [hm, beq_eq_false_iff_ne.2 ha]; simp
      subst hv
      go_wp2
      go_ret
      exact ⟨rfl, hb⟩
  · have hm' : ((h.major : Int) == 7) = false := by simp; omega
    have hv : V = false := by rw [← HV.out]; unfold CH.ends; rw [beq_eq_false_iff_ne.2 hm]; simp
    subst hv
    go_wp2
    go_ret
    exact ⟨rfl, hb⟩
end Go.Proofs.YtbhigefbihpnlaaGreatDoor
