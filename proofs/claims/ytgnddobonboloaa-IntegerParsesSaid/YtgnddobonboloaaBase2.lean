/- More laws for memory: append of a list to a row of the call's own. -/
import Derived.Test.YtgnddobonboloaaBase
namespace Go.Proofs.Ytgnddobonboloaa
open Go.RowKit
section
variable {P : Program} {w : World} {ops : Array Oper} {rest : List Oper} {o : Oper} {a : Act} {Q : Exit → Act → World → Prop}

theorem wpList_apl (hg : o.guard = none) (s x : Operand) (t : TypeId) (ho : o.op = .call { callee := .builtin .append, args := #[s, x], argTypes := #[t, t] }) (base : Nat) (e : TypeId) (z : Value) (bytes : Nat)
    (ht : P.underlying t = some (.slice e)) (h2 : (P.info? e).map (fun i => (i.zero, i.size, i.bytes)) = some (some z, 1, bytes)) (hz : z.cells = #[z])
    (v : Value) (n : Nat) (xs : List Value) (hs : a.eval s = v) (hown : w.ownsRow base e 1 v n xs) (A : Option Addr) (m c : Nat) (news : List Value) (hx : a.eval x = .slice A m c)
    (hr : Rd w A news) (hm : news.length = m) (hA : A = none → c = 0) (h1 : ∀ u ∈ news, u.oneCell' = true) (hmx : n + m ≤ maxLen) (hb : (n + m) * bytes ≤ 140737488355328) (hbase : base ≤ w.heap.size)
    (hK : ∀ v' w', w'.ownsRow base e 1 v' (n + m) (xs ++ news) → w.grownBy w' v.ownBlock → wpList P ops Q rest (a.put o.dst v') w') : wpList P ops Q (o :: rest) a w := by
  obtain ⟨i, hi, hz1, hz2, hz3⟩ := info_parts h2
  cases A with
  | none =>
    have hn : news = [] := by
      cases news with
      | nil => rfl
      | cons u l => obtain ⟨ad, h, _⟩ := hr 0 u rfl; cases h
    subst hn
    have hm0 : m = 0 := by simpa using hm.symm
    subst hm0
    have hc0 := hA rfl
    subst hc0
    exact wpList_append_own_none hg s x t ho base e i 1 ht hi v n xs hs hown hx (hK v w (by simpa using hown) (World.grownBy.refl _ _))
  | some ad =>
    refine wpList_append_own w hg s x t ho base e i z 1 bytes ht hi hz1 hz2 hz3 (by rw [hz]; rfl) (by decide) v n xs hs hown ad m c news hx (by omega) ?_ h1 hmx hb hbase (fun v' w' h3 h4 _ => hK v' w' h3 h4)
    intro j y hj
    obtain ⟨ad', e', hc⟩ := hr j y hj
    obtain rfl := Option.some.inj e'
    exact hc
end
/-- One new cell, as a row of the call's own. -/
theorem own_one (w : World) (t : TypeId) (u : Value) (base : Nat) (hb : base ≤ w.heap.size) : (w.alloc (.cells #[u] t)).ownsRow base t 1 (.slice (some ⟨w.heap.size, 0, none⟩) 1 1) 1 [u] :=
  arr_own (Arr.new w t [u]) hb (Nat.le_refl _) rfl (by decide)
theorem Below.allocDrew {B : Nat} {a w : World} (h : Below B a w.drew) (hB : B ≤ w.heap.size) (o : Obj) : Below B a (w.alloc o).drew := Below.alloc (w := w.drew) h hB o
/-- As 'own_rd'; and a nil slice has no room. -/
theorem own_rd2 {w : World} {base : Nat} {e : TypeId} {v : Value} {n : Nat} {xs : List Value} (h : w.ownsRow base e 1 v n xs) :
    ∃ A c, v = .slice A n c ∧ Hid (n = xs.length) ∧ n ≤ c ∧ c ≤ maxLen ∧ Rd w A xs ∧ From base A ∧ (A = none → c = 0) := by
  obtain ⟨A, c, rfl, h1, h2, h3, h4, h5⟩ := own_rd h
  refine ⟨A, c, rfl, h1, h2, h3, h4, h5, ?_⟩
  rintro rfl
  rcases h.2 with ⟨he, _⟩ | ⟨g, cap, cur, he, _⟩
  · simp at he; omega
  · simp at he
/-- As 'RetS'; and a nil slice has no room. -/
def RetSN (w : World) (xs : List Value) (e : Ending) (w' : World) : Prop :=
  ∃ A n c, e = .returned (.slice A n c) ∧ Hid (n = xs.length) ∧ n ≤ c ∧ Rd w' A xs ∧ From w.heap.size A ∧ Below w.heap.size w w' ∧ (A = none → c = 0)
theorem RetSN.retS {w : World} {xs : List Value} {e : Ending} {w' : World} (h : RetSN w xs e w') : RetS w xs e w' := by
  obtain ⟨A, n, c, h1, h2, h3, h4, h5, h6, _⟩ := h
  exact ⟨A, n, c, h1, h2, h3, h4, h5, h6⟩
theorem retSN_eq {w : World} {xs ys : List Value} {e : Ending} {w' : World} (h : RetSN w xs e w') (he : xs = ys) : RetSN w ys e w' := he ▸ h
section
variable {P : Program} {w : World} {ops : Array Oper} {o : Oper} {a : Act} {K : Act → World → Prop} {Q : Exit → Act → World → Prop} {E : Prop}
/-- append(s, x) of one element to a row of the call's own, as a step of a region that draws its order. -/
theorem step_ap1 (hg : o.guard = none) (s x : Operand) (t : TypeId) (ho : o.op = .call { callee := .builtin .append, args := #[s, x], argTypes := #[t, t] }) (base : Nat) (e : TypeId) (z : Value) (bytes : Nat)
    (ht : P.underlying t = some (.slice e)) (h2 : (P.info? e).map (fun i => (i.zero, i.size, i.bytes)) = some (some z, 1, bytes)) (hz : z.cells = #[z])
    (v : Value) (n : Nat) (xs : List Value) (hs : a.eval s = v) (hown : w.ownsRow base e 1 v n xs) (ad : Addr) (c : Nat) (u : Value) (hx : a.eval x = .slice (some ad) 1 c)
    (hc : w.cell? ad = some u) (h1 : u.oneCell' = true) (hm : n + 1 ≤ maxLen) (hb : (n + 1) * bytes ≤ 140737488355328) (hbase : base ≤ w.heap.size)
    (hK : ∀ v' w', w'.ownsRow base e 1 v' (n + 1) (xs ++ [u]) → w.grownBy w' v.ownBlock → K (a.put o.dst v') w') :
    if Region.wanted o (yielded ops a.tmps) = true then Oper.wp P o a w K Q else E := by
  have hw : Region.wanted o (yielded ops a.tmps) = true := by simp [Region.wanted, hg]
  rw [if_pos hw]
  obtain ⟨i, hi, hz1, hz2, hz3⟩ := info_parts h2
  refine wp_append_own w s x t ho base e i z 1 bytes ht hi hz1 hz2 hz3 (by rw [hz]; rfl) (by decide) v n xs hs hown ad 1 c [u] hx rfl ?_ ?_ hm hb hbase (fun v' w' h3 h4 _ => hK v' w' h3 h4)
  · intro j y hj
    match j, hj with
    | 0, hj => simp at hj; subst hj; simpa [Addr.add] using hc
  · intro y hy; simp at hy; subst hy; exact h1
end
end Go.Proofs.Ytgnddobonboloaa
