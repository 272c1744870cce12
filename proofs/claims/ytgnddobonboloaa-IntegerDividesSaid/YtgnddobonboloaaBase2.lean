/- More laws for memory: append of a list to a row of the call's own. -/
import Derived.Test.YtgnddobonboloaaBase
namespace Go.Proofs.Ytgnddobonboloaa
open Go.RowKit
section
variable {P : Program} {w : World} {ops : Array Oper} {rest : List Oper} {o : Oper} {a : Act} {Q : Exit → Act → World → Prop}

theorem wpList_apl (hg : o.guard = none) (s x : Operand) (t : TypeId) (ho : o.op = .call { callee := .builtin .append, args := #[s, x], argTypes := #[t, t] }) (base : Nat) (e : TypeId) (z : Value) (bytes : Nat)
    (ht : P.underlying t = some (.slice e)) (h2 : (P.info? e).map (fun i => (i.zero, i.size, i.bytes)) = some (some z, 1, bytes)) (hz : z.cells = #[z])
    (v : Value) (n : Nat) (xs : List Value) (hs : a.eval s = v) (hown : w.ownsRow base e 1 v n xs) (A : Option Addr) (m c : Nat) (news : List Value) (hx : a.eval x = .slice A m c)
    (hr : Rd w A news) (hm : news.length = m) (hA : A = none → c = 0) (h1 : ∀ u ∈ news, u.oneCell' = true) (hmx : n + m ≤ maxLen) (hb : (n + m) * bytes ≤ 140737488355328) (hbase : base ≤ w.heap.size)
    (hK : ∀ v' w', w'.ownsRow base e 1 v' (n + m) (xs ++ news) → w.grownBy w' v.ownBlock → wpList P ops Q rest (a.put o.dst v') w') : wpList P ops Q (o :: rest) a w := by
  obtain ⟨i, hi, hz1, hz2, hz3⟩ := info_parts h2
  cases A with
  | none =>
    have hn : news = [] := by
      cases news with
      | nil => rfl
      | cons u l => obtain ⟨ad, h, _⟩ := hr 0 u rfl; cases h
    subst hn
    have hm0 : m = 0 := by simpa using hm.symm
    subst hm0
    have hc0 := hA rfl
    subst hc0
    exact wpList_append_own_none hg s x t ho base e i 1 ht hi v n xs hs hown hx (hK v w (by simpa using hown) (World.grownBy.refl _ _))
  | some ad =>
    refine wpList_append_own w hg s x t ho base e i z 1 bytes ht hi hz1 hz2 hz3 (by rw [hz]; rfl) (by decide) v n xs hs hown ad m c news hx (by omega) ?_ h1 hmx hb hbase (fun v' w' h3 h4 _ => hK v' w' h3 h4)
    intro j y hj
    obtain ⟨ad', e', hc⟩ := hr j y hj
    obtain rfl := Option.some.inj e'
    exact hc
end
/-- One new cell, as a row of the call's own. -/
theorem own_one (w : World) (t : TypeId) (u : Value) (base : Nat) (hb : base ≤ w.heap.size) : (w.alloc (.cells #[u] t)).ownsRow base t 1 (.slice (some ⟨w.heap.size, 0, none⟩) 1 1) 1 [u] :=
  arr_own (Arr.new w t [u]) hb (Nat.le_refl _) rfl (by decide)
end Go.Proofs.Ytgnddobonboloaa
