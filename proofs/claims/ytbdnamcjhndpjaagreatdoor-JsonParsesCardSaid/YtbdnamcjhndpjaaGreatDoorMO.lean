/- Plain laws: what is known of the scanner's tokens; how many and how long the lists of the parser's nodes are. -/
import Derived.Test.YtbdnamcjhndpjaaGreatDoorMH
set_option linter.unusedVariables false
set_option linter.unusedSimpArgs false
set_option linter.defProp false
set_option linter.constructorNameAsVariable false
namespace Go.Proofs.YtbdnamcjhndpjaaGreatDoor
open Go.RowKit
theorem encL_by (r : Int) : By (encL r) ∧ (encL r).length ≤ 4 := by
  refine ⟨By.u8 _, ?_⟩
  unfold encL
  rw [List.length_map]
  exact enc_len r
theorem quotG_text (f : Nat) (l : List Nat) (p nx : Nat) (acc : List Nat) (h : By acc) : By (quotG f l p nx acc).1 ∧ (quotG f l p nx acc).1.length ≤ acc.length + 4 * f := by
  induction f generalizing l p nx acc with
  | zero => simp [quotG, By.nil]
  | succ f ih =>
    have app : ∀ r : Int, By (acc ++ encL r) ∧ (acc ++ encL r).length ≤ acc.length + 4 := fun r => by
      have := encL_by r
      refine ⟨fun c hc => ?_, by rw [List.length_append]; omega⟩
      rcases List.mem_append.1 hc with h1 | h1
      · exact h c h1
      · exact this.1 c h1
    by_cases hne : l = []
    · subst hne; rw [quotG_end]; exact ⟨By.nil, by simp⟩
    · by_cases hp : p < nx
      · rw [quotG_skip hne hp]; have := ih (l.drop (decL l).2) (p + (decL l).2) nx acc h; exact ⟨this.1, by omega⟩
      · by_cases h34 : (decL l).1 = 34
        · rw [quotG_quote hne hp h34]; exact ⟨h, by simp only; omega⟩
        · by_cases h32 : (decL l).1 < 32
          · rw [quotG_low hne hp h34 h32]; exact ⟨By.nil, by simp⟩
          · by_cases h92 : (decL l).1 = 92
            · by_cases he : (escV l).2.2 = 0
              · rw [quotG_esc hne hp h92 he]
                have h1 := app (escV l).1
                have := ih (l.drop (decL l).2) (p + (decL l).2) (p + (escV l).2.1.toNat) _ h1.1
                exact ⟨this.1, by omega⟩
              · rw [quotG_bad hne hp h92 he]; exact ⟨By.nil, by simp⟩
            · rw [quotG_rune hne hp h34 h32 h92]
              have h1 := app ((decL l).1 : Int)
              have := ih (l.drop (decL l).2) (p + (decL l).2) (p + (Lib.runeLen ((decL l).1 : Int)).toNat) _ h1.1
              exact ⟨this.1, by omega⟩
theorem seqN_all (l : List Nat) : ∀ c ∈ l.take (seqN l), c < 128 := by
  induction l with
  | nil => simp
  | cons a l ih =>
    unfold seqN
    by_cases ha : (letB a || numB a) = true
    · rw [if_pos ha]
      intro c hc
      rw [List.take_succ_cons] at hc
      rcases List.mem_cons.1 hc with rfl | hc
      · have : tokB c = true := by unfold tokB; simp only [Bool.or_eq_true] at ha ⊢; rcases ha with h | h
                                   · exact .inl (.inr h)
                                   · exact .inr h
        exact (tokB_bd this).1
      · exact ih c hc
    · rw [if_neg ha]; simp
theorem By.taken {l : List Nat} (h : By l) (n : Nat) : By (l.take n) := fun c hc => h c (List.mem_of_mem_take hc)
theorem tokV_ok {l : List Nat} (hb : By l) (hl : l.length ≤ 65536) (h : (tokV l).2 = 0) : By (tokV l).1.text ∧ (tokV l).1.text.length ≤ 4294967200 ∧ ((tokV l).1.kind ≠ 1 → (tokV l).1.kind ≠ 2 → (tokV l).1.kind ≠ 4 → ∀ c ∈ (tokV l).1.text, c < 128) := by
  have htk : ∀ n, (l.take n).length ≤ 4294967200 := fun n => by rw [List.length_take]; omega
  unfold tokV at h ⊢
  split
  · exact ⟨hb.taken 1, htk 1, fun h => absurd rfl h⟩
  · rename_i h1
    rw [if_neg h1] at h
    split
    · have := quotG_text l.length l 0 1 [] By.nil
      exact ⟨this.1, by show (quotG l.length l 0 1 []).1.length ≤ _; have := this.2; simp at this; omega, fun _ h => absurd rfl h⟩
    · rename_i h2
      rw [if_neg h2] at h
      split
      · rename_i h3
        rw [if_pos h3] at h
        unfold seqV at h ⊢
        split
        · split
          · simp [noTok, By.nil]
          · exact ⟨hb.taken _, htk _, fun _ _ _ => seqN_all l⟩
        · split
          · exact ⟨hb.taken _, htk _, fun _ _ h => absurd rfl h⟩
          · simp [noTok, By.nil]
      · simp [noTok, By.nil]
theorem By.dropped {l : List Nat} (h : By l) (n : Nat) : By (l.drop n) := fun c hc => h c (List.mem_of_mem_drop hc)
theorem scan_toks : ∀ (f a : Nat) (l : List Nat) (ts : List JTok) (ns : List JNote), By l → a + l.length ≤ 65536 → (∀ t ∈ ts, TokOK t) →
    (∀ t ∈ (scanG f a l ts ns).toks, TokOK t) ∧ (scanG f a l ts ns).toks.length ≤ ts.length + l.length := by
  intro f
  induction f with
  | zero => intro a l ts ns _ _ h; exact ⟨h, by simp [scanG]⟩
  | succ f ih =>
    intro a l ts ns hb ha h
    by_cases hne : l = []
    · subst hne; rw [scanG_end]; exact ⟨h, by simp⟩
    · have hp := List.length_pos_iff.2 hne
      by_cases h1 : isBlank (l.getD 0 0) = true
      · rw [scanG_blank hne h1]
        have := ih (a + 1) (l.drop 1) ts ns (hb.dropped 1) (by rw [List.length_drop]; omega) h
        rw [List.length_drop] at this
        exact ⟨this.1, by omega⟩
      · by_cases h2 : commV l < 0
        · rw [scanG_open hne h1 h2]; exact ⟨by simp, by simp⟩
        · by_cases h3 : 0 < commV l
          · rw [scanG_note hne h1 h3]
            have hc := (commV_bd l).2
            have := ih (a + (commV l).toNat) (l.drop (commV l).toNat) ts (ns ++ [⟨a, a + (commV l).toNat, l.take (commV l).toNat⟩]) (hb.dropped _) (by rw [List.length_drop]; omega) h
            rw [List.length_drop] at this
            exact ⟨this.1, by omega⟩
          · have h4 : commV l = 0 := by omega
            by_cases h5 : (tokV l).2 = 0
            · rw [scanG_tok hne h1 h4 h5]
              have hd := tokV_bd l hne
              have hk := tokV_ok hb (by omega) h5
              have hd1 := hd.2.1 h5
              have := ih (a + (tokV l).1.to_) (l.drop (tokV l).1.to_) (ts ++ [⟨(tokV l).1.kind, a, a + (tokV l).1.to_, (tokV l).1.text⟩]) ns (hb.dropped _) (by rw [List.length_drop]; omega) (fun t ht => by
                rcases List.mem_append.1 ht with h6 | h6
                · exact h t h6
                · obtain rfl := List.mem_singleton.1 h6
                  exact ⟨hk.1, hk.2.1, hk.2.2, by simp only; omega, by simp only; omega⟩)
              rw [List.length_append, List.length_singleton, List.length_drop] at this
              exact ⟨this.1, by omega⟩
            · rw [scanG_bad hne h1 h4 h5]; exact ⟨by simp, by simp⟩
theorem scanV_toks (s : List Nat) (hb : By s) : (∀ t ∈ (scanV s).toks, TokOK t) ∧ (scanV s).toks.length ≤ 65536 ∧ ((scanV s).err = 0 → s.length ≤ 65536) := by
  unfold scanV
  by_cases hl : 65536 < s.length
  · rw [if_pos hl]; exact ⟨by simp, by simp, by simp⟩
  · rw [if_neg hl]
    cases checkV s with
    | some k => exact ⟨by simp, by simp, by simp⟩
    | none =>
      have := scan_toks s.length 0 s [] [] hb (by omega) (by simp)
      simp only [List.length_nil] at this
      exact ⟨this.1, by simp only; omega, fun _ => by omega⟩
def NB (L : Nat) (l : List GNode) : Prop := ∀ nd ∈ l, nd.keys.length ≤ L ∧ nd.items.length ≤ L
theorem NB.snoc {L : Nat} {l : List GNode} (h : NB L l) (nd : GNode) (hk : nd.keys = []) (hi : nd.items = []) : NB L (l ++ [nd]) := fun x hx => by
  rcases List.mem_append.1 hx with h1 | h1
  · exact h x h1
  · obtain rfl := List.mem_singleton.1 h1
    rw [hk, hi]; simp
theorem scalarV_no {t : JTok} {nd : GNode} (h : scalarV t = some nd) : nd.keys = [] ∧ nd.items = [] := by
  unfold scalarV at h
  (repeat' split at h) <;> first | (obtain rfl := Option.some.inj h; exact ⟨rfl, rfl⟩) | cases h
theorem nodes_bd (en L : Nat) (f : Nat) :
    (∀ st s d v st', NB L st.nodes → st.left.length ≤ L → PInv st → valueV en f st s d = .ok (v, st') → NB L st'.nodes) ∧
    (∀ obj k d x y, NB L x.st.nodes → x.items.length + x.st.left.length ≤ L → x.keys.length + x.st.left.length ≤ L → PInv x.st → itemsV en f obj k d x = .ok y → NB L y.st.nodes ∧ y.items.length ≤ L ∧ y.keys.length ≤ L) := by
  induction f with
  | zero =>
    constructor
    · intro st s d v st' _ _ _ h; rw [valueV] at h; cases h
    · intro obj k d x y _ _ _ _ h; rw [itemsV] at h; cases h
  | succ f ih =>
    constructor
    · intro st s d v st' hn hl hi h
      rw [valueV] at h
      cases hll : st.left with
      | nil => rw [hll] at h; cases h
      | cons t r =>
        rw [hll] at h hl
        simp only at h
        rw [List.length_cons] at hl
        split at h
        · cases h
        split at h
        · cases h
        split at h
        · cases h
        rename_i hn4
        split at h
        · split at h
          · cases h
          · rename_i x hx
            have hi1 : PInv (⟨r, st.nodes ++ [⟨if t.text = [123] then 10 else 9, [], false, [], []⟩], st.spans ++ [{ s with node := st.nodes.length, from_ := t.from_, whole := true }]⟩ : PSt) := ⟨by simp; omega, by have := hi.2; simp; omega⟩
            obtain ⟨h1, h2, h3⟩ := ih.2 _ _ _ _ _ (hn.snoc _ rfl rfl) (by simp; omega) (by simp; omega) hi1 hx
            injection h with h
            injection h with _ h
            subst h
            intro nd hnd
            rcases List.mem_or_eq_of_mem_set hnd with h4 | rfl
            · exact h1 nd h4
            · exact ⟨h3, h2⟩
        · split at h
          · cases h
          · rename_i nd hnd
            injection h with h
            injection h with _ h
            subst h
            exact hn.snoc _ (scalarV_no hnd).1 (scalarV_no hnd).2
    · intro obj k d x y hn hli hlk hi h
      rw [itemsV] at h
      by_cases hc : isV x.st.left (if obj then [125] else [93]) = true
      · rw [if_pos hc] at h
        injection h with h
        subst h
        exact ⟨hn, by omega, by omega⟩
      · rw [if_neg hc] at h
        cases hcm : commaV en x with
        | error e => rw [hcm] at h; cases h
        | ok a =>
          rw [hcm] at h
          simp only at h
          obtain ⟨a1, a2, a3, a4, a5, a6⟩ := commaV_ok hcm
          have hia : PInv a.st := ⟨by rw [a4]; exact hi.1, by rw [a4, a5]; exact hi.2⟩
          have hal := a6.len
          have key : ∀ (z : PLoop) (s : JSpan), PInv z.st → NB L z.st.nodes → z.items.length + z.st.left.length ≤ L → z.keys.length + z.st.left.length ≤ L → (match valueV en f z.st s (d + 1) with | .error e => .error e | .ok (v, st) => itemsV en f obj k d ⟨st, z.ks, z.keys, z.items ++ [v]⟩) = Except.ok y → NB L y.st.nodes ∧ y.items.length ≤ L ∧ y.keys.length ≤ L := by
            intro z s hz hzn hz1 hz2 hh
            cases hv : valueV en f z.st s (d + 1) with
            | error e => rw [hv] at hh; cases hh
            | ok p =>
              obtain ⟨v, st⟩ := p
              rw [hv] at hh
              simp only at hh
              have b0 := ih.1 _ _ _ _ _ hzn (by omega) hz hv
              obtain ⟨b1, b2⟩ := (val_ok en f).1 _ _ _ _ _ hz hv
              have b3 := b2.len
              exact ih.2 _ _ _ _ _ b0 (by simp; omega) (by simp; omega) b1 hh
          cases obj with
          | false => exact key a _ hia (by rw [a4]; exact hn) (by rw [a3]; omega) (by rw [a2]; omega) h
          | true =>
            simp only [if_true] at h
            cases hk : keyV en d a ⟨0, k, x.items.length, 0, 0, 0, 0, false, false⟩ with
            | error e => rw [hk] at h; cases h
            | ok p =>
              obtain ⟨z, s⟩ := p
              rw [hk] at h
              obtain ⟨k1, k2, _⟩ := keyV_sub hk hia
              obtain ⟨t, r, r2, t2, hl, _, _, _, hn4, _, _, rfl, _⟩ := keyV_ok hk
              rw [hl] at hal
              simp only [List.length_cons] at hal
              exact key _ s k1 (by rw [a4]; exact hn.snoc _ rfl rfl) (by simp only [a3]; omega) (by simp [a2]; omega) h
end Go.Proofs.YtbdnamcjhndpjaaGreatDoor
namespace Go.Proofs.YtbdnamcjhndpjaaGreatDoor
open Go.RowKit
theorem parseJ_nb {s : List Nat} {D : JDoc} (hs : By s) (h : parseJ s = .ok D) : NB 65536 D.nodes ∧ D.nodes.length ≤ 65536 := by
 unfold parseJ at h
 by_cases he : (scanV s).err ≠ 0
 ·rw [if_pos he] at h; cases h
 ·rw [if_neg he] at h
  cases hv : valueV s.length (2 * (scanV s).toks.length + 1) ⟨(scanV s).toks, [], []⟩ spanZ 0 with
  | error e => rw [hv] at h; cases h
  | ok p =>
   obtain ⟨v, st⟩ := p
   rw [hv] at h
   simp only at h
   split at h
   ·injection h with h
    subst h
    have hi : PInv (⟨(scanV s).toks, [], []⟩ : PSt) := ⟨by simp, by simp⟩
    exact ⟨(nodes_bd _ 65536 _).1 _ _ _ _ _ (by intro nd h; cases h) (scanV_toks s hs).2.1 hi hv, by have := ((val_ok _ _).1 _ _ _ _ _ hi hv).1.1; simp only; omega⟩
   ·cases h
def OffLe (M : Nat) (l : List JTok) : Prop := ∀ t ∈ l, t.from_ ≤ M
theorem OffLe.sub {M m : Nat} {a b : PSt} (h : PSub m a b) (ha : OffLe M a.left) : OffLe M b.left := by
 obtain ⟨⟨j, h1, h2, h3⟩, _⟩ := h
 intro t ht
 rw [h3] at ht
 exact ha t (List.mem_of_mem_drop ht)
theorem node_cells {ncs : List Value} {k : Nat} {a b c d e : Value} (h : (ncs.drop (k * 5)).take 5 = [a, b, c, d, e]) : ncs[k * 5]? = some a ∧ ncs[k * 5 + 1]? = some b ∧ ncs[k * 5 + 2]? = some c ∧ ncs[k * 5 + 3]? = some d ∧ ncs[k * 5 + 4]? = some e := by
 have g : ∀ j, j < 5 → ncs[k * 5 + j]? = [a, b, c, d, e][j]? := fun j hj => by rw [← h, List.getElem?_take_of_lt hj, List.getElem?_drop]
 exact ⟨g 0 (by omega), g 1 (by omega), g 2 (by omega), g 3 (by omega), g 4 (by omega)⟩
end Go.Proofs.YtbdnamcjhndpjaaGreatDoor
namespace Go.Proofs.YtbdnamcjhndpjaaGreatDoor
open Go.RowKit
def src1 : List Nat := [91, 49, 44, 32, 50, 46, 53, 48, 44, 32, 45, 48, 93]
def src2 : List Nat := [123, 34, 97, 34, 58, 49, 44, 34, 97, 34, 58, 50, 125]
def good1 (o : Except PErr JDoc) : Bool := match o with
 | .ok D => decide (D.spans.length = 4) && (match D.spans[2]? with | some s => decide (s.from_ = 4) && decide (s.to_ = 8) | none => false) && (match D.nodes[2]? with | some n => decide (n.text = [50, 53, 101, 45, 49]) | none => false)
 | .error _ => false
def good2 (o : Except PErr JDoc) : Bool := match o with
 | .ok _ => false
 | .error e => decide (e = (7, 8))
theorem src1_good : good1 (parseJ src1) = true := by decide +kernel
theorem src2_good : good2 (parseJ src2) = true := by decide +kernel
end Go.Proofs.YtbdnamcjhndpjaaGreatDoor
