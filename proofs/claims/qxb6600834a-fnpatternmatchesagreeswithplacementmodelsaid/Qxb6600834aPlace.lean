/-
  THE WALK OF FnPatternMatchesAgreesWithPlacementModel.
-/
import Derived.Test.Qxb6600834aOcc
set_option linter.unusedVariables false
namespace Go.Proofs.Qxb6600834a
open Go.RowKit Plain

/-- may the part stand at q? -/
def opn (first : Bool) (cu : List Bool) (q : Nat) : Prop := if first then cu.getD q false = true else ∃ q', q' ≤ q ∧ cu.getD q' false = true

/-- what holds while the places of one part are gathered: those from the places before q are there -/
structure Gath (first : Bool) (t p : Txt) (cu : List Bool) (L q : Nat) (nx : List Bool) (op : Bool) : Prop where
  at_ : ∀ e, e ≤ L → (nx.getD e false = true ↔ ∃ q', q' < q ∧ opn first cu q' ∧ e = q' + p.length ∧ occ t p q')
  op_ : first = false → (op = true ↔ ∃ q', q' < q ∧ cu.getD q' false = true)

theorem Gath.zero (first : Bool) (t p : Txt) (cu : List Bool) (L : Nat) (nx : List Bool) (h : ∀ j, j < L + 1 → nx.getD j false = false) : Gath first t p cu L 0 nx false := by
  refine ⟨fun e he => ?_, fun _ => ?_⟩
  · rw [h e (by omega)]
    simp
  · simp

/-- the next 'open' -/
def nop (first : Bool) (c op : Bool) : Bool := if first then c else c || op

theorem nop_iff {first : Bool} {t p : Txt} {cu : List Bool} {L q : Nat} {nx : List Bool} {op : Bool} (h : Gath first t p cu L q nx op) : nop first (cu.getD q false) op = true ↔ opn first cu q := by
  cases first with
  | true => simp [nop, opn]
  | false =>
    simp only [nop, opn, Bool.false_eq_true, if_false, Bool.or_eq_true, h.op_ rfl]
    constructor
    · rintro (h1 | ⟨q', h1, h2⟩)
      · exact ⟨q, Nat.le_refl _, h1⟩
      · exact ⟨q', by omega, h2⟩
    · rintro ⟨q', h1, h2⟩
      rcases Nat.lt_or_eq_of_le h1 with h3 | rfl
      · exact .inr ⟨q', h3, h2⟩
      · exact .inl h2

theorem nop_next {first : Bool} {t p : Txt} {cu : List Bool} {L q : Nat} {nx : List Bool} {op : Bool} (h : Gath first t p cu L q nx op) : first = false → (nop first (cu.getD q false) op = true ↔ ∃ q', q' < q + 1 ∧ cu.getD q' false = true) := by
  intro hf
  rw [nop_iff h]
  subst hf
  simp only [opn, Bool.false_eq_true, if_false]
  constructor
  · rintro ⟨q', h1, h2⟩; exact ⟨q', by omega, h2⟩
  · rintro ⟨q', h1, h2⟩; exact ⟨q', by omega, h2⟩

/-- the place q brings nothing -/
theorem Gath.skip {first : Bool} {t p : Txt} {cu : List Bool} {L q : Nat} {nx : List Bool} {op : Bool} (h : Gath first t p cu L q nx op)
    (hno : nop first (cu.getD q false) op = false ∨ L < q + p.length ∨ occB t p q = false) : Gath first t p cu L (q + 1) nx (nop first (cu.getD q false) op) := by
  refine ⟨fun e he => ?_, nop_next h⟩
  rw [h.at_ e he]
  constructor
  · rintro ⟨q', h1, h2⟩; exact ⟨q', by omega, h2⟩
  · rintro ⟨q', h1, h2, h3, h4⟩
    rcases Nat.lt_or_eq_of_le (Nat.le_of_lt_succ h1) with h5 | rfl
    · exact ⟨q', h5, h2, h3, h4⟩
    · rcases hno with hno | hno | hno
      · rw [(nop_iff h).2 h2] at hno; simp at hno
      · omega
      · rw [(occB_iff _ _ _).2 h4] at hno; simp at hno

/-- the place q brings the place behind the part -/
theorem Gath.take {first : Bool} {t p : Txt} {cu : List Bool} {L q : Nat} {nx : List Bool} {op : Bool} (h : Gath first t p cu L q nx op)
    (h1 : nop first (cu.getD q false) op = true) (h2 : q + p.length ≤ L) (h3 : occB t p q = true) (hl : nx.length = L + 1) : Gath first t p cu L (q + 1) (nx.set (q + p.length) true) (nop first (cu.getD q false) op) := by
  refine ⟨fun e he => ?_, nop_next h⟩
  rw [getD_set _ _ _ _ (by omega)]
  by_cases hE : e = q + p.length
  · rw [if_pos hE]
    simp only [true_iff]
    exact ⟨q, by omega, (nop_iff h).1 h1, hE, (occB_iff _ _ _).1 h3⟩
  · rw [if_neg hE, h.at_ e he]
    constructor
    · rintro ⟨q', h4, h5⟩; exact ⟨q', by omega, h5⟩
    · rintro ⟨q', h4, h5, h6, h7⟩
      rcases Nat.lt_or_eq_of_le (Nat.le_of_lt_succ h4) with h8 | rfl
      · exact ⟨q', h8, h5, h6, h7⟩
      · exact absurd h6 hE

/-- a part is done -/
theorem Gath.done {first : Bool} {t p : Txt} {cu : List Bool} {nx : List Bool} {op : Bool} (h : Gath first t p cu t.length (t.length + 1) nx op) (S : Nat → Prop) (hS : ∀ e, e ≤ t.length → (cu.getD e false = true ↔ S e)) :
    ∀ e, e ≤ t.length → (nx.getD e false = true ↔ stepS first t p S e) := by
  intro e he
  rw [h.at_ e he]
  unfold stepS
  cases first with
  | true =>
    simp only [opn, if_true]
    constructor
    · rintro ⟨q, h1, h2, h3, h4⟩; exact ⟨q, (hS q (by omega)).1 h2, h3, he, h4⟩
    · rintro ⟨q, h2, h3, _, h4⟩; exact ⟨q, by omega, (hS q (by omega)).2 h2, h3, h4⟩
  | false =>
    simp only [opn, Bool.false_eq_true, if_false]
    constructor
    · rintro ⟨q, h1, ⟨q', h2, h2'⟩, h3, h4⟩; exact ⟨q, ⟨q', h2, (hS q' (by omega)).1 h2'⟩, h3, he, h4⟩
    · rintro ⟨q, ⟨q', h2, h2'⟩, h3, _, h4⟩; exact ⟨q, by omega, ⟨q', h2, (hS q' (by omega)).2 h2'⟩, h3, h4⟩

end Go.Proofs.Qxb6600834a
