/-
  PLAIN LAWS, NO GO IN SIGHT: the places at which the parts laid so far can end, part by part, decide whether the text can be so written.
-/
import Derived.Test.Qxb6600834aPlain
set_option linter.unusedVariables false
namespace Go.Proofs.Qxb6600834a.Plain

/-- part p stands in t from byte q on -/
def occ (t p : Txt) (q : Nat) : Prop := ∃ r, t.drop q = p ++ r

/-- one part laid: S: the places at which the parts before it can end; 'first': it is the first one -/
def stepS (first : Bool) (t p : Txt) (S : Nat → Prop) (e : Nat) : Prop :=
  ∃ q, (if first then S q else ∃ q', q' ≤ q ∧ S q') ∧ e = q + p.length ∧ e ≤ t.length ∧ occ t p q

/-- the places at which the first k parts can end -/
def reach (t : Txt) (ps : List Txt) : Nat → Nat → Prop
  | 0 => fun q => q = 0
  | k + 1 => stepS (decide (k = 0)) t (ps.getD k []) (reach t ps k)

theorem fill_snoc (ps : List Txt) (p t : Txt) (hne : ps ≠ []) : Fill (ps ++ [p]) t ↔ ∃ t1 g, t = t1 ++ (g ++ p) ∧ Fill ps t1 := by
  induction ps generalizing t with
  | nil => exact absurd rfl hne
  | cons a r ih =>
    cases r with
    | nil =>
      simp only [List.cons_append, List.nil_append, Fill]
      constructor
      · rintro ⟨g, t', rfl, rfl⟩; exact ⟨a, g, rfl, rfl⟩
      · rintro ⟨t1, g, rfl, rfl⟩; exact ⟨g, p, rfl, rfl⟩
    | cons b r =>
      simp only [List.cons_append, Fill]
      have ih' := fun t => ih t (by simp)
      simp only [List.cons_append] at ih'
      constructor
      · rintro ⟨g, t', rfl, h⟩
        obtain ⟨t1, g1, rfl, h1⟩ := (ih' t').1 h
        exact ⟨a ++ (g ++ t1), g1, by simp, g, t1, rfl, h1⟩
      · rintro ⟨t1, g1, rfl, g, t', rfl, h⟩
        exact ⟨g, t' ++ (g1 ++ p), by simp, (ih' _).2 ⟨t', g1, rfl, h⟩⟩

theorem occ_take (t p : Txt) (q : Nat) (h : occ t p q) (hq : q + p.length ≤ t.length) : t.take (q + p.length) = t.take q ++ p := by
  obtain ⟨r, hr⟩ := h
  rw [List.take_add, hr, List.take_left]

theorem take_occ (t u p : Txt) (e : Nat) (h : t.take e = u ++ p) (he : e ≤ t.length) : e = u.length + p.length ∧ occ t p u.length ∧ t.take u.length = u := by
  have hl : e = u.length + p.length := by
    have := congrArg List.length h
    simp at this
    omega
  refine ⟨hl, ?_, ?_⟩
  · refine ⟨t.drop e, ?_⟩
    have : t = u ++ (p ++ t.drop e) := by
      conv => lhs; rw [← List.take_append_drop e t, h]
      simp
    conv => lhs; rw [this]
    rw [List.drop_left]
  · have : (t.take e).take u.length = u := by rw [h, List.take_left]
    rw [List.take_take, Nat.min_eq_left (by omega)] at this
    exact this

theorem reach_iff (t : Txt) (ps : List Txt) (k : Nat) (hk : k < ps.length) (e : Nat) : reach t ps (k + 1) e ↔ e ≤ t.length ∧ Fill (ps.take (k + 1)) (t.take e) := by
  induction k generalizing e with
  | zero =>
    have e1 : ps.take (0 + 1) = [ps.getD 0 []] := by
      cases ps with
      | nil => simp at hk
      | cons a r => simp
    rw [e1]
    simp only [reach, stepS, decide_true, if_true, Fill]
    constructor
    · rintro ⟨q, rfl, h1, h2, h3⟩
      rw [Nat.zero_add] at h1
      subst h1
      have := occ_take t _ 0 h3 (by omega)
      simp only [Nat.zero_add, List.take_zero, List.nil_append] at this
      exact ⟨h2, this⟩
    · rintro ⟨h1, h2⟩
      obtain ⟨h3, h4, _⟩ := take_occ t [] (ps.getD 0 []) e (by simpa using h2) h1
      exact ⟨0, rfl, by simpa using h3, h1, by simpa using h4⟩
  | succ k ih =>
    have ih' := ih (by omega)
    have hp : ps[k + 1]? = some (ps.getD (k + 1) []) := by simp [List.getD, hk]
    have e1 : ps.take (k + 1 + 1) = ps.take (k + 1) ++ [ps.getD (k + 1) []] := by
      rw [List.take_add_one, hp]; rfl
    have hne : ps.take (k + 1) ≠ [] := by
      intro e
      have := congrArg List.length e
      simp at this
      subst this
      simp at hk
    rw [e1, fill_snoc _ _ _ hne]
    show stepS (decide (k + 1 = 0)) t (ps.getD (k + 1) []) (reach t ps (k + 1)) e ↔ _
    generalize ps.getD (k + 1) [] = p at *
    have hdk : decide (k + 1 = 0) = false := by simp
    rw [hdk]
    simp only [stepS, Bool.false_eq_true, if_false]
    constructor
    · rintro ⟨q, ⟨q', hq, hr⟩, rfl, h2, h3⟩
      refine ⟨h2, t.take q', (t.take q).drop q', ?_, ((ih' q').1 hr).2⟩
      rw [occ_take t p q h3 h2]
      have e2 : t.take q = t.take q' ++ (t.take q).drop q' := by
        conv => lhs; rw [← List.take_append_drop q' (t.take q)]
        rw [List.take_take, Nat.min_eq_left hq]
      conv => lhs; rw [e2]
      simp
    · rintro ⟨h1, t1, g, h2, h3⟩
      obtain ⟨h4, h5, h6⟩ := take_occ t (t1 ++ g) p e (by simpa using h2) h1
      have e3 : t.take t1.length = t1 := by
        have : (t.take (t1 ++ g).length).take t1.length = t1 := by rw [h6, List.take_left]
        rw [List.take_take, Nat.min_eq_left (by simp)] at this
        exact this
      refine ⟨(t1 ++ g).length, ⟨t1.length, by simp, (ih' _).2 ⟨?_, by rw [e3]; exact h3⟩⟩, h4, h1, h5⟩
      simp at h4; omega

/-- at the end: the whole text -/
theorem reach_all (t : Txt) (ps : List Txt) (hne : ps ≠ []) : reach t ps ps.length t.length ↔ Fill ps t := by
  obtain ⟨k, hk⟩ : ∃ k, ps.length = k + 1 := ⟨ps.length - 1, by have := List.length_pos_iff.2 hne; omega⟩
  rw [hk, reach_iff t ps k (by omega), ← hk, List.take_length, List.take_length]
  simp

end Go.Proofs.Qxb6600834a.Plain
