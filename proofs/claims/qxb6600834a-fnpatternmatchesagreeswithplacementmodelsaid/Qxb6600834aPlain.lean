/-
  PLAIN LAWS, NO GO IN SIGHT: what it is for a text to be written as a pattern's parts with gaps between them; the greedy search decides it; the reaching of places decides it.
-/
import Derived.Lib.Index
import Derived.Lib.IndexLaws
import Derived.Lib.Strings
namespace Go.Proofs.Qxb6600834a.Plain

abbrev Txt := List UInt8

/-- t is p0 g1 p1 g2 .. p(n-1) -/
def Fill : List Txt → Txt → Prop
  | [], _ => False
  | [p], t => t = p
  | p :: q :: r, t => ∃ g t', t = p ++ (g ++ t') ∧ Fill (q :: r) t'

/-- m holds the parts one behind the other, with gaps ahead of each and behind the last -/
def Mid : List Txt → Txt → Prop
  | [], _ => True
  | p :: r, m => ∃ g m', m = g ++ (p ++ m') ∧ Mid r m'

/-- each part at its first place -/
def mid : List Txt → Txt → Bool
  | [], _ => true
  | p :: r, m => if Lib.index m p < 0 then false else mid r (m.drop ((Lib.index m p).toNat + p.length))

theorem Mid.grow {ps : List Txt} {m : Txt} (x : Txt) (h : Mid ps m) : Mid ps (x ++ m) := by
  cases ps with
  | nil => trivial
  | cons p r =>
    obtain ⟨g, m', rfl, h'⟩ := h
    exact ⟨x ++ g, m', by simp, h'⟩

theorem prefix_iff (p t : Txt) : p.isPrefixOf t = true ↔ ∃ r, t = p ++ r := by
  rw [List.isPrefixOf_iff_prefix]
  constructor
  · rintro ⟨r, h⟩; exact ⟨r, h.symm⟩
  · rintro ⟨r, h⟩; exact ⟨r, h.symm⟩

theorem suffix_iff (p t : Txt) : p.isSuffixOf t = true ↔ ∃ r, t = r ++ p := by
  rw [List.isSuffixOf_iff_suffix]
  constructor
  · rintro ⟨r, h⟩; exact ⟨r, h.symm⟩
  · rintro ⟨r, h⟩; exact ⟨r, h.symm⟩

/-- what the search says -/
theorem index_facts (m p : Txt) : (Lib.index m p = -1 ∧ ∀ g m', m ≠ g ++ (p ++ m')) ∨
    ∃ i : Nat, Lib.index m p = i ∧ i + p.length ≤ m.length ∧ (∃ m', m.drop i = p ++ m') ∧ ∀ g m', m = g ++ (p ++ m') → i ≤ g.length := by
  induction m with
  | nil =>
    cases p with
    | nil => right; exact ⟨0, rfl, by simp, ⟨[], rfl⟩, by simp⟩
    | cons c p => left; refine ⟨by simp [Lib.index], ?_⟩; intro g m' h; simp at h
  | cons b l ih =>
    by_cases h : p.isPrefixOf (b :: l) = true
    · right
      obtain ⟨r, hr⟩ := (prefix_iff _ _).1 h
      refine ⟨0, by simp only [Lib.index, h, if_true]; rfl, ?_, ⟨r, hr⟩, by simp⟩
      rw [hr]; simp
    · have hno : ∀ m', b :: l ≠ p ++ m' := fun m' e => h ((prefix_iff _ _).2 ⟨m', e⟩)
      have e1 : Lib.index (b :: l) p = if Lib.index l p == -1 then -1 else Lib.index l p + 1 := by
        simp only [Lib.index]; rw [if_neg h]
      rcases ih with ⟨h1, h2⟩ | ⟨i, h1, h2, ⟨m', h3⟩, h4⟩
      · left
        refine ⟨by rw [e1, h1]; simp, ?_⟩
        intro g m' e
        cases g with
        | nil => exact hno m' e
        | cons c g =>
          simp only [List.cons_append, List.cons.injEq] at e
          exact h2 g m' e.2
      · right
        refine ⟨i + 1, ?_, by rw [List.length_cons]; omega, ⟨m', by simpa using h3⟩, ?_⟩
        · rw [e1, h1, if_neg (by simp)]; omega
        · intro g m'' e
          cases g with
          | nil => exact absurd e (hno m'')
          | cons c g =>
            simp only [List.cons_append, List.cons.injEq] at e
            have := h4 g m'' e.2
            simp; omega

theorem mid_iff (ps : List Txt) (m : Txt) : mid ps m = true ↔ Mid ps m := by
  induction ps generalizing m with
  | nil => simp [mid, Mid]
  | cons p r ih =>
    rcases index_facts m p with ⟨h1, h2⟩ | ⟨i, h1, h2, ⟨m', h3⟩, h4⟩
    · constructor
      · intro h; simp [mid, h1] at h
      · rintro ⟨g, m', e, _⟩; exact absurd e (h2 g m')
    · have e0 : mid (p :: r) m = mid r (m.drop (i + p.length)) := by
        simp only [mid, h1]
        rw [if_neg (by omega)]; simp
      have hd : m.drop (i + p.length) = m' := by
        rw [← List.drop_drop, h3, List.drop_left]
      rw [e0, ih, hd]
      constructor
      · intro h
        refine ⟨m.take i, m', ?_, h⟩
        rw [← h3, List.take_append_drop]
      · rintro ⟨g, m'', e, h⟩
        have hi := h4 g m'' e
        have e2 : m' = (g.drop i ++ p ++ m'').drop p.length := by
          rw [← hd, ← List.drop_drop, e, List.drop_append_of_le_length hi]
          simp
        have hlen : (g.drop i ++ p).length ≥ p.length := by simp
        rw [e2, List.drop_append_of_le_length hlen]
        exact h.grow _

/-- a pattern of at least two parts -/
theorem fill_two (f l : Txt) (ms : List Txt) (t : Txt) : Fill (f :: (ms ++ [l])) t ↔ ∃ m, t = f ++ (m ++ l) ∧ Mid ms m := by
  induction ms generalizing f t with
  | nil =>
    simp only [List.nil_append, Fill]
    constructor
    · rintro ⟨g, t', e, rfl⟩; exact ⟨g, e, trivial⟩
    · rintro ⟨m, e, _⟩; exact ⟨m, l, e, rfl⟩
  | cons q qs ih =>
    simp only [List.cons_append, Fill]
    constructor
    · rintro ⟨g, t', e, h⟩
      obtain ⟨m', rfl, h'⟩ := (ih q t').1 h
      exact ⟨g ++ (q ++ m'), by rw [e]; simp, g, m', rfl, h'⟩
    · rintro ⟨m, e, g, m', rfl, h'⟩
      exact ⟨g, q ++ (m' ++ l), by rw [e]; simp, (ih q _).2 ⟨m', rfl, h'⟩⟩

/-- the Go text's own test, at two parts or more -/
def two (f l : Txt) (ms : List Txt) (t : Txt) : Bool :=
  decide (f.length + l.length ≤ t.length) && f.isPrefixOf t && l.isSuffixOf t && mid ms ((t.drop f.length).take (t.length - l.length - f.length))

theorem two_iff (f l : Txt) (ms : List Txt) (t : Txt) : two f l ms t = true ↔ Fill (f :: (ms ++ [l])) t := by
  rw [fill_two]
  simp only [two, Bool.and_eq_true, decide_eq_true_eq, prefix_iff, suffix_iff, mid_iff]
  constructor
  · rintro ⟨⟨⟨h1, r, h2⟩, r', h3⟩, h4⟩
    refine ⟨_, ?_, h4⟩
    have hf : t.take f.length = f := by rw [h2, List.take_left]
    have hl : t.drop (t.length - l.length) = l := by
      have : t.length - l.length = r'.length := by rw [h3]; simp
      rw [this]; conv => lhs; rw [h3]
      rw [List.drop_left]
    have e1 : t = t.take f.length ++ t.drop f.length := (List.take_append_drop _ _).symm
    have e2 : t.drop f.length = (t.drop f.length).take (t.length - l.length - f.length) ++ (t.drop f.length).drop (t.length - l.length - f.length) := (List.take_append_drop _ _).symm
    rw [List.drop_drop, show f.length + (t.length - l.length - f.length) = t.length - l.length by omega, hl] at e2
    rw [← e2]
    conv => lhs; rw [e1, hf]
  · rintro ⟨m, rfl, h⟩
    refine ⟨⟨⟨by simp only [List.length_append]; omega, ⟨_, rfl⟩⟩, ⟨f ++ m, by simp⟩⟩, ?_⟩
    have e : ((f ++ (m ++ l)).drop f.length).take ((f ++ (m ++ l)).length - l.length - f.length) = m := by
      rw [List.drop_left]
      have : (f ++ (m ++ l)).length - l.length - f.length = m.length := by simp; omega
      rw [this, List.take_left]
    rw [e]
    exact h

/-- what matches computes -/
def matchesP : List Txt → Txt → Bool
  | [], _ => false
  | [p], t => t == p
  | p :: q :: r, t => two p ((q :: r).getLast (by simp)) ((q :: r).dropLast) t

theorem matches_iff (ps : List Txt) (t : Txt) : matchesP ps t = true ↔ Fill ps t := by
  match ps with
  | [] => simp [matchesP, Fill]
  | [p] => simp [matchesP, Fill]
  | p :: q :: r =>
    simp only [matchesP]
    rw [two_iff, List.dropLast_concat_getLast]

end Go.Proofs.Qxb6600834a.Plain
