/-
  PLAIN LAWS, NO GO IN SIGHT: what 'unescape' computes on a list of bytes; it inverts escaping; its length.
-/
namespace Go.Proofs.Qxb6600185a.Plain

/-- Each backslash (92) that has a byte behind it is dropped, the byte behind it is taken as it is. -/
def unesc : List UInt8 → List UInt8
  | [] => []
  | [c] => [c]
  | c :: d :: r => if c = 92 then d :: unesc r else c :: unesc (d :: r)

/-- A backslash ahead of each byte that is marked. -/
def esc (m : UInt8 → Bool) : List UInt8 → List UInt8
  | [] => []
  | c :: r => if m c then 92 :: c :: esc m r else c :: esc m r

theorem unesc_bs (d : UInt8) (r : List UInt8) : unesc (92 :: d :: r) = d :: unesc r := by
  rw [unesc]; simp

theorem unesc_other (c : UInt8) (r : List UInt8) (h : c ≠ 92) : unesc (c :: r) = c :: unesc r := by
  cases r with
  | nil => simp [unesc]
  | cons d r => rw [unesc]; simp [h]

theorem unesc_last (c : UInt8) : unesc [c] = [c] := by simp [unesc]

theorem unesc_esc (m : UInt8 → Bool) (hm : m 92 = true) (t : List UInt8) : unesc (esc m t) = t := by
  induction t with
  | nil => rfl
  | cons c r ih =>
    rw [esc]
    by_cases h : m c = true
    · rw [if_pos h, unesc_bs, ih]
    · rw [if_neg h, unesc_other c _ (fun e => h (e ▸ hm)), ih]

theorem esc_append (m : UInt8 → Bool) (a b : List UInt8) : esc m (a ++ b) = esc m a ++ esc m b := by
  induction a with
  | nil => rfl
  | cons c r ih =>
    simp only [List.cons_append, esc]
    split <;> simp [ih]

theorem esc_len (m : UInt8 → Bool) (a : List UInt8) : (esc m a).length ≤ 2 * a.length := by
  induction a with
  | nil => simp [esc]
  | cons c r ih =>
    simp only [esc]
    split <;> simp <;> omega

theorem unesc_plain (s : List UInt8) (h : (92 : UInt8) ∉ s) : unesc s = s := by
  induction s with
  | nil => rfl
  | cons c r ih =>
    simp only [List.mem_cons, not_or] at h
    rw [unesc_other c r (fun e => h.1 e.symm), ih h.2]

def cnt (s : List UInt8) : Nat := (s.filter (fun c => c == 92)).length

theorem cnt_cons (c : UInt8) (r : List UInt8) : cnt (c :: r) = cnt r + if c = 92 then 1 else 0 := by
  unfold cnt
  by_cases h : c = 92 <;> simp [h]

theorem cnt_append (a b : List UInt8) : cnt (a ++ b) = cnt a + cnt b := by
  unfold cnt; simp [List.filter_append]

theorem cnt_le (s : List UInt8) : cnt s ≤ s.length := List.length_filter_le _ _

theorem cnt_zero (s : List UInt8) (h : cnt s = 0) : (92 : UInt8) ∉ s := by
  intro hm
  unfold cnt at h
  rw [List.length_eq_zero_iff, List.filter_eq_nil_iff] at h
  exact h 92 hm (by simp)

/-- the three bounds, by the length -/
theorem unesc_bounds_n : ∀ (n : Nat) (s : List UInt8), s.length ≤ n → (unesc s).length ≤ s.length ∧ s.length ≤ 2 * (unesc s).length ∧ s.length ≤ (unesc s).length + cnt s := by
  intro n
  induction n with
  | zero =>
    intro s hs
    have : s = [] := List.length_eq_zero_iff.1 (by omega)
    subst this
    simp [unesc]
  | succ n ih =>
    intro s hs
    match s, hs with
    | [], _ => simp [unesc]
    | [c], _ => simp [unesc]
    | c :: d :: r, hs =>
      simp only [List.length_cons] at hs
      by_cases h : c = 92
      · subst h
        rw [unesc_bs, cnt_cons, cnt_cons]
        have := ih r (by omega)
        simp only [List.length_cons, if_pos]
        split <;> omega
      · rw [unesc_other c _ h, cnt_cons]
        have := ih (d :: r) (by simp; omega)
        simp only [List.length_cons] at this ⊢
        simp [h]
        omega

theorem unesc_bounds (s : List UInt8) : (unesc s).length ≤ s.length ∧ s.length ≤ 2 * (unesc s).length ∧ s.length ≤ (unesc s).length + cnt s :=
  unesc_bounds_n s.length s (Nat.le_refl _)

/-! The loop's step, over indices. 'acc ++ unesc (s.drop k) = unesc s' is kept. -/

theorem drop_cons (s : List UInt8) (k : Nat) (h : k < s.length) : s.drop k = s[k] :: s.drop (k + 1) := by
  rw [List.drop_eq_getElem_cons h]

theorem step_bs (s acc : List UInt8) (k : Nat) (h : k + 1 < s.length) (hc : s[k] = 92) (hi : acc ++ unesc (s.drop k) = unesc s) :
    (acc ++ [s[k + 1]]) ++ unesc (s.drop (k + 2)) = unesc s := by
  rw [← hi, drop_cons s k (by omega), drop_cons s (k + 1) h, hc, unesc_bs]
  simp

theorem step_other (s acc : List UInt8) (k : Nat) (h : k < s.length) (hc : s[k] ≠ 92) (hi : acc ++ unesc (s.drop k) = unesc s) :
    (acc ++ [s[k]]) ++ unesc (s.drop (k + 1)) = unesc s := by
  rw [← hi, drop_cons s k h, unesc_other _ _ hc]
  simp

theorem step_last (s acc : List UInt8) (k : Nat) (h : k < s.length) (hl : ¬ k + 1 < s.length) (hi : acc ++ unesc (s.drop k) = unesc s) :
    (acc ++ [s[k]]) ++ unesc (s.drop (k + 1)) = unesc s := by
  rw [← hi, drop_cons s k h, List.drop_eq_nil_of_le (show s.length ≤ k + 1 by omega), unesc_last]
  simp [unesc]

end Go.Proofs.Qxb6600185a.Plain
