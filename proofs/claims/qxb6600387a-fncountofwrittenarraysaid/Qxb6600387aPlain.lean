/-
  PLAIN LAWS, NO GO IN SIGHT: an array of strings as a list of tokens (one byte, or one quot string), how it is written, and what a count over its tokens answers.
-/
namespace Go.Proofs.Qxb6600387a.Plain

/-- a string's bytes, each quote (34) and backslash (92) behind a backslash -/
def escq : List UInt8 → List UInt8
  | [] => []
  | c :: r => if c = 34 ∨ c = 92 then 92 :: c :: escq r else c :: escq r

def quot (s : List UInt8) : List UInt8 := 34 :: (escq s ++ [34])

theorem escq_append (a b : List UInt8) : escq (a ++ b) = escq a ++ escq b := by
  induction a with
  | nil => rfl
  | cons c r ih =>
    simp only [List.cons_append, escq]
    split <;> simp [ih]

theorem escq_one (c : UInt8) : escq [c] = if c = 34 ∨ c = 92 then [92, c] else [c] := by
  simp only [escq]

theorem escq_len (a : List UInt8) : (escq a).length ≤ 2 * a.length := by
  induction a with
  | nil => simp [escq]
  | cons c r ih =>
    simp only [escq]
    split <;> simp <;> omega

/-- how many backslashes stand at the list's head -/
def headRun : List UInt8 → Nat
  | [] => 0
  | c :: r => if c = 92 then headRun r + 1 else 0

/-- .. at its end -/
def bsRun (l : List UInt8) : Nat := headRun l.reverse

theorem bsRun_nil : bsRun [] = 0 := rfl
theorem bsRun_snoc (l : List UInt8) (c : UInt8) : bsRun (l ++ [c]) = if c = 92 then bsRun l + 1 else 0 := by
  simp [bsRun, headRun]

theorem headRun_le (l : List UInt8) : headRun l ≤ l.length := by
  induction l with
  | nil => simp [headRun]
  | cons c r ih => simp only [headRun]; split <;> simp; omega

theorem bsRun_le (l : List UInt8) : bsRun l ≤ l.length := by
  have := headRun_le l.reverse; simpa [bsRun] using this

theorem headRun_escq (s : List UInt8) : ∀ t : List UInt8, s = t.reverse → headRun (escq s).reverse % 2 = 0 := by
  intro t
  induction t generalizing s with
  | nil => intro h; subst h; rfl
  | cons c t ih =>
    intro h
    subst h
    have e := ih t.reverse rfl
    rw [List.reverse_cons, escq_append, escq_one]
    by_cases h1 : c = 92
    · subst h1; simp [headRun]; omega
    · by_cases h2 : c = 34
      · subst h2; simp [headRun]
      · simp [h1, h2, headRun]

theorem bsRun_escq (s : List UInt8) : bsRun (escq s) % 2 = 0 := headRun_escq s s.reverse (by simp)

/-! ### tokens -/

/-- a byte that stands by itself, or a string -/
abbrev Tok := Sum UInt8 (List UInt8)

def bytes1 : Tok → List UInt8
  | .inl b => [b]
  | .inr s => quot s

def render : List Tok → List UInt8
  | [] => []
  | t :: r => bytes1 t ++ render r

theorem render_append (a b : List Tok) : render (a ++ b) = render a ++ render b := by
  induction a with
  | nil => rfl
  | cons c r ih => simp [render, ih]

structure St where
  commas : Nat
  depth : Nat
  bare : Bool

def tstep (st : St) : Tok → St
  | .inr _ => { st with bare := false }
  | .inl b =>
    if b = 32 ∨ b = 9 ∨ b = 10 ∨ b = 13 then st
    else if b = 91 ∨ b = 123 then { st with depth := st.depth + 1, bare := false }
    else if b = 93 ∨ b = 125 then { st with depth := st.depth - 1, bare := false }
    else if b = 44 then { st with commas := if st.depth = 0 then st.commas + 1 else st.commas, bare := false }
    else { st with bare := false }

/-- the bytes that a count meets outside strings; a closing one only inside an opened one -/
def fine (st : St) : Tok → Prop
  | .inr _ => True
  | .inl b => b = 32 ∨ b = 9 ∨ b = 10 ∨ b = 13 ∨ b = 91 ∨ b = 123 ∨ ((b = 93 ∨ b = 125) ∧ 0 < st.depth) ∨ b = 44 ∨ b = 58

def trun (st : St) : List Tok → St
  | [] => st
  | t :: r => trun (tstep st t) r

def fineAll (st : St) : List Tok → Prop
  | [] => True
  | t :: r => fine st t ∧ fineAll (tstep st t) r

theorem run_append (st : St) (a b : List Tok) : trun st (a ++ b) = trun (trun st a) b := by
  induction a generalizing st with
  | nil => rfl
  | cons t r ih => simp only [List.cons_append, trun]; exact ih _

theorem fineAll_append (st : St) (a b : List Tok) : fineAll st (a ++ b) ↔ fineAll st a ∧ fineAll (trun st a) b := by
  induction a generalizing st with
  | nil => simp [fineAll, trun]
  | cons t r ih => simp only [List.cons_append, fineAll, trun, ih, and_assoc]

theorem step_commas_le (st : St) (t : Tok) : (tstep st t).commas ≤ st.commas + 1 := by
  cases t with
  | inr s => simp [tstep]
  | inl b => simp only [tstep]; (repeat' split) <;> simp
theorem step_depth_le (st : St) (t : Tok) : (tstep st t).depth ≤ st.depth + 1 := by
  cases t with
  | inr s => simp [tstep]
  | inl b => simp only [tstep]; (repeat' split) <;> first | (simp; done) | (simp; omega)
theorem run_le (st : St) (a : List Tok) : (trun st a).commas ≤ st.commas + a.length ∧ (trun st a).depth ≤ st.depth + a.length := by
  induction a generalizing st with
  | nil => simp [trun]
  | cons t r ih =>
    have := ih (tstep st t)
    have h1 := step_commas_le st t
    have h2 := step_depth_le st t
    simp only [trun, List.length_cons]
    omega
theorem len_render (a : List Tok) : a.length ≤ (render a).length := by
  induction a with
  | nil => simp
  | cons t r ih =>
    simp only [render, List.length_cons, List.length_append]
    have : 1 ≤ (bytes1 t).length := by cases t <;> simp [bytes1, quot]
    omega

/-! ### the array as it is written -/

def elemToks (nested spaced : Bool) (s : List UInt8) : List Tok :=
  if nested then [.inl 91, .inr s, .inl 44] ++ (if spaced then [.inl 9] else []) ++ [.inl 123, .inr s, .inl 58, .inl 91, .inl 93, .inl 125, .inl 93] else [.inr s]

def itemToks (nested spaced first : Bool) (s : List UInt8) : List Tok :=
  (if first then [] else [.inl 44]) ++ (if spaced then [.inl 32, .inl 10] else []) ++ elemToks nested spaced s ++ (if spaced then [.inl 13, .inl 32] else [])

def arrToks (nested spaced : Bool) : Bool → List (List UInt8) → List Tok
  | _, [] => []
  | first, s :: r => itemToks nested spaced first s ++ arrToks nested spaced false r

theorem arrToks_append (n sp f : Bool) (a b : List (List UInt8)) : arrToks n sp f (a ++ b) = arrToks n sp f a ++ arrToks n sp (f && a.isEmpty) b := by
  induction a generalizing f with
  | nil => simp [arrToks]
  | cons s r ih => simp [arrToks, ih]

theorem arrToks_snoc (n sp : Bool) (l : List (List UInt8)) (k : Nat) (s : List UInt8) (h : l[k]? = some s) :
    arrToks n sp true (l.take (k + 1)) = arrToks n sp true (l.take k) ++ itemToks n sp (decide (k = 0)) s := by
  rw [List.take_add_one, h, arrToks_append]
  have e : (true && (l.take k).isEmpty) = decide (k = 0) := by
    cases k with
    | zero => simp
    | succ k =>
      cases l with
      | nil => simp at h
      | cons a l => simp
  rw [e]
  simp [arrToks]

theorem item_fine (n sp f : Bool) (s : List UInt8) (c : Nat) (e : Bool) : fineAll ⟨c, 0, e⟩ (itemToks n sp f s) := by
  cases n <;> cases sp <;> cases f <;> simp [itemToks, elemToks, fineAll, fine, tstep]

theorem item_run (n sp f : Bool) (s : List UInt8) (c : Nat) (e : Bool) : trun ⟨c, 0, e⟩ (itemToks n sp f s) = ⟨if f then c else c + 1, 0, false⟩ := by
  cases n <;> cases sp <;> cases f <;> simp [itemToks, elemToks, trun, tstep]

theorem rest_fine (n sp : Bool) (l : List (List UInt8)) (c : Nat) (e : Bool) : fineAll ⟨c, 0, e⟩ (arrToks n sp false l) ∧ (trun ⟨c, 0, e⟩ (arrToks n sp false l)).commas = c + l.length ∧ (trun ⟨c, 0, e⟩ (arrToks n sp false l)).depth = 0 ∧ (trun ⟨c, 0, e⟩ (arrToks n sp false l)).bare = (e && l.isEmpty) := by
  induction l generalizing c e with
  | nil => simp [arrToks, fineAll, trun]
  | cons s r ih =>
    obtain ⟨h1, h2, h3, h4⟩ := ih (c + 1) false
    simp only [arrToks, fineAll_append, run_append, item_run]
    refine ⟨⟨item_fine _ _ _ _ _ _, by simpa using h1⟩, ?_, ?_, ?_⟩
    · simp [h2]; omega
    · simpa using h3
    · simpa using h4

/-- the tokens between the array's brackets -/
def inner (n sp : Bool) (l : List (List UInt8)) : List Tok := arrToks n sp true l ++ if sp then [.inl 32] else []

def st0 : St := ⟨0, 0, true⟩

theorem inner_fine (n sp : Bool) (l : List (List UInt8)) : fineAll st0 (inner n sp l) ∧ (trun st0 (inner n sp l)).depth = 0 ∧
    (if (trun st0 (inner n sp l)).bare then 0 else (trun st0 (inner n sp l)).commas + 1) = l.length := by
  have key : fineAll st0 (arrToks n sp true l) ∧ (trun st0 (arrToks n sp true l)).depth = 0 ∧ (if (trun st0 (arrToks n sp true l)).bare then 0 else (trun st0 (arrToks n sp true l)).commas + 1) = l.length := by
    cases l with
    | nil => simp [arrToks, fineAll, trun, st0]
    | cons s r =>
      obtain ⟨h1, h2, h3, h4⟩ := rest_fine n sp r 0 false
      simp only [arrToks, fineAll_append, run_append, st0, item_run]
      refine ⟨⟨item_fine _ _ _ _ _ _, by simpa using h1⟩, by simpa using h3, ?_⟩
      simp only [if_true]
      rw [h4, h2]
      simp
  unfold inner
  cases sp with
  | false => simpa using key
  | true =>
    simp only [if_true, fineAll_append, run_append]
    refine ⟨⟨key.1, ?_⟩, ?_, ?_⟩
    · simp [fineAll, fine]
    · simpa [trun, tstep] using key.2.1
    · simpa [trun, tstep] using key.2.2

/-- the array's bytes -/
def arr (n sp : Bool) (l : List (List UInt8)) : List UInt8 := 91 :: (render (inner n sp l) ++ [93])

end Go.Proofs.Qxb6600387a.Plain
