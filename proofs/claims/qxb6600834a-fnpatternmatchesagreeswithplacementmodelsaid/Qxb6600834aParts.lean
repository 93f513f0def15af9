/-
  WHAT THE WALK OF FnPatternMatchesEveryFilling LEANS ON: an append of a string's bytes; a row of bytes as a string; the text that is built; lengths.
-/
import Derived.Test.Qxb6600834aSums
import Derived.Lib.AppendStr
set_option linter.unusedVariables false
namespace Go.Proofs.Qxb6600834a
open Go.RowKit Plain

theorem Src.below {w w' : World} {ao : Option Addr} {len cap : Nat} {xs : List Value} (h : Src w ao len cap xs) (hb : Below w.heap.size w w') : Src w' ao len cap xs := by
  obtain ⟨h1, h2, h3 | ⟨x, rfl, h4 | ⟨b, off, rfl, h5⟩⟩⟩ := h
  · exact ⟨h1, h2, .inl h3⟩
  · exact ⟨h1, h2, .inr ⟨x, rfl, .inl h4⟩⟩
  · refine ⟨h1, h2, .inr ⟨_, rfl, .inr ⟨b, off, rfl, ?_⟩⟩⟩
    intro i u hu
    have := h5 i u hu
    rw [hb.cell (p := ⟨b, off + i, none⟩) (block_lt this)]
    exact this

/-- the value's form -/
theorem Own.view {B : Nat} {e : TypeId} {w : World} {v : Value} {xs : List Value} (h : Own B e w v xs) :
    ∃ ao c, v = .slice ao xs.length c ∧ (xs = [] ∨ ∃ g, ao = some ⟨g, 0, none⟩ ∧ g < w.heap.size ∧ xs.length ≤ c ∧ ∀ i u, xs[i]? = some u → w.cell? ⟨g, i, none⟩ = some u) := by
  rcases h.shape with ⟨rfl, rfl⟩ | ⟨g, cap, rfl, h1, h2, h3, h4⟩
  · exact ⟨none, 0, rfl, .inl rfl⟩
  · exact ⟨_, cap, rfl, .inr ⟨g, rfl, h2, h3, h4⟩⟩

/-- 'append(dst, s...)' -/
theorem app_str {w W : World} {ops : Array Oper} {rest : List Oper} {o : Oper} {a : Act} {Q : Exit → Act → World → Prop} {B : Nat} {v : Value} {l : List UInt8} {s : ByteArray} (d x : Operand)
    (hgd : o.guard = none) (ho : o.op = .call { callee := .builtin .append, args := #[d, x], argTypes := #[30, 9] }) (hs : a.eval d = v) (hx : a.eval x = .string s)
    (hbuf : Own B 5 w v (bcells l)) (hbel : Below B W w) (hB : B ≤ W.heap.size) (hlen : l.length + s.size ≤ 1073741824)
    (h : ∀ v' w', Own B 5 w' v' (bcells (l ++ s.data.toList)) → Below B W w' → wpList Try.prog ops Q rest (a.put o.dst v') w') : wpList Try.prog ops Q (o :: rest) a w := by
  obtain ⟨i0, hi, hz0, hz1, hz2⟩ := info_parts infoByte
  have hz := hbel.size
  refine Lib.wpList_append_own_string _ hgd d x 30 9 ho B 5 i0 Try.underlying30 Try.underlying9 hi hz0 hz1 hz2 v (bcells l).length (bcells l) hs hbuf s hx ?_ ?_ ?_ ?_
  · rw [bcells_length]; unfold maxLen; omega
  · rw [bcells_length]; omega
  · omega
  · intro v' w' hown hg _
    have e : Lib.strCells s = bcells s.data.toList := rfl
    rw [e] at hown
    have e2 : s.size = (bcells s.data.toList).length := by rw [bcells_length]; simp
    rw [e2] at hown
    obtain ⟨h1, h2⟩ := Own.grown' (ys := bcells s.data.toList) hbuf hbel hB hown hg
    rw [← bcells_append] at h1
    exact h v' w' h1 h2

/-- a row of bytes as a string -/
theorem Own.str {P : Program} {B : Nat} {w : World} {v : Value} {l : List UInt8} (h : Own B 5 w v (bcells l)) {src dst : TypeId} (hs : P.underlying src = some (.slice 5)) (he : P.underlying 5 = some (.int .u8)) (hd : P.underlying dst = some .string) :
    (convert src dst v).run P w = .ok (.string ⟨l.toArray⟩) w := by
  rcases h.shape with ⟨rfl, h0⟩ | ⟨g, cap, rfl, h1, h2, h3, h4⟩
  · obtain rfl : l = [] := by simpa [bcells] using h0
    rw [run_convert_bytes_nil w src 5 hs he 0 0 dst hd]
    rfl
  · rw [run_convert_bytes_arg w src 5 hs he g 0 (bcells l).length cap (l.map fun c => (c.toNat : Int)) (by simp [bcells]) ?_ dst hd]
    · have : strOfNums (l.map fun c => (c.toNat : Int)) = ⟨l.toArray⟩ := by
        unfold strOfNums
        simp [Function.comp_def]
      rw [this]
    · intro i hi
      rw [bcells_length] at hi
      rw [Nat.zero_add, h4 i (.int .u8 (l[i].toNat)) (by rw [bcells_at]; simp [hi])]
      simp [List.getD, hi]

def tot (l : List ByteArray) : Nat := (l.map ByteArray.size).sum
theorem tot_snoc (l : List ByteArray) (k : Nat) (s : ByteArray) (h : l[k]? = some s) : tot (l.take (k + 1)) = tot (l.take k) + s.size := by
  rw [List.take_add_one, h]; simp [tot]
theorem tot_append (a b : List ByteArray) : tot (a ++ b) = tot a + tot b := by simp [tot]
theorem tot_take (l : List ByteArray) (k : Nat) : tot (l.take k) ≤ tot l := by
  have := tot_append (l.take k) (l.drop k)
  rw [List.take_append_drop] at this
  omega
theorem tot_mem (l : List ByteArray) (k : Nat) (s : ByteArray) (h : l[k]? = some s) : tot (l.take k) + s.size ≤ tot l := by
  rw [← tot_snoc l k s h]; exact tot_take _ _

/-! ### the text that is built -/

def bufT : (Nat → Txt) → List Txt → Txt
  | _, [] => []
  | gs, p :: r => p ++ (gs 0 ++ bufT (fun i => gs (i + 1)) r)

theorem bufT_append (gs : Nat → Txt) (a b : List Txt) : bufT gs (a ++ b) = bufT gs a ++ bufT (fun i => gs (i + a.length)) b := by
  induction a generalizing gs with
  | nil => simp [bufT]
  | cons p r ih =>
    simp only [List.cons_append, bufT, ih, List.length_cons, List.append_assoc]
    have : (fun i => gs (i + r.length + 1)) = fun i => gs (i + (r.length + 1)) := rfl
    rw [this]

theorem bufT_snoc (gs : Nat → Txt) (l : List Txt) (k : Nat) (p : Txt) (h : l[k]? = some p) : bufT gs (l.take (k + 1)) = bufT gs (l.take k) ++ (p ++ gs k) := by
  rw [List.take_add_one, h, bufT_append]
  have hk : k < l.length := (List.getElem?_eq_some_iff.1 h).1
  have e : (l.take k).length = k := by simp; omega
  simp [bufT, e]

theorem bufT_fill (gs : Nat → Txt) (ps : List Txt) (hne : ps ≠ []) (h : gs (ps.length - 1) = []) : Fill ps (bufT gs ps) := by
  induction ps generalizing gs with
  | nil => exact absurd rfl hne
  | cons p r ih =>
    cases r with
    | nil =>
      simp at h
      simp [bufT, Fill, h]
    | cons q r =>
      exact ⟨gs 0, bufT (fun i => gs (i + 1)) (q :: r), rfl, ih _ (by simp) (by simpa using h)⟩

/-- the gap behind part i -/
def gap (n : Nat) (gl : List ByteArray) (i : Nat) : Txt := if i + 1 < n then ((gl[i]?).map fun s => s.data.toList).getD [] else []

theorem gap_yes {n : Nat} {gl : List ByteArray} {i : Nat} {s : ByteArray} (h : i + 1 < n) (hs : gl[i]? = some s) : gap n gl i = s.data.toList := by simp [gap, h, hs]
theorem gap_no1 {n : Nat} {gl : List ByteArray} {i : Nat} (h : ¬ i + 1 < n) : gap n gl i = [] := by simp [gap, h]
theorem gap_no2 {n : Nat} {gl : List ByteArray} {i : Nat} (h : gl.length ≤ i) : gap n gl i = [] := by simp [gap, h]

end Go.Proofs.Qxb6600834a
