/-
  WHAT THE WALK OF FnCountOfWrittenArray LEANS ON: an append from a row of the call's own; the lengths of what is written.
-/
import Derived.Test.Qxb6600387aQuote
import Derived.Test.Qxb6600387aSums
set_option linter.unusedVariables false
namespace Go.Proofs.Qxb6600387a
open Go.RowKit Plain

theorem Src.below {w w' : World} {ao : Option Addr} {len cap : Nat} {xs : List Value} (h : Src w ao len cap xs) (hb : Below w.heap.size w w') : Src w' ao len cap xs := by
  obtain ⟨h1, h2, h3 | ⟨x, rfl, h4 | ⟨b, off, rfl, h5⟩⟩⟩ := h
  · exact ⟨h1, h2, .inl h3⟩
  · exact ⟨h1, h2, .inr ⟨x, rfl, .inl h4⟩⟩
  · refine ⟨h1, h2, .inr ⟨_, rfl, .inr ⟨b, off, rfl, ?_⟩⟩⟩
    intro i u hu
    have := h5 i u hu
    rw [hb.cell (p := ⟨b, off + i, none⟩) (block_lt this)]
    exact this

/-- the value's form -/
theorem Own.view {B : Nat} {e : TypeId} {w : World} {v : Value} {xs : List Value} (h : Own B e w v xs) :
    ∃ ao c, v = .slice ao xs.length c ∧ (xs = [] ∨ ∃ g, ao = some ⟨g, 0, none⟩ ∧ g < w.heap.size ∧ xs.length ≤ c ∧ ∀ i u, xs[i]? = some u → w.cell? ⟨g, i, none⟩ = some u) := by
  rcases h.shape with ⟨rfl, rfl⟩ | ⟨g, cap, rfl, h1, h2, h3, h4⟩
  · exact ⟨none, 0, rfl, .inl rfl⟩
  · exact ⟨_, cap, rfl, .inr ⟨g, rfl, h2, h3, h4⟩⟩

/-- 'append(dst, src...)', both rows of the call's own -/
theorem app_own {w W : World} {ops : Array Oper} {rest : List Oper} {o : Oper} {a : Act} {Q : Exit → Act → World → Prop} {B B' : Nat} {v u : Value} {l m : List UInt8} (s x : Operand)
    (hgd : o.guard = none) (ho : o.op = .call { callee := .builtin .append, args := #[s, x], argTypes := #[22, 22] }) (hs : a.eval s = v) (hx : a.eval x = u) (hsrc : Own B' 5 w u (bcells m))
    (hbuf : Own B 5 w v (bcells l)) (hbel : Below B W w) (hB : B ≤ W.heap.size) (hlen : l.length + m.length ≤ 1073741824)
    (h : ∀ v' w', Own B 5 w' v' (bcells (l ++ m)) → Below B W w' → wpList Try.prog ops Q rest (a.put o.dst v') w') : wpList Try.prog ops Q (o :: rest) a w := by
  obtain ⟨i0, hi, hz0, hz1, hz2⟩ := info_parts infoByte
  have hz := hbel.size
  rcases hsrc.shape with ⟨rfl, hm⟩ | ⟨g, cap, rfl, h1, h2, h3, h4⟩
  · have hm' : m = [] := by simpa [bcells] using hm
    subst hm'
    refine wpList_append_own_none hgd s x 22 ho B 5 i0 1 Try.underlying22 hi v _ _ hs hbuf hx ?_
    have := h v w (by rw [List.append_nil]; exact hbuf) hbel
    exact this
  · refine wpList_append_own _ hgd s x 22 ho B 5 i0 (.int .u8 0) 1 1 Try.underlying22 hi hz0 hz1 hz2 rfl (by decide) v (bcells l).length (bcells l) hs hbuf ⟨g, 0, none⟩ (bcells m).length cap (bcells m) hx (by simp) ?_ ?_ ?_ ?_ ?_ ?_
    · intro j u hj
      rw [Addr.add_lit, Nat.zero_add]
      exact h4 j u hj
    · intro u hu
      simp only [bcells, List.mem_map] at hu
      obtain ⟨c, _, rfl⟩ := hu
      rfl
    · rw [bcells_length, bcells_length]; unfold maxLen; omega
    · rw [bcells_length, bcells_length]; omega
    · omega
    · intro v' w' hown hg _
      obtain ⟨h1, h2⟩ := Own.grown' (ys := bcells m) hbuf hbel hB hown hg
      rw [← bcells_append] at h1
      exact h v' w' h1 h2

def tot (l : List ByteArray) : Nat := (l.map ByteArray.size).sum
theorem tot_snoc (l : List ByteArray) (k : Nat) (s : ByteArray) (h : l[k]? = some s) : tot (l.take (k + 1)) = tot (l.take k) + s.size := by
  rw [List.take_add_one, h]; simp [tot]
theorem tot_append (a b : List ByteArray) : tot (a ++ b) = tot a + tot b := by simp [tot]
theorem tot_take (l : List ByteArray) (k : Nat) : tot (l.take k) ≤ tot l := by
  have := tot_append (l.take k) (l.drop k)
  rw [List.take_append_drop] at this
  omega
theorem tot_mem (l : List ByteArray) (k : Nat) (s : ByteArray) (h : l[k]? = some s) : tot (l.take k) + s.size ≤ tot l := by
  rw [← tot_snoc l k s h]; exact tot_take _ _

/-- the strings' bytes -/
def dat (l : List ByteArray) : List (List UInt8) := l.map fun s => s.data.toList

theorem item_len (n sp f : Bool) (s : List UInt8) : (render (itemToks n sp f s)).length ≤ 4 * s.length + 24 := by
  have := escq_len s
  cases n <;> cases sp <;> cases f <;> simp [itemToks, elemToks, render, bytes1, quot] <;> omega

theorem arr_len (n sp f : Bool) (l : List ByteArray) : (render (arrToks n sp f (dat l))).length ≤ 4 * tot l + 24 * l.length := by
  induction l generalizing f with
  | nil => simp [dat, arrToks, render]
  | cons s r ih =>
    have h1 := ih false
    have h2 := item_len n sp f s.data.toList
    simp only [dat, List.map_cons, arrToks, render_append, List.length_append, tot, List.sum_cons, List.length_cons] at h1 ⊢
    simp at h2
    omega

end Go.Proofs.Qxb6600387a
