/-
  ROWS OF CELLS: one that came in ('Src'), one that the call itself has made ('Own'); of no program.
-/
import Derived.WalkKit
import Derived.Lib.Strings
import Derived.Lib.Builder
import Derived.Laws.BytesArg
import Derived.Laws.AppendOwnNone
set_option linter.unusedVariables false
namespace Go.Proofs.Qxb6600834a
open Go.RowKit

/-- a list's bytes as cells -/
def bcells (l : List UInt8) : List Value := l.map fun c => Value.int .u8 c.toNat
/-- strings as cells -/
def scells (l : List ByteArray) : List Value := l.map Value.string

theorem bcells_length (l : List UInt8) : (bcells l).length = l.length := by simp [bcells]
theorem scells_length (l : List ByteArray) : (scells l).length = l.length := by simp [scells]
theorem bcells_append (a b : List UInt8) : bcells (a ++ b) = bcells a ++ bcells b := by simp [bcells]
theorem bcells_at (l : List UInt8) (i : Nat) : (bcells l)[i]? = (l[i]?).map fun c => Value.int .u8 c.toNat := by simp [bcells]
theorem scells_at (l : List ByteArray) (i : Nat) : (scells l)[i]? = (l[i]?).map Value.string := by simp [scells]

/-- A SLICE THAT CAME IN: nil, or its cells are xs. -/
def Src (w : World) (ao : Option Addr) (len cap : Nat) (xs : List Value) : Prop :=
  xs.length = len ∧ len ≤ cap ∧ ((ao = none ∧ cap = 0) ∨ ∃ x, ao = some x ∧ (xs = [] ∨ ∃ b off, x = ⟨b, off, none⟩ ∧ ∀ i u, xs[i]? = some u → w.cell? ⟨b, off + i, none⟩ = some u))

/-- A SLICE OF THE CALL's OWN: nil, or it begins at the head of one of the call's own blocks (from B on); its elements are xs. -/
def Own (B : Nat) (e : TypeId) (w : World) (v : Value) (xs : List Value) : Prop := w.ownsRow B e 1 v xs.length xs

theorem block_lt {w : World} {a : Addr} {u : Value} (h : w.cell? a = some u) : a.block < w.heap.size := by
  rcases Nat.lt_or_ge a.block w.heap.size with h' | h'
  · exact h'
  · simp [World.cell?, Array.getElem?_eq_none h'] at h

theorem Own.shape {B : Nat} {e : TypeId} {w : World} {v : Value} {xs : List Value} (h : Own B e w v xs) :
    (v = .slice none 0 0 ∧ xs = []) ∨ ∃ g cap, v = .slice (some ⟨g, 0, none⟩) xs.length cap ∧ B ≤ g ∧ g < w.heap.size ∧ xs.length ≤ cap ∧ ∀ i u, xs[i]? = some u → w.cell? ⟨g, i, none⟩ = some u := by
  obtain ⟨hl, ⟨h1, h2⟩ | ⟨g, cap, cur, h1, h2, h3, h4, h5, h6, h7⟩⟩ := h
  · exact .inl ⟨h1, List.length_eq_zero_iff.1 h2⟩
  · refine .inr ⟨g, cap, h1, h2, ?_, h4, ?_⟩
    · rcases Nat.lt_or_ge g w.heap.size with h' | h'
      · exact h'
      · simp [Array.getElem?_eq_none h'] at h3
    · intro i u hu
      have hi : i < xs.length := (List.getElem?_eq_some_iff.1 hu).1
      rw [Lib.cell_of_heap h3, ← Array.getElem?_toList]
      rw [← h7, List.getElem?_take_of_lt (by omega)] at hu
      exact hu

/-- what is owned stays owned where the blocks from B on, up to the heap's end, are as they were -/
theorem Own.below {B C : Nat} {e : TypeId} {w w' : World} {v : Value} {xs : List Value} (h : Own B e w v xs) (hC : w.heap.size ≤ C) (hb : Below C w w') : Own B e w' v xs := by
  obtain ⟨hl, ⟨h1, h2⟩ | ⟨g, cap, cur, h1, h2, h3, h4⟩⟩ := h
  · exact ⟨hl, .inl ⟨h1, h2⟩⟩
  · refine ⟨hl, .inr ⟨g, cap, cur, h1, h2, ?_, h4⟩⟩
    have hg : g < w.heap.size := by
      rcases Nat.lt_or_ge g w.heap.size with h' | h'
      · exact h'
      · simp [Array.getElem?_eq_none h'] at h3
    rw [hb.block g (by omega)]
    exact h3

theorem Own.grown {B : Nat} {e : TypeId} {W w1 w2 : World} {o : Obj} {v v' : Value} {xs ys : List Value} (h : Own B e w1 v xs) (hb : Below B W w1) (hB : B ≤ W.heap.size)
    (hown : w2.ownsRow B e 1 v' (xs.length + ys.length) (xs ++ ys)) (hg : (w1.alloc o).grownBy w2 v.ownBlock) :
    Own B e w2 v' (xs ++ ys) ∧ Below B W w2 := by
  refine ⟨?_, ?_⟩
  · unfold Own
    rw [List.length_append]
    exact hown
  · have hz := hb.size
    exact (hb.alloc (by omega) _).grown hg (by simp; omega) (fun k hk => (World.ownsRow.lt h k hk).1)

theorem Own.grown' {B : Nat} {e : TypeId} {W w1 w2 : World} {v v' : Value} {xs ys : List Value} (h : Own B e w1 v xs) (hb : Below B W w1) (hB : B ≤ W.heap.size)
    (hown : w2.ownsRow B e 1 v' (xs.length + ys.length) (xs ++ ys)) (hg : w1.grownBy w2 v.ownBlock) :
    Own B e w2 v' (xs ++ ys) ∧ Below B W w2 := by
  refine ⟨?_, ?_⟩
  · unfold Own
    rw [List.length_append]
    exact hown
  · have hz := hb.size
    exact hb.grown hg (by omega) (fun k hk => (World.ownsRow.lt h k hk).1)

/-! ### one round of a copy -/

theorem set_next (xs : List Value) (z : Value) (k n : Nat) (u : Value) (h : xs[k]? = some u) (hn : xs.length = n) :
    (xs.take k ++ List.replicate (n - k) z).set k u = xs.take (k + 1) ++ List.replicate (n - (k + 1)) z := by
  have hk : k < xs.length := (List.getElem?_eq_some_iff.1 h).1
  rw [List.set_append]
  have e1 : (xs.take k).length = k := by simp; omega
  rw [if_neg (by omega), e1, Nat.sub_self, List.take_add_one, h]
  have e2 : n - k = (n - (k + 1)) + 1 := by omega
  rw [e2, List.replicate_succ]
  simp

theorem copy_step {B n k : Nat} {e : TypeId} {W w : World} {xs : List Value} {z u : Value} (hn : xs.length = n) (hB : B ≤ W.heap.size)
    (h : w.ownsRow B e 1 (.slice (some ⟨B, 0, none⟩) n n) n (xs.take k ++ List.replicate (n - k) z)) (hb : Below B W w) (hu : xs[k]? = some u) :
    (w.setCell ⟨B, k, none⟩ u).ownsRow B e 1 (.slice (some ⟨B, 0, none⟩) n n) n (xs.take (k + 1) ++ List.replicate (n - (k + 1)) z) ∧ Below B W (w.setCell ⟨B, k, none⟩ u) := by
  have hs := World.ownsRow.stored h k u
  rw [set_next xs z k n u hu hn] at hs
  exact ⟨hs.1, hb.setCell (p := ⟨B, k, none⟩) (Nat.le_refl _) u⟩

end Go.Proofs.Qxb6600834a
