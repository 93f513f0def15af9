/-
  A ROW OF BYTES THAT THE CALL ITSELF HAS MADE: one byte appended; the row as a string. Of no program but for the two type numbers.
-/
import Derived.WalkKit
import Derived.Shelf.Strings.Builder1
import Derived.Lib.Strings
import Derived.Laws.BytesArg
import Derived.Lib.Builder
set_option linter.unusedVariables false
namespace Go.Proofs.Qxb6600185a
open Go.RowKit

/-- v is the call's own slice of bytes, and holds l -/
def Buf (B : Nat) (w : World) (v : Value) (l : List UInt8) : Prop := w.ownsRow B 5 1 v l.length (Lib.byteCells l)

theorem Buf.step {B : Nat} {W w1 w2 : World} {o : Obj} {v v' : Value} {l : List UInt8} {c : UInt8} (h : Buf B w1 v l) (hb : Below B W w1) (hB : B ≤ W.heap.size)
    (hown : w2.ownsRow B 5 1 v' (l.length + 1) (Lib.byteCells l ++ [.int .u8 c.toNat])) (hg : (w1.alloc o).grownBy w2 v.ownBlock) :
    Buf B w2 v' (l ++ [c]) ∧ Below B W w2 := by
  refine ⟨?_, ?_⟩
  · show w2.ownsRow B 5 1 v' (l ++ [c]).length (Lib.byteCells (l ++ [c]))
    have e : Lib.byteCells (l ++ [c]) = Lib.byteCells l ++ [.int .u8 c.toNat] := by simp [Lib.byteCells]
    rw [e]
    simpa using hown
  · have hz := hb.size
    exact (hb.alloc (by omega) _).grown hg (by simp; omega) (fun k hk => (World.ownsRow.lt h k hk).1)

theorem Buf.str {P : Program} {B : Nat} {w : World} {v : Value} {l : List UInt8} (h : Buf B w v l) {src dst : TypeId} (hs : P.underlying src = some (.slice 5)) (he : P.underlying 5 = some (.int .u8)) (hd : P.underlying dst = some .string) :
    (convert src dst v).run P w = .ok (.string ⟨l.toArray⟩) w := by
  obtain ⟨hl, h | ⟨g, cap, cur, rfl, hg, hh, hn, hm, hc, ht⟩⟩ := h
  · obtain ⟨rfl, h0⟩ := h
    obtain rfl : l = [] := List.length_eq_zero_iff.1 h0
    rw [run_convert_bytes_nil w src 5 hs he 0 0 dst hd]
    rfl
  · rw [run_convert_bytes_arg w src 5 hs he g 0 l.length cap (l.map fun c => (c.toNat : Int)) (by simp) ?_ dst hd]
    · have : strOfNums (l.map fun c => (c.toNat : Int)) = ⟨l.toArray⟩ := by
        unfold strOfNums
        simp [Function.comp_def]
      rw [this]
    · intro i hi
      have e1 : (Lib.byteCells l)[i]? = some (.int .u8 (l[i].toNat)) := by simp [Lib.byteCells, hi]
      rw [← ht] at e1
      rw [Lib.cell_of_heap hh]
      simp only [Nat.zero_add, Nat.mul_one] at e1 ⊢
      rw [List.getElem?_take_of_lt hi] at e1
      rw [← Array.getElem?_toList, e1]
      simp [List.getD, hi]

end Go.Proofs.Qxb6600185a
