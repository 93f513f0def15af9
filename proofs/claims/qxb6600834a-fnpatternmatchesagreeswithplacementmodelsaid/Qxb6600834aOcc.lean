/-
  occursAt, BY ITS CONTRACT; rows of bools that the call itself has made.
-/
import Derived.Test.Qxb6600834aParts
import Derived.Test.Qxb6600834aReach
import Derived.Lib.IndexBytes
import Derived.Deep.Draws
import Derived.Deep.QuietTactic
import Derived.BigQuiet
set_option linter.unusedVariables false
namespace Go.Proofs.Qxb6600834a
open Go.RowKit Plain

def occB (t p : Txt) (q : Nat) : Bool := p.isPrefixOf (t.drop q)

theorem occB_iff (t p : Txt) (q : Nat) : occB t p q = true ↔ occ t p q := prefix_iff _ _

theorem occB_yes (t p : Txt) (q : Nat) (h : ∀ j, j < p.length → p[j]? = t[q + j]?) : occB t p q = true := by
  rw [occB_iff]
  refine ⟨(t.drop q).drop p.length, ?_⟩
  conv => lhs; rw [← List.take_append_drop p.length (t.drop q)]
  congr 1
  apply List.ext_getElem?
  intro j
  by_cases hj : j < p.length
  · rw [List.getElem?_take_of_lt hj, List.getElem?_drop, h j hj]
  · rw [List.getElem?_eq_none (by simp; omega), List.getElem?_eq_none (by omega)]

theorem occB_no (t p : Txt) (q j : Nat) (hj : j < p.length) (h : p[j]? ≠ t[q + j]?) : occB t p q = false := by
  rw [Bool.eq_false_iff]
  intro hb
  obtain ⟨r, hr⟩ := (occB_iff t p q).1 hb
  apply h
  have : (t.drop q)[j]? = p[j]? := by rw [hr, List.getElem?_append_left hj]
  rw [List.getElem?_drop] at this
  exact this.symm

set_option maxHeartbeats 4000000 in
theorem occursAt_any (text part : ByteArray) (q : Nat) (w : World) (hq : q + part.size ≤ text.size) (ht : text.size ≤ 16777216) :
    Calls Try.prog 13 #[.string text, .int .i64 q, .string part] w fun e w' => e = .returned (.bool (occB text.data.toList part.data.toList q)) ∧ ∃ n, w' = w.drewN n := by
  generalize hB : occB text.data.toList part.data.toList q = B
  have HB : Hid (occB text.data.toList part.data.toList q = B) := hB
  clear hB
  go_enter Try.func13, Try.ntmps13
  go_wp2
  go_loopw [7] (fun i wr => ∃ k m : Nat, k ≤ part.size ∧ i = .int .i64 k ∧ wr = w.drewN m ∧ Hid (∀ j, j < k → part.data.toList[j]? = text.data.toList[q + j]?)) (fun i _ => part.size - (intOf i).toNat)
  case atStart => exact ⟨0, 0, Nat.zero_le _, rfl, rfl, by intro j hj; omega⟩
  case round =>
    obtain ⟨k, m, hk, rfl, rfl, HJ⟩ := hrel
    by_cases hlt : k < part.size
    · have hlt2 : q + k < text.size := by omega
      obtain ⟨x, hx⟩ : ∃ x : UInt8, part[k]'hlt = x := ⟨_, rfl⟩
      obtain ⟨y, hy⟩ : ∃ y : UInt8, text[q + k]'hlt2 = y := ⟨_, rfl⟩
      have Hx : Hid (part.data.toList[k]? = some x) := by
        show _ = _
        rw [← hx]; exact Lib.data_getElem? part k hlt
      have Hy : Hid (text.data.toList[q + k]? = some y) := by
        show _ = _
        rw [← hy]; exact Lib.data_getElem? text (q + k) hlt2
      have hi1 : (0 : Int) ≤ (q : Int) + (k : Int) := by omega
      have hi2 : (q : Int) + (k : Int) < (text.size : Int) := by omega
      have hi3 : ((q : Int) + (k : Int)).toNat = q + k := by omega
      have hi4 : (k : Int) < (part.size : Int) := by omega
      go_wp2
      go_region
      all_goals (try go_wp2)
      · have hne : ((y.toNat : Int) != (x.toNat : Int)) = true := by assumption
        have HB2 : Hid (B = false) := by
          show _ = _
          rw [← HB.out]
          refine occB_no _ _ _ k (by simpa using hlt) ?_
          rw [Hx.out, Hy.out]
          intro e
          simp only [Option.some.injEq] at e
          rw [e] at hne
          simp at hne
        go_ret
        exact ⟨by rw [HB2.out]; rfl, m + 1, rfl⟩
      · have heq : ((y.toNat : Int) != (x.toNat : Int)) = false := by assumption
        go_roundw
        case rel =>
          refine ⟨k + 1, m + 1, by omega, by go_num, rfl, ?_⟩
          intro j hj
          by_cases hjk : j < k
          · exact HJ.out j hjk
          · obtain rfl : j = k := by omega
            rw [Hx.out, Hy.out]
            simp only [bne_eq_false_iff_eq] at heq
            have : y = x := UInt8.toNat_inj.1 (by omega)
            rw [this]
        case measure => simp [intOf]; omega
    · have HB2 : Hid (B = true) := by
        show _ = _
        rw [← HB.out]
        refine occB_yes _ _ _ (fun j hj => HJ.out j ?_)
        simp at hj
        omega
      go_wp2
      go_ret
      exact ⟨by rw [HB2.out]; rfl, m, rfl⟩

/-! ### rows of bools -/

/-- block g is a row of N bools of the call's own -/
def Bools (B : Nat) (w : World) (g N : Nat) (bs : List Bool) : Prop := w.ownsRow B 4 1 (.slice (some ⟨g, 0, none⟩) N N) N (bs.map Value.bool)

theorem Bools.len {B g N : Nat} {w : World} {bs : List Bool} (h : Bools B w g N bs) : bs.length = N := by
  have := h.1; simpa using this
theorem Bools.cell {B g N : Nat} {w : World} {bs : List Bool} (h : Bools B w g N bs) (j : Nat) (hj : j < N) : w.cell? ⟨g, j, none⟩ = some (.bool (bs.getD j false)) := by
  rw [World.ownsRow.cellAt h j (by omega)]
  have hl := h.len
  simp [List.getD, show j < bs.length by omega]
theorem Bools.frozen {B g N : Nat} {w : World} {bs : List Bool} (h : Bools B w g N bs) (j : Nat) : w.frozen? ⟨g, j, none⟩ = false := World.ownsRow.frozenAt h j
theorem Bools.store {B g N : Nat} {w : World} {bs : List Bool} (h : Bools B w g N bs) (j : Nat) (b : Bool) : Bools B (w.setCell ⟨g, j, none⟩ (.bool b)) g N (bs.set j b) := by
  have := (World.ownsRow.stored h j (.bool b)).1
  unfold Bools
  rw [List.map_set]
  exact this
theorem Bools.other {B g g' N N' : Nat} {w : World} {bs cs : List Bool} (h : Bools B w g N bs) (h' : Bools B w g' N' cs) (hne : g ≠ g') (j : Nat) (u : Value) : Bools B (w.setCell ⟨g', j, none⟩ u) g N bs := by
  refine World.ownsRow.kept (row := some g') h (World.ownsRow.stored h' j u).2 (.inr ?_)
  simp [Value.ownBlock, hne]
theorem Bools.drewN {B g N : Nat} {w : World} {bs : List Bool} (h : Bools B w g N bs) (n : Nat) : Bools B (w.drewN n) g N bs := h
theorem Bools.base {B g N : Nat} {w : World} {bs : List Bool} (h : Bools B w g N bs) : B ≤ g := (World.ownsRow.lt h g rfl).1
theorem below_drewN {B : Nat} {a w : World} (h : Below B a w) (n : Nat) : Below B a (w.drewN n) := ⟨h.os, h.tape, h.output, h.size, h.block⟩

theorem getD_set (bs : List Bool) (j e : Nat) (b : Bool) (hj : j < bs.length) : (bs.set j b).getD e false = if e = j then b else bs.getD e false := by
  by_cases h : e = j
  · subst h; simp [List.getD, hj]
  · rw [if_neg h]
    simp [List.getD, List.getElem?_set_ne (fun e' => h e'.symm)]

end Go.Proofs.Qxb6600834a
