/-
  cloneStrings, BY ITS CONTRACT.
-/
import Derived.Test.Qxb6600834aProg
import Derived.Test.Qxb6600834aCells
import Derived.Lib.SliceRun
set_option linter.unusedVariables false
namespace Go.Proofs.Qxb6600834a
open Go.RowKit

theorem infoByte : (Try.prog.info? 5).map (fun i => (i.zero, i.size, i.bytes)) = some (some (.int .u8 0), 1, 1) := by kernel_rfl
theorem infoBool : (Try.prog.info? 4).map (fun i => (i.zero, i.size, i.bytes)) = some (some (.bool false), 1, 1) := by kernel_rfl
theorem infoStr : (Try.prog.info? 9).map (fun i => (i.zero, i.size, i.bytes)) = some (some (.string ByteArray.empty), 1, 16) := by kernel_rfl

set_option maxHeartbeats 2000000 in
theorem clone_any (ao : Option Addr) (len cap : Nat) (l : List ByteArray) (w : World) (h : Src w ao len cap (scells l)) (hb : len ≤ 1073741824) :
    Calls Try.prog 9 #[.slice ao len cap] w fun e w' => ∃ v, e = .returned v ∧ Own w.heap.size 9 w' v (scells l) ∧ Below w.heap.size w w' := by
  obtain ⟨hl, hlc, ⟨rfl, rfl⟩ | ⟨x, rfl, hx⟩⟩ := h
  · obtain rfl : len = 0 := by omega
    have e0 : scells l = [] := List.length_eq_zero_iff.1 hl
    rw [e0]
    have hnil := fun w => Lib.run_eql_slice_nil (P := Try.prog) w 22 9 none 0 0 0 0 Try.underlying22
    go_enter Try.func9, Try.ntmps9
    go_wp2
    go_ret
    exact ⟨_, rfl, World.ownsRow_nil _ _ _ _, Below.refl _ _⟩
  · obtain ⟨i0, hi, hz0, hz1, hz2⟩ := info_parts infoStr
    have HX : Hid ((scells l).length = len) := hl
    have HC : Hid (scells l = [] ∨ ∃ b off, x = ⟨b, off, none⟩ ∧ ∀ i u, (scells l)[i]? = some u → w.cell? ⟨b, off + i, none⟩ = some u) := hx
    clear hl hx
    have hnil := fun w => Lib.run_eql_slice_nil (P := Try.prog) w 22 9 (some x) len cap 0 0 Try.underlying22
    go_enter Try.func9, Try.ntmps9
    go_wp2_with (at_make; refine wpList_make_full _ rfl _ _ 22 rfl w.heap.size 9 i0 (Value.string ByteArray.empty) 1 Try.underlying22 hi hz0 hz1 .i64 .i64 _ _ len rfl rfl (by omega) (by omega) (by rw [hz2]; omega) (by unfold maxLen; omega) (Nat.le_refl _) ?_; intro w1 hown hgrow)
    rw [Nat.mul_one] at hown
    have hmade : (madeCells (Value.string ByteArray.empty).cells len).toList = List.replicate len (Value.string ByteArray.empty) := toList_madeCells_one _ _
    rw [hmade] at hown
    have hb1 : Below w.heap.size w w1 := (Below.refl _ _).grown hgrow (Nat.le_refl _) (by intro k hk; cases hk)
    clear hmade hnil hgrow
    go_loopw [4] (fun i wr => ∃ k : Nat, k ≤ len ∧ i = .int .i64 k ∧ wr.ownsRow w.heap.size 9 1 (.slice (some ⟨w.heap.size, 0, none⟩) len len) len ((scells l).take k ++ List.replicate (len - k) (Value.string ByteArray.empty)) ∧ Below w.heap.size w wr)
      (fun i _ => len - (intOf i).toNat)
    case atStart => exact ⟨0, Nat.zero_le _, rfl, by simpa using hown, hb1⟩
    case round =>
      obtain ⟨k, hk, rfl, ho, hbl⟩ := hrel
      by_cases hlt : k < len
      · obtain ⟨c, hc⟩ : ∃ c, l[k]? = some c := ⟨l[k]'(by have := HX.out; simp [scells] at this; omega), by simp⟩
        have hu : (scells l)[k]? = some (.string c) := by simp [scells, hc]
        rcases HC.out with h0 | ⟨b, off, rfl, hcells⟩
        · rw [h0] at hu; simp at hu
        have hsrc := hcells k _ hu
        have hbb : b < w.heap.size := block_lt hsrc
        have hrd : wr.cell? ⟨b, off + k, none⟩ = some (.string c) := (hbl.cell (p := ⟨b, off + k, none⟩) hbb).trans hsrc
        have hfz : wr.frozen? ⟨w.heap.size, k, none⟩ = false := World.ownsRow.frozenAt ho k
        have hold : ∃ z, wr.cell? ⟨w.heap.size, k, none⟩ = some z := by
          rw [World.ownsRow.cellAt ho k (by omega)]
          have : k < ((scells l).take k ++ List.replicate (len - k) (Value.string ByteArray.empty)).length := by have := HX.out; simp; omega
          exact ⟨_, List.getElem?_eq_getElem this⟩
        obtain ⟨z, hz⟩ := hold
        obtain ⟨R1, R2⟩ := copy_step HX.out (Nat.le_refl _) ho hbl hu
        have HU : Hid (l[k]? = some c) := hc
        clear hc hu hcells hsrc HC ho hown hb1
        go_wp2
        go_roundw
        case rel => exact ⟨k + 1, by omega, by go_num, R1, R2⟩
        case measure => simp [intOf]; omega
      · obtain rfl : k = len := by omega
        have e1 : (scells l).take k ++ List.replicate (k - k) (Value.string ByteArray.empty) = scells l := by
          rw [Nat.sub_self, List.replicate_zero, List.append_nil, List.take_of_length_le (by rw [HX.out]; exact Nat.le_refl _)]
        rw [e1] at ho
        clear e1
        go_wp2
        go_ret
        refine ⟨_, rfl, ?_, hbl⟩
        unfold Own
        rw [HX.out]
        exact ho

end Go.Proofs.Qxb6600834a
