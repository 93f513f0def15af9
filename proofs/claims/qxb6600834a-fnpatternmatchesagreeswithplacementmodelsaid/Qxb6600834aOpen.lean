/-
  WHAT A SLICE OF STRINGS THAT CAME IN IS: a list of strings.
-/
import Derived.Test.Qxb6600834aCells
import Derived.Test.Qxb6600834aProg
import Derived.ProofKit
import Derived.OpenShut
import Derived.SliceStrings
set_option linter.unusedVariables false
namespace Go.Proofs.Qxb6600834a
open Go.ChangeShapes Go.WideShapes Go.ChangeAt Go.RowKit

theorem src_strs {H : Type} {enc : TypeId × Value → H} {W : World} {a : Option Addr} {len cap fuel : Nat} {x : DataW H × List MemPlace}
    (hf : DataW.trod enc Try.prog W 0 (fun _ => true) true fuel 22 (Value.cells (.slice a len cap)).toList = some x) : ∃ l : List ByteArray, Src W a len cap (scells l) ∧ len ≤ maxLen ∧ ∀ s ∈ l, s.size ≤ maxLen := by
  rcases open_strings Try.underlying22 Try.underlying9 (by kernel_rfl) hf with ⟨hcs, _⟩ | ⟨y, l, c, zs, hcs, _, hl, hm, hz, _, hcell, hwz⟩
  · simp [Value.cells] at hcs
    obtain ⟨rfl, rfl, rfl⟩ := hcs
    exact ⟨[], ⟨rfl, Nat.le_refl _, .inl ⟨rfl, rfl⟩⟩, Nat.zero_le _, by simp⟩
  · simp [Value.cells] at hcs
    obtain ⟨rfl, rfl, rfl⟩ := hcs
    have hz' : zs.length = cap := by simpa using hz
    refine ⟨zs.take len, ⟨by simp [scells]; omega, hl, .inr ⟨y, rfl, ?_⟩⟩, by omega, fun s hs => hwz s (List.mem_of_mem_take hs)⟩
    by_cases h0 : 0 < len
    · right
      obtain ⟨b, off, spot⟩ := y
      have hspot : spot = none := by simpa [Addr.add] using World.cell?_spot (hcell 0 (by omega))
      subst hspot
      refine ⟨b, off, rfl, ?_⟩
      intro i u hu
      have hi : i < len := by
        have := (List.getElem?_eq_some_iff.1 hu).1
        simp [scells] at this; omega
      have hzi : zs[i]? = some (zs[i]'(by omega)) := by simp
      rw [← Go.WideShapes.add_plain, hcell i (by omega)]
      simp only [scells, List.getElem?_map, List.getElem?_take_of_lt hi, hzi, Option.map_some, Option.some.injEq] at hu
      rw [← hu]
      simp only [List.getD, hzi, Option.getD_some]
    · left
      have : len = 0 := by omega
      subst this
      simp [scells]

end Go.Proofs.Qxb6600834a
