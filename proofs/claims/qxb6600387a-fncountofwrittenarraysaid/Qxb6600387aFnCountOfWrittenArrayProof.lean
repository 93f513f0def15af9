/-
  THE PROOF OF 'Rows.FnCountOfWrittenArraySaid': the frame after the kit's shell for slices, ended by 'Below'; the walk lies in Qxb6600387aMain.
-/
import Derived.Test.Qxb6600387aRows
import Derived.WalkKit
import Derived.ProofKit
import Derived.OpenShut
import Derived.ShutString
import Derived.ChangeOld
import Derived.Below
import Derived.SliceStrings
import Derived.Test.Qxb6600387aMain
namespace Go.Proofs.Qxb6600387a.fnCountOfWrittenArray
open Go.ChangeShapes Go.WideShapes Go.ChangeAt Go.RowKit
set_option linter.unusedVariables false

theorem own : ownKnob Try.prog.godebug = none := by kernel_rfl
theorem laidOut : laidOutB Try.prog = true := by kernel_rfl

/-- what a slice of bytes that came in is: a list of bytes -/
theorem src_bytes {H : Type} {enc : TypeId × Value → H} {W : World} {a : Option Addr} {len cap fuel : Nat} {x : DataW H × List MemPlace}
    (hf : DataW.trod enc Try.prog W 0 (fun _ => true) true fuel 22 (Value.cells (.slice a len cap)).toList = some x) : ∃ l : List UInt8, Src W a len cap (bcells l) ∧ len ≤ maxLen := by
  rcases open_ints Try.underlying22 Try.underlying5 (by kernel_rfl) hf with ⟨hcs, _⟩ | ⟨y, l, c, zs, hcs, _, hl, hm, hz, _, hcell, hwz⟩
  · simp [Value.cells] at hcs
    obtain ⟨rfl, rfl, rfl⟩ := hcs
    exact ⟨[], ⟨rfl, Nat.le_refl _, .inl ⟨rfl, rfl⟩⟩, Nat.zero_le _⟩
  · simp [Value.cells] at hcs
    obtain ⟨rfl, rfl, rfl⟩ := hcs
    have hz' : zs.length = cap := by simpa using hz
    have hr := range_u8 hwz
    refine ⟨(zs.take len).map fun z => UInt8.ofNat z.toNat, ⟨by simp [bcells]; omega, hl, .inr ⟨y, rfl, ?_⟩⟩, by omega⟩
    by_cases h0 : 0 < len
    · right
      obtain ⟨b, off, rfl, hc⟩ := ints_at hcell (by omega)
      refine ⟨b, off, rfl, ?_⟩
      intro i u hu
      have hi : i < len := by
        have := (List.getElem?_eq_some_iff.1 hu).1
        simp [bcells] at this; omega
      rw [hc i (by omega)]
      have hzi : zs[i]? = some (zs[i]'(by omega)) := by simp
      have hri := hr i
      rw [hzi] at hri
      simp only [Option.getD_some] at hri
      simp only [bcells, List.map_map, List.getElem?_map, List.getElem?_take_of_lt hi, hzi, Option.map_some, Function.comp_apply, Option.some.injEq] at hu
      rw [← hu]
      simp only [List.getD, hzi, Option.getD_some]
      congr 2
      rw [UInt8.toNat_ofNat_of_lt' (by show _ < 256; omega)]
      omega
    · left
      have : len = 0 := by omega
      subst this
      simp [bcells]

/-- what a slice of strings that came in is: a list of strings -/
theorem src_strs {H : Type} {enc : TypeId × Value → H} {W : World} {a : Option Addr} {len cap fuel : Nat} {x : DataW H × List MemPlace}
    (hf : DataW.trod enc Try.prog W 0 (fun _ => true) true fuel 27 (Value.cells (.slice a len cap)).toList = some x) : ∃ l : List ByteArray, Src W a len cap (scells l) ∧ len ≤ maxLen ∧ ∀ s ∈ l, s.size ≤ maxLen := by
  rcases open_strings Try.underlying27 Try.underlying9 (by kernel_rfl) hf with ⟨hcs, _⟩ | ⟨y, l, c, zs, hcs, _, hl, hm, hz, _, hcell, hwz⟩
  · simp [Value.cells] at hcs
    obtain ⟨rfl, rfl, rfl⟩ := hcs
    exact ⟨[], ⟨rfl, Nat.le_refl _, .inl ⟨rfl, rfl⟩⟩, Nat.zero_le _, by simp⟩
  · simp [Value.cells] at hcs
    obtain ⟨rfl, rfl, rfl⟩ := hcs
    have hz' : zs.length = cap := by simpa using hz
    refine ⟨zs.take len, ⟨by simp [scells]; omega, hl, .inr ⟨y, rfl, ?_⟩⟩, by omega, fun s hs => hwz s (List.mem_of_mem_take hs)⟩
    by_cases h0 : 0 < len
    · right
      obtain ⟨b, off, spot⟩ := y
      have hspot : spot = none := by simpa [Addr.add] using World.cell?_spot (hcell 0 (by omega))
      subst hspot
      refine ⟨b, off, rfl, ?_⟩
      intro i u hu
      have hi : i < len := by
        have := (List.getElem?_eq_some_iff.1 hu).1
        simp [scells] at this; omega
      have hzi : zs[i]? = some (zs[i]'(by omega)) := by simp
      rw [← Go.WideShapes.add_plain, hcell i (by omega)]
      simp only [scells, List.getElem?_map, List.getElem?_take_of_lt hi, hzi, Option.map_some, Option.some.injEq] at hu
      rw [← hu]
      simp only [List.getD, hzi, Option.getD_some]
    · left
      have : len = 0 := by omega
      subst this
      simp [scells]

set_option maxRecDepth 100000 in
theorem lifted (os : Os) (started : os.Started) (H : Type) (enc : TypeId × Value → H) :
    ReturnsInHanded {} Try.checked os 4 .any (Rows.fnCountOfWrittenArraySpec.pre6 enc Try.prog Try.f4 Rows.fnCountOfWrittenArrayRow.domain false) (Rows.fnCountOfWrittenArraySpec.post enc Try.prog Try.f4 false true false false) := by
  refine returnsInHanded_of_change (C := Try.checked) own started (by kernel_rfl) Try.func4
    (ChangeSpec.witness6 (enc := enc) (C := Try.checked) false ⟨#[], #[.slice none 0 0, .slice none 0 0, .bool false, .bool false, .slice none 0 0], []⟩ 8 (by kernel_rfl) (by kernel_rfl) (by kernel_rfl) (by kernel_rfl)) ?_
  intro W base args ds gs before hval0 hW hcnd _
  have hval : ∀ (j : Nat) t v, Try.f4.params[j]? = some t → args[j]? = some v → Value.okWide Try.prog W .any base t v := hval0
  have hW' := hW
  obtain ⟨p, q, hA0, hV, rfl, hfz, hnd⟩ := hW
  have hA : DataW.TrodAll enc Try.prog W 0 (fun _ => true) true Try.f4.params.toList args.toList ds p := hA0
  rw [Try.params4] at hA hval
  obtain ⟨v0, vs0, d0, ds0, p0, q0, hargs, rfl, rfl, h0, r0⟩ := trodAll_cons hA
  obtain ⟨v1, vs1, d1, ds1, p1, q1, rfl, rfl, rfl, h1, r1⟩ := trodAll_cons r0
  obtain ⟨v2, vs2, d2, ds2, p2, q2, rfl, rfl, rfl, h2, r2⟩ := trodAll_cons r1
  obtain ⟨v3, vs3, d3, ds3, p3, q3, rfl, rfl, rfl, h3, r3⟩ := trodAll_cons r2
  obtain ⟨v4, vs4, d4, ds4, p4, q4, rfl, rfl, rfl, h4, r4⟩ := trodAll_cons r3
  obtain ⟨rfl, rfl, rfl⟩ := trodAll_nil r4
  obtain rfl : args = #[v0, v1, v2, v3, v4] := by cases args; simp_all
  obtain ⟨rfl, rfl⟩ := trodVars_none hV
  obtain ⟨a0, len0, cap0, rfl⟩ := okWide_slice Try.underlying22 (hval 0 22 v0 rfl rfl)
  obtain ⟨a1, len1, cap1, rfl⟩ := okWide_slice Try.underlying27 (hval 1 27 v1 rfl rfl)
  obtain ⟨x2, rfl, rfl, rfl⟩ := open_bool Try.underlying4 (hval 2 4 v2 rfl rfl) h2
  obtain ⟨x3, rfl, rfl, rfl⟩ := open_bool Try.underlying4 (hval 3 4 v3 rfl rfl) h3
  obtain ⟨a4, len4, cap4, rfl⟩ := okWide_slice Try.underlying22 (hval 4 22 v4 rfl rfl)
  have k0 := h0
  have k1 := h1
  have k4 := h4
  have lt0 : ∀ x ∈ p0, x.block < W.heap.size := by obtain ⟨m, hm⟩ := k0; exact DataW.trod_lt m _ _ _ hm
  have lt1 : ∀ x ∈ p1, x.block < W.heap.size := by obtain ⟨m, hm⟩ := k1; exact DataW.trod_lt m _ _ _ hm
  have lt4 : ∀ x ∈ p4, x.block < W.heap.size := by obtain ⟨m, hm⟩ := k4; exact DataW.trod_lt m _ _ _ hm
  obtain ⟨l0, s0, m0⟩ : ∃ l : List UInt8, Src W a0 len0 cap0 (bcells l) ∧ len0 ≤ maxLen := by obtain ⟨fuel, hf⟩ := h0; exact src_bytes hf
  obtain ⟨ss, s1, m1, hss⟩ : ∃ l : List ByteArray, Src W a1 len1 cap1 (scells l) ∧ len1 ≤ maxLen ∧ ∀ s ∈ l, s.size ≤ maxLen := by obtain ⟨fuel, hf⟩ := h1; exact src_strs hf
  obtain ⟨l4, s4, m4⟩ : ∃ l : List UInt8, Src W a4 len4 cap4 (bcells l) ∧ len4 ≤ maxLen := by obtain ⟨fuel, hf⟩ := h4; exact src_bytes hf
  clear hA0 hval0
  refine (walk_in a0 a4 a1 len0 cap0 len1 cap1 len4 cap4 x2 x3 l0 l4 ss W s1 s0 s4 m0 m1 m4 hss).mono fun e W' ⟨he, bel⟩ => ?_
  subst he
  exact ⟨_, rfl, _, _, _, [], _, [], hW', trodAll_mk1 (shut_bool Try.underlying4 _), (trodAll_cons_mk (Below.trod laidOut (by kernel_rfl) (of_decide_eq_true (by kernel_rfl)) k0 bel lt0) (trodAll_cons_mk (Below.trod laidOut (by kernel_rfl) (of_decide_eq_true (by kernel_rfl)) k1 bel lt1) (trodAll_cons_mk (shut_bool Try.underlying4 _) (trodAll_cons_mk (shut_bool Try.underlying4 _) (trodAll_cons_mk (Below.trod laidOut (by kernel_rfl) (of_decide_eq_true (by kernel_rfl)) k4 bel lt4) trodAll_mk0))))), rfl, bel.frame _, fun h => by cases h⟩

theorem over : Rows.fnCountOfWrittenArrayRow.holds Try.pinned (OpenSpec.ofChange Rows.fnCountOfWrittenArraySpec) :=
  OpenClaim.holds_of_wide 4 Try.f4 rfl rfl rfl rfl rfl rfl rfl ⟨rfl, rfl, rfl, rfl, rfl⟩ rfl rfl rfl rfl rfl (by kernel_rfl) Try.func4 (by kernel_rfl)
    (of_decide_eq_true (by kernel_rfl)) (by unfold Func.isWrapper; first | (rw [if_pos (by decide +kernel)]; kernel_rfl) | (rw [if_neg (by decide +kernel)]; exact ⟨rfl, rfl⟩))
    (fun os started H enc _ => lifted os started H enc)

/-- THE STATEMENT -/
theorem proved : Rows.FnCountOfWrittenArraySaid := over
end Go.Proofs.Qxb6600387a.fnCountOfWrittenArray
