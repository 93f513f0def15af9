/-
  unescape AND ZZUnescape, BY THEIR CONTRACT: they return 'Plain.unesc' of the bytes; nothing that was there turns.
-/
import Derived.Test.Qxb6600185aBuild
set_option linter.unusedVariables false
namespace Go.Proofs.Qxb6600185a
open Go.RowKit Plain

theorem byteCells_snoc (l : List UInt8) (c : UInt8) : Lib.byteCells l ++ [Value.int .u8 c.toNat] = Lib.byteCells (l ++ [c]) := by simp [Lib.byteCells]

theorem indexByte_lo (l : List UInt8) (c : UInt8) : 0 ≤ Lib.indexByte l c ∨ Lib.indexByte l c = -1 := by
  induction l with
  | nil => simp [Lib.indexByte]
  | cons b l ih =>
    simp only [Lib.indexByte, beq_iff_eq]
    split
    · omega
    · split <;> omega

theorem indexByte_none {l : List UInt8} {c : UInt8} : Lib.indexByte l c = -1 ↔ c ∉ l := by
  induction l with
  | nil => simp [Lib.indexByte]
  | cons b l ih =>
    have h0 := indexByte_lo l c
    simp only [Lib.indexByte, List.mem_cons, not_or, beq_iff_eq]
    by_cases h : b = c
    · subst h; simp
    · have h' : ¬ c = b := fun e => h e.symm
      simp only [h, if_false]
      by_cases h2 : Lib.indexByte l c = -1
      · simp [h2, h', ih.1 h2]
      · have h3 : ¬ c ∉ l := fun e => h2 (ih.2 e)
        rw [if_neg h2]
        constructor
        · intro e; omega
        · intro e; exact absurd e.2 h3

theorem contains_iff (l : List UInt8) (c : UInt8) : 0 ≤ Lib.indexByte l c ↔ c ∈ l := by
  have h1 := indexByte_lo l c
  have h2 := @indexByte_none l c
  constructor
  · intro h
    by_cases hm : c ∈ l
    · exact hm
    · have := h2.2 hm; omega
  · intro h
    rcases h1 with h1 | h1
    · exact h1
    · exact absurd h (h2.1 h1)

/-- without a backslash -/
theorem unescape_none (s : ByteArray) (w : World) (h : (92 : UInt8) ∉ s.data.toList) :
    Calls Try.prog 37 #[.string s] w fun e w' => e = .returned (.string s) ∧ w' = w := by
  have hd : decide (0 ≤ Lib.indexByte s.data.toList 92) = false := by
    rw [decide_eq_false_iff_not, contains_iff]; exact h
  go_enter Try.func37, Try.ntmps37
  go_wp2_with (go_at_call 40; refine (Try.strings_Contains_one s 92 _).mono ?_; rintro e w1 ⟨rfl, hw1⟩; subst w1; rw [hd])
  go_ret
  exact ⟨rfl, rfl⟩

theorem fresh_builder (w : World) : Lib.IsBuilder 60 5 w.heap.size w.heap.size (Lib.byteCells []) (w.alloc (.cells #[.pointer none, .slice none 0 0] 60)) := by
  refine .inl ⟨Nat.le_refl _, .slice none 0 0, ?_, ?_, ?_⟩
  · exact heap_alloc_new _ _
  · exact World.ownsRow_nil _ _ _ _
  · simp [Value.ownBlock]

set_option maxHeartbeats 2000000 in
set_option maxRecDepth 100000 in
theorem unescape_some (s : ByteArray) (w : World) (h : (92 : UInt8) ∈ s.data.toList) (hs : s.size ≤ 2097152) :
    Calls Try.prog 37 #[.string s] w fun e w' => e = .returned (.string ⟨(unesc s.data.toList).toArray⟩) ∧ Below w.heap.size w w' := by
  have hd : decide (0 ≤ Lib.indexByte s.data.toList 92) = true := by
    rw [decide_eq_true_iff, contains_iff]; exact h
  clear h
  have hfb := fresh_builder w
  go_enter Try.func37, Try.ntmps37
  go_wp2_with (go_at_call 40; refine (Try.strings_Contains_one s 92 _).mono ?_; rintro e w1 ⟨rfl, hw1⟩; subst w1; rw [hd])
  clear hd
  go_loopw [4] (fun i wr => ∃ (k : Nat) (acc : List UInt8), k ≤ s.size ∧ acc.length ≤ k ∧ i = .int .i64 k ∧ Lib.IsBuilder 60 5 w.heap.size w.heap.size (Lib.byteCells acc) wr ∧ Below w.heap.size w wr ∧ Hid (acc ++ unesc (s.data.toList.drop k) = unesc s.data.toList))
    (fun i _ => s.size - (intOf i).toNat)
  case atStart => exact ⟨0, [], Nat.zero_le _, Nat.zero_le _, rfl, hfb, (Below.refl _ _).alloc (Nat.le_refl _) _, rfl⟩
  case round =>
    obtain ⟨k, acc, hk, ha, rfl, hbd, hbl, HI⟩ := hrel
    have hsz := hbl.size
    by_cases hlt : k < s.size
    · by_cases hc : s.data.toList[k]'(by simpa using hlt) = 92
      · by_cases hn : k + 1 < s.size
        · have hcI : ((s[k].toNat : Int) == 92) = true := by
            have : s[k] = 92 := hc
            rw [this]; rfl
          go_wp2_with (go_at_call 41; refine (writeByte _ _ _ _ _ hbd (by simp [Lib.byteCells]; omega) hsz).mono ?_; rintro e w1 ⟨rfl, hb1, hl1⟩)
          go_roundw
          case rel => exact ⟨k + 2, acc ++ [s.data.toList[k + 1]'(by simpa using hn)], by omega, by simp; omega, by go_num, by rw [← byteCells_snoc]; exact .inr hb1, hbl.trans hl1, step_bs _ _ k (by simpa using hn) hc HI.out⟩
          case measure => simp [intOf]; omega
        · have hcI : ((s[k].toNat : Int) == 92) = true := by
            have : s[k] = 92 := hc
            rw [this]; rfl
          go_wp2_with (go_at_call 41; refine (writeByte _ _ _ _ _ hbd (by simp [Lib.byteCells]; omega) hsz).mono ?_; rintro e w1 ⟨rfl, hb1, hl1⟩)
          go_roundw
          case rel => exact ⟨k + 1, acc ++ [s.data.toList[k]'(by simpa using hlt)], by omega, by simp; omega, by go_num, by rw [← byteCells_snoc]; exact .inr hb1, hbl.trans hl1, step_last _ _ k (by simpa using hlt) (by simpa using hn) HI.out⟩
          case measure => simp [intOf]; omega
      · have hcI : ((s[k].toNat : Int) == 92) = false := by
          rw [beq_eq_false_iff_ne]
          intro e
          apply hc
          apply UInt8.toNat_inj.1
          have : s.data.toList[k]'(by simpa using hlt) = s[k] := rfl
          rw [this]
          have : (92 : UInt8).toNat = 92 := rfl
          omega
        go_wp2_with (go_at_call 41; refine (writeByte _ _ _ _ _ hbd (by simp [Lib.byteCells]; omega) hsz).mono ?_; rintro e w1 ⟨rfl, hb1, hl1⟩)
        go_roundw
        case rel => exact ⟨k + 1, acc ++ [s.data.toList[k]'(by simpa using hlt)], by omega, by simp; omega, by go_num, by rw [← byteCells_snoc]; exact .inr hb1, hbl.trans hl1, step_other _ _ k (by simpa using hlt) hc HI.out⟩
        case measure => simp [intOf]; omega
    · go_wp2_with (go_at_call 42; refine (Try.Builder_String_any _ _ _ _ hbd hsz).mono ?_; rintro e w1 ⟨rfl, hl1⟩)
      go_ret
      have e : acc = unesc s.data.toList := by
        rw [← HI.out, List.drop_eq_nil_of_le (by simp; omega)]; simp [unesc]
      subst e
      exact ⟨rfl, hbl.trans hl1⟩

theorem unescape_any (s : ByteArray) (w : World) (hs : s.size ≤ 2097152) :
    Calls Try.prog 37 #[.string s] w fun e w' => e = .returned (.string ⟨(unesc s.data.toList).toArray⟩) ∧ Below w.heap.size w w' := by
  by_cases h : (92 : UInt8) ∈ s.data.toList
  · exact unescape_some s w h hs
  · refine (unescape_none s w h).mono ?_
    rintro e w' ⟨rfl, rfl⟩
    exact ⟨by rw [unesc_plain _ h], Below.refl _ _⟩

theorem zzunescape (s : ByteArray) (w : World) (hs : s.size ≤ 2097152) :
    Calls Try.prog 30 #[.string s] w fun e w' => e = .returned (.string ⟨(unesc s.data.toList).toArray⟩) ∧ Below w.heap.size w w' := by
  go_enter Try.func30, Try.ntmps30
  go_wp2_with (go_at_call 37; refine (unescape_any s _ hs).mono ?_; rintro e w1 ⟨rfl, hl1⟩)
  go_ret
  exact ⟨rfl, hl1⟩

end Go.Proofs.Qxb6600185a
