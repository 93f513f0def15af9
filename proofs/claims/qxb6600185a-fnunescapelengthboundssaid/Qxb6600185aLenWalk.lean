/-
  THE WALK OF FnUnescapeLengthBounds.
-/
import Derived.Test.Qxb6600185aUnesc
set_option linter.unusedVariables false
namespace Go.Proofs.Qxb6600185a.fnUnescapeLengthBounds
open Go.RowKit Plain

theorem take_snoc (s : ByteArray) (k : Nat) (h : k < s.size) : s.data.toList.take (k + 1) = s.data.toList.take k ++ [s[k]] := by
  rw [List.take_succ_eq_append_getElem (by simpa using h)]; rfl

/-- zzCountByte at a backslash -/
theorem count_any (s : ByteArray) (w : World) (hs : s.size ≤ 2097152) :
    Calls Try.prog 27 #[.string s, .int .u8 92] w fun e w' => e = .returned (.int .i64 (cnt s.data.toList)) ∧ w' = w := by
  go_enter Try.func27, Try.ntmps27
  go_wp2
  go_loop [5, 6] (fun n i => ∃ k : Nat, k ≤ s.size ∧ i = .int .i64 k ∧ n = .int .i64 (cnt (s.data.toList.take k))) (fun _ i => s.size - (intOf i).toNat)
  case atStart => exact ⟨0, Nat.zero_le _, rfl, rfl⟩
  case round =>
    obtain ⟨k, hk, rfl, rfl⟩ := hrel
    have hl : (s.data.toList.take k).length ≤ k := List.length_take_le _ _
    have hd := cnt_le (s.data.toList.take k)
    by_cases hlt : k < s.size
    · have HS : Hid (cnt (s.data.toList.take (k + 1)) = cnt (s.data.toList.take k) + if s[k] = 92 then 1 else 0) := by
        show _ = _
        rw [take_snoc s k hlt, cnt_append, cnt_cons]; simp [cnt]
      by_cases hc : s[k] = 92
      · have hcI : ((s[k].toNat : Int) == 92) = true := by rw [hc]; rfl
        have HC : Hid (s[k] = 92) := hc
        clear hc
        go_wp2
        go_round
        case rel => exact ⟨k + 1, by omega, by go_num, by rw [HS.out, if_pos HC.out]; go_num⟩
        case measure => simp [intOf]; omega
      · have hcI : ((s[k].toNat : Int) == 92) = false := by
          rw [beq_eq_false_iff_ne]
          intro e
          apply hc
          apply UInt8.toNat_inj.1
          have : (92 : UInt8).toNat = 92 := rfl
          omega
        have HC : Hid (¬ s[k] = 92) := hc
        clear hc
        go_wp2
        go_round
        case rel => exact ⟨k + 1, by omega, by go_num, by rw [HS.out, if_neg HC.out]; go_num⟩
        case measure => simp [intOf]; omega
    · go_wp2
      go_ret
      have e : s.data.toList.take k = s.data.toList := List.take_of_length_le (by simp; omega)
      rw [e]
      exact ⟨rfl, rfl⟩

theorem bytes_yes (s : ByteArray) (w : World) (hs : s.size ≤ 1048576) :
    Calls Try.prog 32 #[.string s] w fun e w' => e = .returned (.bool true) ∧ w' = w := by
  go_enter Try.func32, Try.ntmps32
  go_wp2
  go_ret
  exact ⟨rfl, rfl⟩

theorem bytes_no (s : ByteArray) (w : World) (hs : 1048576 < s.size) (hm : s.size ≤ maxLen) :
    Calls Try.prog 32 #[.string s] w fun e w' => e = .returned (.bool false) ∧ w' = w := by
  unfold maxLen at hm
  go_enter Try.func32, Try.ntmps32
  go_wp2
  go_ret
  exact ⟨rfl, rfl⟩

set_option maxHeartbeats 1000000 in
theorem walk (a0 : ByteArray) (w0 : a0.size ≤ maxLen) (w : World) :
    Calls Try.prog 10 #[.string a0] w fun e w' => e = .returned (.bool true) ∧ Below w.heap.size w w' := by
  by_cases hs : a0.size ≤ 1048576
  · obtain ⟨b1, b2, b3⟩ := unesc_bounds a0.data.toList
    have hsz : a0.data.toList.length = a0.size := by simp
    have hcl := cnt_le a0.data.toList
    have hz : cnt a0.data.toList = 0 → unesc a0.data.toList = a0.data.toList := fun h => unesc_plain _ (cnt_zero _ h)
    generalize hu : unesc a0.data.toList = u at *
    generalize hn : cnt a0.data.toList = n at *
    rw [hsz] at b1 b2 b3 hcl
    have HU : Hid (unesc a0.data.toList = u) := hu
    have HN : Hid (cnt a0.data.toList = n) := hn
    have HZ : Hid (n = 0 → u = a0.data.toList) := hz
    have hul : (⟨u.toArray⟩ : ByteArray).size = u.length := by simp [ByteArray.size]
    clear hu hn hz hsz
    go_enter Try.func10, Try.ntmps10
    go_wp2_with (first | (go_at_call 32; refine (bytes_yes a0 _ hs).mono ?_; rintro e w1 ⟨rfl, hw⟩; subst w1) | (go_at_call 30; refine (zzunescape a0 _ (by omega)).mono ?_; rintro e w1 ⟨rfl, hl1⟩; rw [HU.out]) | (go_at_call 27; refine (count_any a0 _ (by omega)).mono ?_; rintro e w1 ⟨rfl, hw⟩; subst w1; rw [HN.out]))
    · have hn0 : n = 0 := by assumption
      have hne : (!u == a0.toList) = true := by assumption
      rw [Lib.toList_data, HZ.out hn0] at hne
      simp at hne
    all_goals
      go_ret
      exact ⟨rfl, hl1⟩
  · go_enter Try.func10, Try.ntmps10
    go_wp2_with (go_at_call 32; refine (bytes_no a0 _ (by omega) w0).mono ?_; rintro e w1 ⟨rfl, hw⟩; subst w1)
    go_ret
    exact ⟨rfl, Below.refl _ _⟩

end Go.Proofs.Qxb6600185a.fnUnescapeLengthBounds
