/-
  THE WALK OF FnCutEntityTagReadsBuiltTag.
-/
import Derived.Test.Qxb6600694aCut
import Derived.Laws.Concat
set_option linter.unusedVariables false
namespace Go.Proofs.Qxb6600694a
open Go.RowKit

theorem bytes_yes (wk : Bool) (t s : ByteArray) (w : World) (hs : t.size + s.size ≤ 1048576) :
    Calls Try.prog 16 #[.bool wk, .string t, .string s] w fun e w' => e = .returned (.bool true) ∧ w' = w := by
  go_enter Try.func16, Try.ntmps16
  go_wp2
  go_ret
  exact ⟨rfl, rfl⟩

theorem bytes_no (wk : Bool) (t s : ByteArray) (w : World) (hs : 1048576 < t.size + s.size) (hm : t.size ≤ maxLen) (hm' : s.size ≤ maxLen) :
    Calls Try.prog 16 #[.bool wk, .string t, .string s] w fun e w' => e = .returned (.bool false) ∧ w' = w := by
  unfold maxLen at hm hm'
  by_cases h1 : 1048576 < t.size
  · go_enter Try.func16, Try.ntmps16
    go_wp2
    go_ret
    exact ⟨rfl, rfl⟩
  · by_cases h2 : 1048576 < s.size
    · go_enter Try.func16, Try.ntmps16
      go_wp2
      go_ret
      exact ⟨rfl, rfl⟩
    · go_enter Try.func16, Try.ntmps16
      go_wp2
      go_ret
      exact ⟨rfl, rfl⟩

def goodB (c : UInt8) : Bool := decide (32 < c.toNat) && decide (c.toNat ≠ 127) && decide (c.toNat ≠ 34)
theorem goodB_good {c : UInt8} (h : goodB c = true) : good c := by
  simp [goodB] at h
  exact ⟨h.1.1, h.1.2, h.2⟩

theorem isTag (c : UInt8) (w : World) : Calls Try.prog 17 #[.int .u8 c.toNat] w fun e w' => e = .returned (.bool (goodB c)) ∧ w' = w := by
  go_enter Try.func17, Try.ntmps17
  go_wp2
  all_goals
    go_ret
    refine ⟨congrArg (fun b => Ending.returned (Value.bool b)) ?_, rfl⟩
    rw [Bool.eq_iff_iff]
    simp [goodB]
    omega

theorem built (wk : Bool) (a1 a2 : ByteArray) (hg : ∀ c ∈ a1.data.toList, good c) (hs : a1.size + a2.size ≤ 1048576) (w : World) :
    Calls Try.prog 14 #[.string (if wk then (⟨#[87, 47]⟩ : ByteArray) ++ ((⟨#[34]⟩ : ByteArray) ++ a1 ++ ⟨#[34]⟩ ++ a2) else (⟨#[34]⟩ : ByteArray) ++ a1 ++ ⟨#[34]⟩ ++ a2)] w
      fun e w' => e = .returned (.tuple #[.bool wk, .string ((⟨#[34]⟩ : ByteArray) ++ a1 ++ ⟨#[34]⟩), .string a2, .bool true]) ∧ Below w.heap.size w w' := by
  have hd : ((⟨#[34]⟩ : ByteArray) ++ a1 ++ ⟨#[34]⟩ ++ a2).data.toList = 34 :: (a1.data.toList ++ 34 :: a2.data.toList) := by simp
  have hT := told _ a1.data.toList a2.data.toList hg hd
  have htg : (⟨(34 :: (a1.data.toList ++ [34])).toArray⟩ : ByteArray) = (⟨#[34]⟩ : ByteArray) ++ a1 ++ ⟨#[34]⟩ := ba_ext (by simp)
  have hrs : (⟨a2.data.toList.toArray⟩ : ByteArray) = a2 := Lib.mk_data a2
  rw [← htg]
  have := zzcut_any wk (if wk then (⟨#[87, 47]⟩ : ByteArray) ++ ((⟨#[34]⟩ : ByteArray) ++ a1 ++ ⟨#[34]⟩ ++ a2) else (⟨#[34]⟩ : ByteArray) ++ a1 ++ ⟨#[34]⟩ ++ a2) _ a1.data.toList a2.data.toList w hg (by simpa using hs) hT (by cases wk <;> simp)
  rw [hrs] at this
  rw [htg] at this ⊢
  exact this

set_option maxHeartbeats 4000000 in
theorem walk (a0 : Bool) (a1 a2 : ByteArray) (w1 : a1.size ≤ maxLen) (w2 : a2.size ≤ maxLen) (w : World) :
    Calls Try.prog 6 #[.bool a0, .string a1, .string a2] w fun e w' => e = .returned (.bool true) ∧ Below w.heap.size w w' := by
  by_cases hs : a1.size + a2.size ≤ 1048576
  · go_enter Try.func6, Try.ntmps6
    go_wp2_with (go_at_call 16; refine (bytes_yes a0 a1 a2 _ hs).mono ?_; rintro e w1 ⟨rfl, hw⟩; subst w1)
    go_loop [7] (fun i => ∃ k : Nat, k ≤ a1.size ∧ i = .int .i64 k ∧ Hid (∀ c ∈ a1.data.toList.take k, good c)) (fun i => a1.size - (intOf i).toNat)
    case atStart => exact ⟨0, Nat.zero_le _, rfl, by intro c hc; simp at hc⟩
    case round =>
      obtain ⟨k, hk, rfl, HG⟩ := hrel
      by_cases hlt : k < a1.size
      · obtain ⟨x, hx⟩ : ∃ x : UInt8, a1[k]'hlt = x := ⟨_, rfl⟩
        have Hx : Hid (a1.data.toList[k]? = some x) := by
          show _ = _
          rw [← hx]; exact Lib.data_getElem? a1 k hlt
        by_cases hg : goodB x = true
        · go_wp2_with (go_at_call 17; refine (isTag x _).mono ?_; rintro e w1 ⟨rfl, hw⟩; subst w1; rw [hg])
          go_round
          case rel =>
            refine ⟨k + 1, by omega, by go_num, ?_⟩
            show ∀ c ∈ a1.data.toList.take (k + 1), good c
            rw [List.take_add_one, Hx.out]
            intro c hc
            rcases List.mem_append.1 hc with h | h
            · exact HG.out c h
            · simp at h; rw [h]; exact goodB_good hg
          case measure => simp [intOf]; omega
        · have hg' : goodB x = false := by simpa using hg
          clear hg
          go_wp2_with (go_at_call 17; refine (isTag x _).mono ?_; rintro e w1 ⟨rfl, hw⟩; subst w1; rw [hg'])
          go_ret
          exact ⟨rfl, Below.refl _ _⟩
      · have e1 : a1.data.toList.take k = a1.data.toList := List.take_of_length_le (by simp; omega)
        have HG' : Hid (∀ c ∈ a1.data.toList, good c) := by rw [← e1]; exact HG
        clear e1 HG
        have hcall := built a0 a1 a2 HG'.out hs
        cases a0
        all_goals
          go_wp2_with (go_at_call 14; refine (hcall _).mono ?_; rintro e w1 ⟨rfl, hb1⟩)
          go_ret
          exact ⟨rfl, hb1⟩
  · go_enter Try.func6, Try.ntmps6
    go_wp2_with (go_at_call 16; refine (bytes_no a0 a1 a2 _ (by omega) w1 w2).mono ?_; rintro e w1 ⟨rfl, hw⟩; subst w1)
    go_ret
    exact ⟨rfl, Below.refl _ _⟩

end Go.Proofs.Qxb6600694a
