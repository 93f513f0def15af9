/-
  zzBytes_FnPatternMatchesEveryFilling, BY ITS CONTRACT.
-/
import Derived.Test.Qxb6600834aTop
set_option linter.unusedVariables false
namespace Go.Proofs.Qxb6600834a
open Go.RowKit Plain

set_option maxHeartbeats 4000000 in
theorem zzBytes15 (ao a2 : Option Addr) (n cap n2 cap2 : Nat) (ss gs : List ByteArray) (w : World) (h : Src w ao n cap (scells ss)) (h2 : Src w a2 n2 cap2 (scells gs)) (hn : n ≤ maxLen) (hn2 : n2 ≤ maxLen) (hss : ∀ s ∈ ss, s.size ≤ maxLen) (hgs : ∀ s ∈ gs, s.size ≤ maxLen) :
    Calls Try.prog 15 #[.slice ao n cap, .slice a2 n2 cap2] w fun e w' => SumsPost (ss ++ gs) w e w' := by
  unfold maxLen at hn hn2
  have HX : Hid ((scells ss).length = n) := h.1
  have HS : Hid (∀ s ∈ ss, s.size ≤ maxLen) := hss
  have HC : Hid (Src w ao n cap (scells ss)) := h
  have HX2 : Hid ((scells gs).length = n2) := h2.1
  have HS2 : Hid (∀ s ∈ gs, s.size ≤ maxLen) := hgs
  have HC2 : Hid (Src w a2 n2 cap2 (scells gs)) := h2
  clear h hss h2 hgs
  go_enter Try.func15, Try.ntmps15
  go_wp2
  iterate 1
    · go_ret
      exact sums_no _ _
  go_loop [5, 6] (fun z i => ∃ (k m : Nat), k ≤ n ∧ m ≤ 1048576 ∧ i = .int .i64 k ∧ z = .int .i64 m ∧ Hid (∀ s ∈ ss.take k, s.size ≤ 1048576)) (fun _ i => n - (intOf i).toNat)
  case atStart => exact ⟨0, n, Nat.zero_le _, by omega, rfl, by go_num, by intro s hs; simp at hs⟩
  case round =>
    obtain ⟨k, m, hk, hm, rfl, rfl, HB⟩ := hrel
    have hl : ss.length = n := by rw [← scells_length]; exact HX.out
    by_cases hlt : k < n
    · obtain ⟨s, hs⟩ : ∃ s, ss[k]? = some s := ⟨ss[k]'(by omega), by simp⟩
      have hsm : s.size ≤ maxLen := HS.out s (List.mem_of_getElem? hs)
      unfold maxLen at hsm
      have hu : (scells ss)[k]? = some (.string s) := by rw [scells_at, hs]; rfl
      obtain ⟨_, _, ⟨rfl, rfl⟩ | ⟨x, rfl, h0 | ⟨b, off, rfl, hcells⟩⟩⟩ := HC.out
      · omega
      · rw [h0] at hu; simp at hu
      have hrd := hcells k _ hu
      have HT : Hid (ss.take (k + 1) = ss.take k ++ [s]) := by show _ = _; rw [List.take_add_one, hs]; rfl
      clear hcells hu hs hl
      go_wp2
      · go_ret
        exact sums_no _ _
      · go_ret
        exact sums_no _ _
      · go_round
        case rel =>
          refine ⟨k + 1, m + s.size, by omega, by omega, by go_num, by go_num, ?_⟩
          show ∀ s' ∈ ss.take (k + 1), s'.size ≤ 1048576
          rw [HT.out]
          intro s' hs'
          rcases List.mem_append.1 hs' with h | h
          · exact HB.out s' h
          · rw [List.mem_singleton.1 h]; omega
        case measure => simp [intOf]; omega
    · have e1 : ss.take k = ss := List.take_of_length_le (by omega)
      have HB' : Hid (∀ s ∈ ss, s.size ≤ 1048576) := by rw [← e1]; exact HB
      clear e1 hl HB
      go_wp2
      · go_ret
        exact sums_no _ _
      · go_ret
        exact sums_no _ _
      go_loop [5, 7] (fun z i => ∃ (k m : Nat), k ≤ n2 ∧ m ≤ 1048576 ∧ i = .int .i64 k ∧ z = .int .i64 m ∧ Hid (∀ s ∈ gs.take k, s.size ≤ 1048576)) (fun _ i => n2 - (intOf i).toNat)
      case atStart => exact ⟨0, m + n2, Nat.zero_le _, by omega, rfl, by go_num, by intro s hs; simp at hs⟩
      case round =>
        obtain ⟨k2, m2, hk2, hm2, rfl, rfl, HB2⟩ := hrel
        have hl : gs.length = n2 := by rw [← scells_length]; exact HX2.out
        by_cases hlt : k2 < n2
        · obtain ⟨s, hs⟩ : ∃ s, gs[k2]? = some s := ⟨gs[k2]'(by omega), by simp⟩
          have hsm : s.size ≤ maxLen := HS2.out s (List.mem_of_getElem? hs)
          unfold maxLen at hsm
          have hu : (scells gs)[k2]? = some (.string s) := by rw [scells_at, hs]; rfl
          obtain ⟨_, _, ⟨rfl, rfl⟩ | ⟨x, rfl, h0 | ⟨b, off, rfl, hcells⟩⟩⟩ := HC2.out
          · omega
          · rw [h0] at hu; simp at hu
          have hrd := hcells k2 _ hu
          have HT : Hid (gs.take (k2 + 1) = gs.take k2 ++ [s]) := by show _ = _; rw [List.take_add_one, hs]; rfl
          clear hcells hu hs hl
          go_wp2
          · go_ret
            exact sums_no _ _
          · go_ret
            exact sums_no _ _
          · go_round
            case rel =>
              refine ⟨k2 + 1, m2 + s.size, by omega, by omega, by go_num, by go_num, ?_⟩
              show ∀ s' ∈ gs.take (k2 + 1), s'.size ≤ 1048576
              rw [HT.out]
              intro s' hs'
              rcases List.mem_append.1 hs' with h | h
              · exact HB2.out s' h
              · rw [List.mem_singleton.1 h]; omega
            case measure => simp [intOf]; omega
        · have e1 : gs.take k2 = gs := List.take_of_length_le (by omega)
          have HB2' : Hid (∀ s ∈ gs, s.size ≤ 1048576) := by rw [← e1]; exact HB2
          clear e1 hl HB2
          go_wp2
          go_ret
          exact sums_yes _ (fun s hs => (List.mem_append.1 hs).elim (HB'.out s) (HB2'.out s))

end Go.Proofs.Qxb6600834a
