/-
  zzBytes_FnCountOfWrittenArray AND ZZCount, BY THEIR CONTRACTS.
-/
import Derived.Test.Qxb6600387aCopy
import Derived.Test.Qxb6600387aCount
set_option linter.unusedVariables false
namespace Go.Proofs.Qxb6600387a
open Go.RowKit Plain

def SumsPost (ss : List ByteArray) (w : World) (e : Ending) (w' : World) : Prop := ∃ b, e = .returned (.bool b) ∧ w' = w ∧ (b = true → ∀ s ∈ ss, s.size ≤ 1048576)
theorem sums_no (ss : List ByteArray) (w : World) : SumsPost ss w (.returned (.bool false)) w := ⟨false, rfl, rfl, by simp⟩
theorem sums_yes {ss : List ByteArray} (w : World) (h : ∀ s ∈ ss, s.size ≤ 1048576) : SumsPost ss w (.returned (.bool true)) w := ⟨true, rfl, rfl, fun _ => h⟩

set_option maxHeartbeats 4000000 in
theorem zzBytes_any (a0 a2 ao : Option Addr) (n0 c0 n cap n2 c2 : Nat) (p q : Bool) (ss : List ByteArray) (w : World) (h : Src w ao n cap (scells ss)) (h0 : n0 ≤ maxLen) (hn : n ≤ maxLen) (h2 : n2 ≤ maxLen) (hss : ∀ s ∈ ss, s.size ≤ maxLen) :
    Calls Try.prog 12 #[.slice a0 n0 c0, .slice ao n cap, .bool p, .bool q, .slice a2 n2 c2] w fun e w' => SumsPost ss w e w' := by
  unfold maxLen at h0 hn h2
  have HX : Hid ((scells ss).length = n) := h.1
  have HS : Hid (∀ s ∈ ss, s.size ≤ maxLen) := hss
  have HC : Hid (Src w ao n cap (scells ss)) := h
  clear h hss
  go_enter Try.func12, Try.ntmps12
  go_wp2
  iterate 3
    · go_ret
      exact sums_no _ _
  go_loop [11, 12] (fun z i => ∃ (k m : Nat), k ≤ n ∧ m ≤ 1048576 ∧ i = .int .i64 k ∧ z = .int .i64 m ∧ Hid (∀ s ∈ ss.take k, s.size ≤ 1048576)) (fun _ i => n - (intOf i).toNat)
  case atStart => exact ⟨0, n0 + n, Nat.zero_le _, by omega, rfl, by go_num, by intro s hs; simp at hs⟩
  case round =>
    obtain ⟨k, m, hk, hm, rfl, rfl, HB⟩ := hrel
    have hl : ss.length = n := by rw [← scells_length]; exact HX.out
    by_cases hlt : k < n
    · obtain ⟨s, hs⟩ : ∃ s, ss[k]? = some s := ⟨ss[k]'(by omega), by simp⟩
      have hsm : s.size ≤ maxLen := HS.out s (List.mem_of_getElem? hs)
      unfold maxLen at hsm
      have hu : (scells ss)[k]? = some (.string s) := by rw [scells_at, hs]; rfl
      obtain ⟨_, _, ⟨rfl, rfl⟩ | ⟨x, rfl, h0 | ⟨b, off, rfl, hcells⟩⟩⟩ := HC.out
      · omega
      · rw [h0] at hu; simp at hu
      have hrd := hcells k _ hu
      have HT : Hid (ss.take (k + 1) = ss.take k ++ [s]) := by show _ = _; rw [List.take_add_one, hs]; rfl
      clear hcells hu hs hl
      go_wp2
      · go_ret
        exact sums_no _ _
      · go_ret
        exact sums_no _ _
      · go_round
        case rel =>
          refine ⟨k + 1, m + s.size, by omega, by omega, by go_num, by go_num, ?_⟩
          show ∀ s' ∈ ss.take (k + 1), s'.size ≤ 1048576
          rw [HT.out]
          intro s' hs'
          rcases List.mem_append.1 hs' with h | h
          · exact HB.out s' h
          · rw [List.mem_singleton.1 h]; omega
        case measure => simp [intOf]; omega
    · have e1 : ss.take k = ss := List.take_of_length_le (by omega)
      have HB' : Hid (∀ s ∈ ss, s.size ≤ 1048576) := by rw [← e1]; exact HB
      clear e1 hl HB
      go_wp2
      · go_ret
        exact sums_no _ _
      · go_ret
        exact sums_no _ _
      · go_ret
        exact sums_yes _ HB'.out

theorem zzcount_any (g cap : Nat) (P tl L : List UInt8) (toks : List Tok) (w : World) (hL : L = P ++ (render toks ++ 93 :: tl)) (hrow : Row w g L) (hg : g < w.heap.size) (hcap : L.length ≤ cap) (hbig : L.length ≤ 1073741824)
    (hf : fineAll st0 toks) (hd : (trun st0 toks).depth = 0) (N M : Nat) (hN : (if (trun st0 toks).bare then 0 else (trun st0 toks).commas + 1) = N) (hM : (render toks).length + 1 = M) :
    Calls Try.prog 10 #[.slice (some ⟨g, 0, none⟩) L.length cap, .int .i64 P.length] w fun e w' => e = .returned (.tuple #[.int .i64 N, .int .i64 M]) ∧ Below w.heap.size w w' := by
  have hcall := count_any w.heap.size g cap P tl L toks (w.alloc (.cells #[.slice (some ⟨g, 0, none⟩) L.length cap, .int .i64 P.length] 43)) hL
    (fun i c hi => by rw [← hrow i c hi]; exact (((Below.refl w.heap.size w).alloc (Nat.le_refl _) _).cell (p := ⟨g, i, none⟩) hg)) hcap hbig (by rw [Lib.cell_of_heap (heap_alloc_new _ _)]; rfl) (by rw [Lib.cell_of_heap (heap_alloc_new _ _)]; rfl) hf hd
  rw [hN, hM] at hcall
  clear hL hrow hf hd hN hM
  go_enter Try.func10, Try.ntmps10
  go_wp2_with (go_at_call 22; refine hcall.mono ?_; rintro e w1 ⟨rfl, hw⟩; subst w1)
  go_ret2
  exact ⟨rfl, ((Below.refl _ _).alloc (Nat.le_refl _) _).drew⟩

end Go.Proofs.Qxb6600387a
