/-
  ZZMatches AND THE TWO zzBytes FUNCTIONS, BY THEIR CONTRACTS.
-/
import Derived.Test.Qxb6600834aMatch
import Derived.Test.Qxb6600834aCopy
set_option linter.unusedVariables false
namespace Go.Proofs.Qxb6600834a
open Go.RowKit Plain

theorem matchesP_two (f l : Txt) (ms : List Txt) (t : Txt) : matchesP (f :: (ms ++ [l])) t = two f l ms t := by
  cases ms with
  | nil => rfl
  | cons q r =>
    show two f ((q :: (r ++ [l])).getLast (by simp)) ((q :: (r ++ [l])).dropLast) t = _
    have e1 : (q :: (r ++ [l])).dropLast = q :: r := by
      have : q :: (r ++ [l]) = (q :: r) ++ [l] := rfl
      rw [this, List.dropLast_concat]
    have e2 : (q :: (r ++ [l])).getLast (by simp) = l := by rw [List.getLast_cons (by simp)]; exact List.getLast_concat
    rw [e1, e2]

theorem matches_any (g cap : Nat) (m : Int) (ss : List ByteArray) (text : ByteArray) (w : World) (h : SRow w g ss) (hne : ss ≠ []) (hc : ss.length ≤ cap) (hm : w.cell? ⟨0, 0, none⟩ = some (.int .i64 m))
    (ht : text.size ≤ 16777216) (hss : ∀ s ∈ ss, s.size ≤ 16777216) (hn : ss.length ≤ 16777216) :
    Calls Try.prog 19 #[.slice (some ⟨g, 0, none⟩) ss.length cap, .string text] w fun e w' => e = .returned (.bool (matchesP (dat ss) text.data.toList)) ∧ w' = w.drew := by
  match ss, hne with
  | [s], _ => exact matches_one g cap s text w h hc
  | f :: q :: r, _ =>
    have e : q :: r = (q :: r).dropLast ++ [(q :: r).getLast (by simp)] := (List.dropLast_concat_getLast _).symm
    generalize (q :: r).dropLast = ms at e
    generalize (q :: r).getLast (by simp) = l at e
    rw [e] at h hc hss hn ⊢
    have e3 : dat (f :: (ms ++ [l])) = f.data.toList :: (dat ms ++ [l.data.toList]) := by simp [dat]
    have e4 : (f :: (ms ++ [l])).length = ms.length + 2 := by simp
    rw [e3, matchesP_two, e4]
    rw [e4] at hc hn
    exact matches_two g cap m f l ms text w h hc hm ht (hss f (by simp)) (hss l (by simp)) (by omega)

theorem zzmatches (g cap : Nat) (m : Int) (ss : List ByteArray) (text : ByteArray) (w : World) (h : SRow w g ss) (hne : ss ≠ []) (hc : ss.length ≤ cap) (hm : w.cell? ⟨0, 0, none⟩ = some (.int .i64 m))
    (ht : text.size ≤ 16777216) (hss : ∀ s ∈ ss, s.size ≤ 16777216) (hn : ss.length ≤ 16777216) (b : Bool) (hb : matchesP (dat ss) text.data.toList = b) (n : Nat) (hl : ss.length = n) :
    Calls Try.prog 14 #[.slice (some ⟨g, 0, none⟩) n cap, .string text] w fun e w' => e = .returned (.bool b) ∧ w' = w.drew := by
  have hcall := matches_any g cap m ss text w h hne hc hm ht hss hn
  rw [hb, hl] at hcall
  clear h hne hc hm ht hss hn hb hl
  go_enter Try.func14, Try.ntmps14
  go_wp2_with (go_at_call 19; refine hcall.mono ?_; rintro e w1 ⟨rfl, hw⟩; subst w1)
  go_ret
  exact ⟨rfl, rfl⟩

def SumsPost (ss : List ByteArray) (w : World) (e : Ending) (w' : World) : Prop := ∃ b, e = .returned (.bool b) ∧ w' = w ∧ (b = true → ∀ s ∈ ss, s.size ≤ 1048576)
theorem sums_no (ss : List ByteArray) (w : World) : SumsPost ss w (.returned (.bool false)) w := ⟨false, rfl, rfl, by simp⟩
theorem sums_yes {ss : List ByteArray} (w : World) (h : ∀ s ∈ ss, s.size ≤ 1048576) : SumsPost ss w (.returned (.bool true)) w := ⟨true, rfl, rfl, fun _ => h⟩

set_option maxHeartbeats 4000000 in
theorem zzBytes12 (ao : Option Addr) (n cap : Nat) (ss : List ByteArray) (text : ByteArray) (w : World) (h : Src w ao n cap (scells ss)) (hn : n ≤ maxLen) (ht : text.size ≤ maxLen) (hss : ∀ s ∈ ss, s.size ≤ maxLen) :
    Calls Try.prog 12 #[.slice ao n cap, .string text] w fun e w' => SumsPost ss w e w' := by
  unfold maxLen at hn ht
  have HX : Hid ((scells ss).length = n) := h.1
  have HS : Hid (∀ s ∈ ss, s.size ≤ maxLen) := hss
  have HC : Hid (Src w ao n cap (scells ss)) := h
  clear h hss
  go_enter Try.func12, Try.ntmps12
  go_wp2
  iterate 1
    · go_ret
      exact sums_no _ _
  go_loop [5, 6] (fun z i => ∃ (k m : Nat), k ≤ n ∧ m ≤ 1048576 ∧ i = .int .i64 k ∧ z = .int .i64 m ∧ Hid (∀ s ∈ ss.take k, s.size ≤ 1048576)) (fun _ i => n - (intOf i).toNat)
  case atStart => exact ⟨0, n, Nat.zero_le _, by omega, rfl, by go_num, by intro s hs; simp at hs⟩
  case round =>
    obtain ⟨k, m, hk, hm, rfl, rfl, HB⟩ := hrel
    have hl : ss.length = n := by rw [← scells_length]; exact HX.out
    by_cases hlt : k < n
    · obtain ⟨s, hs⟩ : ∃ s, ss[k]? = some s := ⟨ss[k]'(by omega), by simp⟩
      have hsm : s.size ≤ maxLen := HS.out s (List.mem_of_getElem? hs)
      unfold maxLen at hsm
      have hu : (scells ss)[k]? = some (.string s) := by rw [scells_at, hs]; rfl
      obtain ⟨_, _, ⟨rfl, rfl⟩ | ⟨x, rfl, h0 | ⟨b, off, rfl, hcells⟩⟩⟩ := HC.out
      · omega
      · rw [h0] at hu; simp at hu
      have hrd := hcells k _ hu
      have HT : Hid (ss.take (k + 1) = ss.take k ++ [s]) := by show _ = _; rw [List.take_add_one, hs]; rfl
      clear hcells hu hs hl
      go_wp2
      · go_ret
        exact sums_no _ _
      · go_ret
        exact sums_no _ _
      · go_round
        case rel =>
          refine ⟨k + 1, m + s.size, by omega, by omega, by go_num, by go_num, ?_⟩
          show ∀ s' ∈ ss.take (k + 1), s'.size ≤ 1048576
          rw [HT.out]
          intro s' hs'
          rcases List.mem_append.1 hs' with h | h
          · exact HB.out s' h
          · rw [List.mem_singleton.1 h]; omega
        case measure => simp [intOf]; omega
    · have e1 : ss.take k = ss := List.take_of_length_le (by omega)
      have HB' : Hid (∀ s ∈ ss, s.size ≤ 1048576) := by rw [← e1]; exact HB
      clear e1 hl HB
      go_wp2
      · go_ret
        exact sums_no _ _
      · go_ret
        exact sums_no _ _
      · go_ret
        exact sums_yes _ HB'.out

end Go.Proofs.Qxb6600834a
