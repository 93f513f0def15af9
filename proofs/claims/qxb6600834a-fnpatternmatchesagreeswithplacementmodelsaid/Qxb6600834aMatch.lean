/-
  (pattern).matches AND ZZMatches, BY THEIR CONTRACT: they return 'Plain.matchesP'; they only read.
-/
import Derived.Test.Qxb6600834aShelf
import Derived.Test.Qxb6600834aPlain
import Derived.Test.Qxb6600834aCells
import Derived.WalkKit
import Derived.Lib.Strings
import Derived.Laws.DeepStrings4
set_option linter.unusedVariables false
namespace Go.Proofs.Qxb6600834a
open Go.RowKit Plain

/-- the strings' bytes -/
def dat (l : List ByteArray) : List Txt := l.map fun s => s.data.toList

theorem ba_ext {a b : ByteArray} (h : a.data.toList = b.data.toList) : a = b := by
  cases a; cases b
  simp only [ByteArray.mk.injEq]
  exact Array.toList_inj.1 h

/-- block g holds the strings ss from its head on -/
def SRow (w : World) (g : Nat) (ss : List ByteArray) : Prop := ∀ (i : Nat) (s : ByteArray), ss[i]? = some s → w.cell? ⟨g, i, none⟩ = some (.string s)

set_option maxHeartbeats 4000000 in
theorem matches_one (g cap : Nat) (s text : ByteArray) (w : World) (h : SRow w g [s]) (hc : 1 ≤ cap) :
    Calls Try.prog 19 #[.slice (some ⟨g, 0, none⟩) 1 cap, .string text] w fun e w' => e = .returned (.bool (matchesP (dat [s]) text.data.toList)) ∧ w' = w.drew := by
  have h0 := h 0 s rfl
  clear h
  go_enter Try.func19, Try.ntmps19
  go_wp2
  go_region
  all_goals (try go_wp2)
  go_ret
  exact ⟨congrArg (fun b => Ending.returned (Value.bool b)) (by simp [matchesP, dat, Lib.toList_data]), rfl⟩

theorem two_no1 {f l : Txt} {ms : List Txt} {t : Txt} (h : t.length < f.length + l.length) : two f l ms t = false := by
  have : decide (f.length + l.length ≤ t.length) = false := by simp; omega
  simp [two, this]
theorem two_no2 {f l : Txt} {ms : List Txt} {t : Txt} (h : f.isPrefixOf t = false) : two f l ms t = false := by simp [two, h]
theorem two_no3 {f l : Txt} {ms : List Txt} {t : Txt} (h : l.isSuffixOf t = false) : two f l ms t = false := by simp [two, h]
theorem two_yes {f l : Txt} {ms : List Txt} {t : Txt} (h1 : ¬ t.length < f.length + l.length) (h2 : f.isPrefixOf t = true) (h3 : l.isSuffixOf t = true) :
    two f l ms t = mid ms ((t.drop f.length).take (t.length - l.length - f.length)) := by
  have : decide (f.length + l.length ≤ t.length) = true := by simp; omega
  simp [two, this, h2, h3]

theorem mid_none {p m : Txt} {r : List Txt} (h : Lib.index m p = -1) : mid (p :: r) m = false := by simp [mid, h]
theorem mid_some {p m : Txt} {r : List Txt} {i : Nat} (h : Lib.index m p = i) : mid (p :: r) m = mid r (m.drop (i + p.length)) := by
  simp only [mid, h]
  rw [if_neg (by omega)]
  simp

set_option maxHeartbeats 8000000 in
set_option maxRecDepth 100000 in
theorem matches_two (g cap : Nat) (m : Int) (f l : ByteArray) (ms : List ByteArray) (text : ByteArray) (w : World) (h : SRow w g (f :: (ms ++ [l]))) (hc : ms.length + 2 ≤ cap) (hm : w.cell? ⟨0, 0, none⟩ = some (.int .i64 m))
    (ht : text.size ≤ 16777216) (hf : f.size ≤ 16777216) (hl : l.size ≤ 16777216) (hn : ms.length ≤ 16777216) :
    Calls Try.prog 19 #[.slice (some ⟨g, 0, none⟩) (ms.length + 2) cap, .string text] w fun e w' => e = .returned (.bool (two f.data.toList l.data.toList (dat ms) text.data.toList)) ∧ w' = w.drew := by
  have c0 := h 0 f rfl
  have c1 := h (ms.length + 1) l (by simp)
  have HR : Hid (SRow w g (f :: (ms ++ [l]))) := h
  have HM : Hid (w.cell? ⟨0, 0, none⟩ = some (.int .i64 m)) := hm
  have zt : text.data.toList.length = text.size := by simp
  have zf : f.data.toList.length = f.size := by simp
  have zl : l.data.toList.length = l.size := by simp
  clear h hm
  by_cases hA : text.size < f.size + l.size
  · rw [two_no1 (by rw [zt, zf, zl]; exact hA)]
    clear zt zf zl
    go_enter Try.func19, Try.ntmps19
    go_wp2
    go_region
    all_goals (try go_wp2)
    go_ret
    exact ⟨rfl, rfl⟩
  · have hpre : ∀ w, Calls Try.prog 20 #[.string text, .string f] w fun e w' => e = .returned (.bool (f.data.toList.isPrefixOf text.data.toList)) ∧ w' = w := fun w => Try.strings_HasPrefix text f w
    have hsuf : ∀ w, Calls Try.prog 21 #[.string text, .string l] w fun e w' => e = .returned (.bool (l.data.toList.isSuffixOf text.data.toList)) ∧ w' = w := fun w => Try.strings_HasSuffix text l w (by omega)
    by_cases hB : f.data.toList.isPrefixOf text.data.toList = true
    · by_cases hC : l.data.toList.isSuffixOf text.data.toList = true
      · rw [two_yes (by rw [zt, zf, zl]; exact hA) hB hC, zt, zf, zl]
        rw [hB] at hpre
        rw [hC] at hsuf
        clear zt zf zl hB hC
        have hR0 : (text.data.toList.drop f.size).take (text.size - l.size - f.size) = (text.extract f.size (text.size - l.size)).data.toList := by rw [Lib.extract_data]
        rw [hR0]
        have hz0 : (text.extract f.size (text.size - l.size)).size ≤ text.size := by simp; omega
        generalize hb : mid (dat ms) (text.extract f.size (text.size - l.size)).data.toList = B
        have HB0 : Hid (B = mid (dat ms) (text.extract f.size (text.size - l.size)).data.toList) := hb.symm
        clear hb hR0
        go_enter Try.func19, Try.ntmps19
        go_wp2
        go_region
        all_goals (try go_wp2_with (first | (go_at_call 20; refine (hpre _).mono ?_; rintro e w1 ⟨rfl, hw⟩; subst w1) | (go_at_call 21; refine (hsuf _).mono ?_; rintro e w1 ⟨rfl, hw⟩; subst w1)))
        clear hpre hsuf c0 c1
        go_loopw [61, 7, 9, 10] (fun i r _ _ wr => ∃ (k : Nat) (rs : ByteArray), k ≤ ms.length ∧ rs.size ≤ text.size ∧ i = .int .i64 k ∧ r = .string rs ∧ wr = w.drew ∧ Hid (B = mid (dat (ms.drop k)) rs.data.toList)) (fun i _ _ _ _ => ms.length - (intOf i).toNat)
        case atStart => exact ⟨0, _, Nat.zero_le _, hz0, rfl, rfl, rfl, by rw [List.drop_zero]; exact HB0⟩
        case round =>
          obtain ⟨k, rs, hk, hrs, rfl, rfl, rfl, HB⟩ := hrel
          by_cases hlt : k < ms.length
          · obtain ⟨s, hs⟩ : ∃ s, ms[k]? = some s := ⟨ms[k], by simp [hlt]⟩
            have hcell : w.cell? ⟨g, 1 + k, none⟩ = some (.string s) := HR.out (1 + k) s (by rw [Nat.add_comm, List.getElem?_cons_succ, List.getElem?_append_left hlt, hs])
            have hB := HB.out
            have hdrop : dat (ms.drop k) = s.data.toList :: dat (ms.drop (k + 1)) := by
              rw [List.drop_eq_getElem_cons hlt]
              have : ms[k] = s := by simpa [hlt] using hs
              rw [this]; rfl
            rw [hdrop] at hB
            have hidx : ∀ z, Lib.index rs.data.toList s.data.toList = z → Calls Try.prog 22 #[.string rs, .string s] w.drew fun e w' => e = .returned (.int .i64 z) ∧ w' = w.drew := by
              intro z hz
              rw [← hz]
              exact Try.strings_Index rs s m w.drew (by omega) HM.out
            clear HB hdrop hs HB0
            rcases index_facts rs.data.toList s.data.toList with ⟨h1, _⟩ | ⟨i, h1, h2, _, _⟩
            · have hcall := hidx _ h1
              rw [mid_none h1] at hB
              have HB2 : Hid (B = false) := hB
              clear hB hidx h1
              go_wp2_with (go_at_call 22; refine hcall.mono ?_; rintro e w1 ⟨rfl, hw⟩; subst w1)
              go_ret
              exact ⟨by rw [HB2.out]; rfl, rfl⟩
            · have hcall := hidx _ h1
              rw [mid_some h1] at hB
              have h2' : i + s.size ≤ rs.size := by simpa using h2
              have hex : rs.data.toList.drop (i + s.data.toList.length) = (rs.extract (i + s.size) rs.size).data.toList := by
                rw [Lib.extract_data, List.take_of_length_le (by simp)]; simp
              rw [hex] at hB
              have HB2 : Hid (B = mid (dat (ms.drop (k + 1))) (rs.extract (i + s.size) rs.size).data.toList) := hB
              have hz : (rs.extract (i + s.size) rs.size).size ≤ text.size := by simp; omega
              clear hB hidx h1 h2 hex
              go_wp2_with (go_at_call 22; refine hcall.mono ?_; rintro e w1 ⟨rfl, hw⟩; subst w1)
              go_roundw
              case rel => exact ⟨_, _, _, _, _, _, _, _, _, _, _, _, _, _, _, _, _, _, _, _, ⟨k + 1, _, by omega, hz, by go_num, rfl, trivial, HB2⟩, rfl⟩
              case measure => simp [intOf]; omega
          · have e1 : ms.drop k = [] := List.drop_eq_nil_of_le (by omega)
            have HB2 : Hid (B = true) := by show _ = _; rw [HB.out, e1]; rfl
            clear e1 HB HB0
            go_wp2
            go_ret
            exact ⟨by rw [HB2.out]; rfl, rfl⟩
      · have hC' : l.data.toList.isSuffixOf text.data.toList = false := Bool.eq_false_iff.2 hC
        rw [two_no3 hC']
        rw [hB] at hpre
        rw [hC'] at hsuf
        clear zt zf zl hB hC hC'
        go_enter Try.func19, Try.ntmps19
        go_wp2
        go_region
        all_goals (try go_wp2_with (first | (go_at_call 20; refine (hpre _).mono ?_; rintro e w1 ⟨rfl, hw⟩; subst w1) | (go_at_call 21; refine (hsuf _).mono ?_; rintro e w1 ⟨rfl, hw⟩; subst w1)))
        go_ret
        exact ⟨rfl, rfl⟩
    · have hB' : f.data.toList.isPrefixOf text.data.toList = false := Bool.eq_false_iff.2 hB
      rw [two_no2 hB']
      rw [hB'] at hpre
      clear zt zf zl hB hB'
      go_enter Try.func19, Try.ntmps19
      go_wp2
      go_region
      all_goals (try go_wp2_with (first | (go_at_call 20; refine (hpre _).mono ?_; rintro e w1 ⟨rfl, hw⟩; subst w1) | (go_at_call 21; refine (hsuf _).mono ?_; rintro e w1 ⟨rfl, hw⟩; subst w1)))
      go_ret
      exact ⟨rfl, rfl⟩

end Go.Proofs.Qxb6600834a
