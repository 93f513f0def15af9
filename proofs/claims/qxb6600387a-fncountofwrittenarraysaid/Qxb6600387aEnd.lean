/-
  stringEnd, BY ITS CONTRACT: at a line whose bytes from 'fr' on are a string's escaped bytes and a quote it returns that quote's index.
-/
import Derived.Test.Qxb6600387aShelf
import Derived.Test.Qxb6600387aPlain
import Derived.WalkKit
import Derived.Lib.Strings
set_option linter.unusedVariables false
namespace Go.Proofs.Qxb6600387a
open Go.RowKit Plain

/-- block g holds the bytes L from its head on -/
def Row (w : World) (g : Nat) (L : List UInt8) : Prop := ∀ (i : Nat) (c : UInt8), L[i]? = some c → w.cell? ⟨g, i, none⟩ = some (.int .u8 c.toNat)

theorem indexByte_at (u r : List UInt8) (c : UInt8) (h : c ∉ u) : Lib.indexByte (u ++ c :: r) c = u.length := by
  induction u with
  | nil => simp [Lib.indexByte]
  | cons b u ih =>
    simp only [List.mem_cons, not_or] at h
    have := ih h.2
    have hb : ¬ b = c := fun e => h.1 e.symm
    simp only [List.cons_append, Lib.indexByte, beq_iff_eq, hb, if_false, this, List.length_cons]
    rw [if_neg (by omega)]
    omega

theorem bytesOf_nums (l : List UInt8) : Lib.bytesOf (l.map fun c => (c.toNat : Int)) = l := by
  induction l with
  | nil => rfl
  | cons c l ih =>
    simp only [Lib.bytesOf, List.map_cons, List.map_map] at ih ⊢
    simpa using ih

theorem index_quote (g c i : Nat) (L : List UInt8) (w : World) (h : Row w g L) :
    Calls Try.prog 28 #[.slice (some ⟨g, i, none⟩) (L.length - i) c, .int .u8 34] w fun e w' => e = .returned (.int .i64 (Lib.indexByte (L.drop i) 34)) ∧ w' = w := by
  refine (Try.bytes_IndexByte g i (L.length - i) c ((L.drop i).map fun c => (c.toNat : Int)) 34 w (by simp) ?_).mono ?_
  · intro j hj
    have hj' : i + j < L.length := by omega
    rw [h (i + j) L[i + j] (by simp [hj'])]
    simp [List.getD, hj']
  · rintro e w' ⟨rfl, rfl⟩
    rw [bytesOf_nums]
    exact ⟨rfl, rfl⟩

theorem split_first (l : List UInt8) (c : UInt8) : ∃ u v, l = u ++ v ∧ c ∉ u ∧ (v = [] ∨ ∃ v', v = c :: v') := by
  induction l with
  | nil => exact ⟨[], [], rfl, by simp, .inl rfl⟩
  | cons b l ih =>
    by_cases h : b = c
    · exact ⟨[], b :: l, rfl, by simp, .inr ⟨l, by rw [h]⟩⟩
    · obtain ⟨u, v, rfl, h2, h3⟩ := ih
      exact ⟨b :: u, v, rfl, by simp [h2]; exact fun e => h e.symm, h3⟩

theorem escq_no (u : List UInt8) (h : (34 : UInt8) ∉ u) : (34 : UInt8) ∉ escq u := by
  induction u with
  | nil => simp [escq]
  | cons c u ih =>
    simp only [List.mem_cons, not_or] at h
    simp only [escq]
    split <;> simp [ih h.2, h.1]

/-- what the next quote is: the closing one, or one that is escaped -/
theorem next_quote (P s1 s2 R L : List UInt8) (hL : L = P ++ (escq (s1 ++ s2) ++ 34 :: R)) :
    (Lib.indexByte (L.drop (P.length + (escq s1).length)) 34 = (escq s2).length) ∨
    ∃ u v, s2 = u ++ 34 :: v ∧ Lib.indexByte (L.drop (P.length + (escq s1).length)) 34 = (escq u).length + 1 := by
  have hd : L.drop (P.length + (escq s1).length) = escq s2 ++ 34 :: R := by
    subst hL
    rw [← List.drop_drop, List.drop_left, escq_append, List.append_assoc, List.drop_left]
  rw [hd]
  obtain ⟨u, v, rfl, hu, rfl | ⟨v', rfl⟩⟩ := split_first s2 34
  · left
    rw [List.append_nil]
    exact indexByte_at _ _ _ (escq_no u hu)
  · right
    refine ⟨u, v', rfl, ?_⟩
    rw [escq_append]
    have : escq u ++ escq (34 :: v') ++ 34 :: R = (escq u ++ [92]) ++ 34 :: (escq v' ++ 34 :: R) := by simp [escq]
    rw [this, indexByte_at _ _ _ (by simp [escq_no u hu])]
    simp

/-- the run of backslashes, read backwards, a byte a step -/
theorem run_more (X : List UInt8) (m q : Nat) (hd : X.length = m + q + 1) (c : UInt8) (hc : X[q]? = some c) :
    bsRun (X.take (q + 1)) = if c = 92 then bsRun (X.take q) + 1 else 0 := by
  rw [List.take_add_one, hc]
  exact bsRun_snoc _ _

theorem quote_facts (P s1 s2 R L : List UInt8) (p : Nat) (hL : L = P ++ (escq (s1 ++ s2) ++ 34 :: R)) (hp : p = P.length + (escq s1).length) :
    ∃ (d : Nat) (X : List UInt8), Lib.indexByte (L.drop p) 34 = d ∧ p + d < L.length ∧ X = (L.drop P.length).take (p + d - P.length) ∧ X.length = p + d - P.length ∧
      ((bsRun X % 2 = 0 ∧ p + d = P.length + (escq (s1 ++ s2)).length) ∨ (bsRun X % 2 = 1 ∧ ∃ u v, s1 ++ s2 = u ++ v ∧ p + d + 1 = P.length + (escq u).length)) := by
  have hdrop : L.drop P.length = escq (s1 ++ s2) ++ 34 :: R := by rw [hL, List.drop_left]
  have hLl : L.length = P.length + (escq (s1 ++ s2)).length + 1 + R.length := by rw [hL]; simp; omega
  have h12 : (escq (s1 ++ s2)).length = (escq s1).length + (escq s2).length := by rw [escq_append]; simp
  rcases next_quote P s1 s2 R L hL with h | ⟨u, v, rfl, h⟩
  · rw [← hp] at h
    refine ⟨(escq s2).length, _, h, by omega, rfl, ?_, .inl ⟨?_, by omega⟩⟩
    · rw [hdrop]; simp; omega
    · rw [hdrop]
      have e : p + (escq s2).length - P.length = (escq (s1 ++ s2)).length := by omega
      rw [e, List.take_left]
      exact bsRun_escq _
  · rw [← hp] at h
    have hu : (escq (u ++ 34 :: v)).length = (escq u).length + 2 + (escq v).length := by rw [escq_append]; simp [escq]; omega
    refine ⟨(escq u).length + 1, _, by simpa using h, by omega, rfl, ?_, .inr ⟨?_, s1 ++ u ++ [34], v, by simp, ?_⟩⟩
    · rw [hdrop]; simp; omega
    · have e : escq (s1 ++ (u ++ 34 :: v)) ++ 34 :: R = (escq (s1 ++ u) ++ [92]) ++ (34 :: (escq v ++ 34 :: R)) := by
        simp [escq_append, escq]
      have e2 : p + ((escq u).length + 1) - P.length = (escq (s1 ++ u) ++ [92]).length := by
        rw [escq_append]; simp; omega
      rw [hdrop, e, e2, List.take_left, bsRun_snoc]
      have := bsRun_escq (s1 ++ u)
      simp
      omega
    · rw [escq_append, escq_append]; simp [escq]; omega

set_option maxHeartbeats 4000000 in
theorem stringEnd_any (g cap : Nat) (P s R L : List UInt8) (w : World) (hL : L = P ++ (escq s ++ 34 :: R)) (hrow : Row w g L) (hcap : L.length ≤ cap) (hbig : L.length ≤ 1073741824) :
    Calls Try.prog 27 #[.slice (some ⟨g, 0, none⟩) L.length cap, .int .i64 P.length] w fun e w' => e = .returned (.int .i64 (P.length + (escq s).length : Nat)) ∧ w' = w := by
  have hlo : P.length + (escq s).length + 1 ≤ L.length := by rw [hL]; simp; omega
  have HL : Hid (L = P ++ (escq s ++ 34 :: R)) := hL
  have HR : Hid (Row w g L) := hrow
  clear hL hrow
  go_enter Try.func27, Try.ntmps27
  go_wp2
  go_loop [5, 6, 7, 8] (fun i _ _ _ => ∃ s1 s2, s = s1 ++ s2 ∧ i = .int .i64 (P.length + (escq s1).length : Nat)) (fun i _ _ _ => L.length - (intOf i).toNat)
  case atStart => exact ⟨[], s, rfl, by simp [escq]⟩
  case round =>
    obtain ⟨s1, s2, hs, rfl⟩ := hrel
    have h12 : (escq s).length = (escq s1).length + (escq s2).length := by rw [hs, escq_append]; simp
    have hn := next_quote P s1 s2 R L (by rw [HL.out, hs])
    obtain ⟨p, hp⟩ : ∃ p, p = P.length + (escq s1).length := ⟨_, rfl⟩
    rw [← hp] at hn ⊢
    have HS : Hid (s = s1 ++ s2) := hs
    have hp1 : P.length ≤ p := by omega
    have hp2 : p + (escq s2).length + 1 ≤ L.length := by omega
    have HP : Hid (p = P.length + (escq s1).length) := hp
    have H12 : Hid ((escq s).length = (escq s1).length + (escq s2).length) := h12
    clear hs hp h12
    have hidx := index_quote g (cap - p) p L w HR.out
    -- the next quote stands d bytes on; X: the bytes from the string's head to it; they end in an even run of backslashes just where it closes the string
    obtain ⟨d, X, hd1, hd2, hX1, hX2, hQ⟩ := quote_facts P s1 s2 R L p (by rw [HL.out, HS.out]) HP.out
    rw [← HS.out] at hQ
    have HX : Hid (X = (L.drop P.length).take (p + d - P.length)) := hX1
    have HQ : Hid ((bsRun X % 2 = 0 ∧ p + d = P.length + (escq s).length) ∨ (bsRun X % 2 = 1 ∧ ∃ u v, s = u ++ v ∧ p + d + 1 = P.length + (escq u).length)) := hQ
    have hx1 : X.length + P.length ≤ p + d := by omega
    have hx2 : p + d ≤ X.length + P.length := by omega
    clear hX1 hX2 hQ hn
    go_wp2_with (go_at_call 28; refine hidx.mono ?_; rintro e w1 ⟨rfl, hw⟩; subst w1; rw [hd1])
    clear hidx hd1
    go_loop [7, 8] (fun b j => ∃ m : Nat, m ≤ X.length ∧ b = .int .i64 m ∧ j = .int .i64 ((p : Int) + d - 1 - m) ∧ Hid (bsRun X = m + bsRun (X.take (X.length - m)))) (fun b _ => X.length - (intOf b).toNat)
    case atStart => exact ⟨0, Nat.zero_le _, rfl, by simp, by show _ = _; simp⟩
    case round =>
      obtain ⟨m, hm, rfl, rfl, HB⟩ := hrel
      by_cases hq : m < X.length
      · obtain ⟨q, hq⟩ : ∃ q, X.length = m + q + 1 := ⟨X.length - m - 1, by omega⟩
        have hj : (p : Int) + d - 1 - m = ((P.length + q : Nat) : Int) := by omega
        rw [hj]
        obtain ⟨c, hc⟩ : ∃ c, X[q]? = some c := ⟨X[q]'(by omega), by simp⟩
        have hcL : L[P.length + q]? = some c := by
          have := hc
          rw [HX.out, List.getElem?_take_of_lt (by omega), List.getElem?_drop] at this
          exact this
        have hcell := HR.out _ _ hcL
        have hrun := run_more X m q hq c hc
        have hB := HB.out
        rw [show X.length - m = q + 1 by omega, hrun] at hB
        by_cases h92 : c = 92
        · subst h92
          have HB2 : Hid (bsRun X = (m + 1 : Nat) + bsRun (X.take (X.length - (m + 1)))) := by
            show _ = _
            rw [hB, show X.length - (m + 1) = q by omega]; simp; omega
          clear hB hrun hc hcL HB hj
          have hq1 : m + q + 1 ≤ X.length := by omega
          have hq2 : X.length ≤ m + q + 1 := by omega
          clear hq
          go_wp2
          go_round
          case rel => exact ⟨m + 1, by omega, by go_num, by go_num, HB2⟩
          case measure => simp [intOf]; omega
        · have hcI : ((c.toNat : Int) == 92) = false := by
            rw [beq_eq_false_iff_ne]
            intro e
            apply h92
            apply UInt8.toNat_inj.1
            have : (92 : UInt8).toNat = 92 := rfl
            omega
          rw [if_neg h92] at hB
          have hpar : bsRun X = m := by simpa using hB
          rcases HQ.out with ⟨h0, h1⟩ | ⟨h0, u, v, h1, h2⟩
          · rw [hpar] at h0
            have hm2 : (m : Int) % 2 = 0 := by omega
            have H1 : Hid (p + d = P.length + (escq s).length) := h1
            clear hB hrun hc hcL HB hj hpar h0 h1 h92 HQ
            have hq1 : m + q + 1 ≤ X.length := by omega
            clear hq
            go_wp2
            go_ret
            exact ⟨congrArg (fun z => Ending.returned (.int .i64 z)) (by have := H1.out; omega), rfl⟩
          · rw [hpar] at h0
            have hm2 : (m : Int) % 2 = 1 := by omega
            have H1 : Hid (s = u ++ v) := h1
            have H2 : Hid (p + d + 1 = P.length + (escq u).length) := h2
            clear hB hrun hc hcL HB hj hpar h0 h1 h2 h92 HQ
            have hq1 : m + q + 1 ≤ X.length := by omega
            clear hq
            go_wp2
            go_round
            case rel => exact ⟨u, v, H1.out, congrArg (fun z => Value.int .i64 z) (by have := H2.out; omega)⟩
            case measure => simp [intOf]; omega
      · have hB := HB.out
        rw [show X.length - m = 0 by omega] at hB
        have hpar : bsRun X = m := by simpa [bsRun_nil] using hB
        rcases HQ.out with ⟨h0, h1⟩ | ⟨h0, u, v, h1, h2⟩
        · rw [hpar] at h0
          have hm2 : (m : Int) % 2 = 0 := by omega
          have H1 : Hid (p + d = P.length + (escq s).length) := h1
          clear hB HB hpar h0 h1 HQ
          go_wp2
          go_ret
          exact ⟨congrArg (fun z => Ending.returned (.int .i64 z)) (by have := H1.out; omega), rfl⟩
        · rw [hpar] at h0
          have hm2 : (m : Int) % 2 = 1 := by omega
          have H1 : Hid (s = u ++ v) := h1
          have H2 : Hid (p + d + 1 = P.length + (escq u).length) := h2
          clear hB HB hpar h0 h1 h2 HQ
          go_wp2
          go_round
          case rel => exact ⟨u, v, H1.out, congrArg (fun z => Value.int .i64 z) (by have := H2.out; omega)⟩
          case measure => simp [intOf]; omega

end Go.Proofs.Qxb6600387a
