/-
  (*Reader).count AND ZZCount, BY THEIR CONTRACT: at a line that holds, from the reader's place on, the bytes of fine tokens and a closing bracket.
-/
import Derived.Test.Qxb6600387aEnd
import Derived.Deep.Draws
import Derived.WalkMore
set_option linter.unusedVariables false
namespace Go.Proofs.Qxb6600387a
open Go.RowKit Plain

theorem trun_snoc (st : St) (a : List Tok) (t : Tok) : trun st (a ++ [t]) = tstep (trun st a) t := by
  rw [run_append]; rfl

theorem tok_byte (P tl L : List UInt8) (a b : List Tok) (c : UInt8) (hL : L = P ++ (render (a ++ .inl c :: b) ++ 93 :: tl)) : L[P.length + (render a).length]? = some c := by
  rw [hL, render_append]
  simp [render, bytes1]

theorem tok_end (P tl L : List UInt8) (a : List Tok) (hL : L = P ++ (render (a ++ []) ++ 93 :: tl)) : L[P.length + (render a).length]? = some 93 := by
  rw [hL, List.append_nil]
  simp

theorem tok_str (P tl L s : List UInt8) (a b : List Tok) (hL : L = P ++ (render (a ++ .inr s :: b) ++ 93 :: tl)) :
    L[P.length + (render a).length]? = some 34 ∧ L = (P ++ (render a ++ [34])) ++ (escq s ++ 34 :: (render b ++ 93 :: tl)) := by
  rw [hL, render_append]
  constructor
  · simp [render, bytes1, quot]
  · simp [render, bytes1, quot]

theorem ret_pair {a b a' b' : Int} (h1 : a = a') (h2 : b = b') : Ending.returned (.tuple #[.int .i64 a, .int .i64 b]) = .returned (.tuple #[.int .i64 a', .int .i64 b']) := by rw [h1, h2]

theorem render_one (a : List Tok) (c : UInt8) : (render (a ++ [.inl c])).length = (render a).length + 1 := by
  rw [render_append]; simp [render, bytes1]
theorem render_str (a : List Tok) (s : List UInt8) : (render (a ++ [.inr s])).length = (render a).length + (escq s).length + 2 := by
  rw [render_append]; simp [render, bytes1, quot]; omega

theorem done_le (P tl L : List UInt8) (a b : List Tok) (hL : L = P ++ (render (a ++ b) ++ 93 :: tl)) : P.length + (render a).length + (render b).length + 1 ≤ L.length := by
  rw [hL, render_append]; simp; omega

theorem state_le (a : List Tok) (c d : Nat) (e : Bool) (h : trun st0 a = ⟨c, d, e⟩) : c ≤ (render a).length ∧ d ≤ (render a).length := by
  have h1 := run_le st0 a
  have h2 := len_render a
  rw [h] at h1
  simp only [st0] at h1
  omega

set_option maxHeartbeats 8000000 in
theorem count_any (R g cap : Nat) (P tl L : List UInt8) (toks : List Tok) (w : World) (hL : L = P ++ (render toks ++ 93 :: tl)) (hrow : Row w g L) (hcap : L.length ≤ cap) (hbig : L.length ≤ 1073741824)
    (h0 : w.cell? ⟨R, 0, none⟩ = some (.slice (some ⟨g, 0, none⟩) L.length cap)) (h1 : w.cell? ⟨R, 1, none⟩ = some (.int .i64 P.length)) (hf : fineAll st0 toks) (hd : (trun st0 toks).depth = 0) :
    Calls Try.prog 22 #[.pointer (some ⟨R, 0, none⟩)] w fun e w' => e = .returned (.tuple #[.int .i64 ((if (trun st0 toks).bare then 0 else (trun st0 toks).commas + 1 : Nat)), .int .i64 ((render toks).length + 1 : Nat)]) ∧ w' = w.drew := by
  have HL : Hid (L = P ++ (render toks ++ 93 :: tl)) := hL
  have HR : Hid (Row w g L) := hrow
  have HF : Hid (fineAll st0 toks) := hf
  have HD : Hid ((trun st0 toks).depth = 0) := hd
  have hPl : P.length + 1 ≤ L.length := by rw [hL]; simp; omega
  clear hL hrow hf hd
  go_enter Try.func22, Try.ntmps22
  go_wp2
  go_step3
  go_wp2
  go_step3
  go_wp2
  go_loop [4, 5, 6, 7] (fun vc vd ve vp => ∃ (a b : List Tok) (c d : Nat) (e : Bool) (p : Nat), toks = a ++ b ∧ Hid (trun st0 a = ⟨c, d, e⟩) ∧ Hid (p = P.length + (render a).length) ∧ vc = .int .i64 c ∧ vd = .int .i64 d ∧ ve = .bool e ∧ vp = .int .i64 p) (fun _ _ _ vp => L.length - (intOf vp).toNat)
  case atStart => exact ⟨[], toks, 0, 0, true, P.length, rfl, rfl, rfl, rfl, rfl, rfl, rfl⟩
  case round =>
    obtain ⟨a, b, c, d, e, p, hab, HS, HP, rfl, rfl, rfl, rfl⟩ := hrel
    have hL' : L = P ++ (render (a ++ b) ++ 93 :: tl) := by rw [← hab]; exact HL.out
    have hle := done_le P tl L a b hL'
    have hst := state_le a c d e HS.out
    have hp1 : P.length ≤ p := by have := HP.out; omega
    have hp2 : p + (render b).length + 1 ≤ L.length := by have := HP.out; omega
    have hc1 : c ≤ L.length := by omega
    have hd1 : d ≤ L.length := by omega
    have hfa : fineAll st0 (a ++ b) := by rw [← hab]; exact HF.out
    have hfb := ((fineAll_append _ _ _).1 hfa).2
    rw [HS.out] at hfb
    clear hle hst hfa
    cases b with
    | nil =>
      have hcell : w.cell? ⟨g, p, none⟩ = some (.int .u8 93) := by rw [HP.out]; exact HR.out _ _ (tok_end P tl L a hL')
      have hd0 : d = 0 := by
        have := HD.out
        rw [hab, List.append_nil, HS.out] at this
        exact this
      subst hd0
      have HA : Hid (toks = a) := by rw [hab, List.append_nil]; rfl
      clear hab hL' hfb
      go_wp2
      go_region
      all_goals (try go_wp2)
      all_goals
        rw [Exit.noGoto_ret]
        go_ret2
        refine ⟨ret_pair ?_ ?_, rfl⟩
      · have he : e = true := by assumption
        rw [HA.out, HS.out, he]; rfl
      · have := HP.out; rw [HA.out]; omega
      · have he : e = false := by assumption
        rw [HA.out, HS.out, he]; simp
      · have := HP.out; rw [HA.out]; omega
    | cons t b =>
      have hft := hfb.1
      clear hfb
      cases t with
      | inr s =>
        obtain ⟨hq, hsplit⟩ := tok_str P tl L s a b hL'
        have hcell : w.cell? ⟨g, p, none⟩ = some (.int .u8 34) := by rw [HP.out]; exact HR.out _ _ hq
        have hlen1 : (P ++ (render a ++ [34])).length = p + 1 := by rw [HP.out]; simp; omega
        have hend := stringEnd_any g cap (P ++ (render a ++ [34])) s (render b ++ 93 :: tl) L w hsplit HR.out hcap hbig
        rw [hlen1] at hend
        have hes : p + (escq s).length + 2 ≤ L.length := by have := congrArg List.length hsplit; simp at this; have := HP.out; omega
        have HS' : Hid (trun st0 (a ++ [.inr s]) = ⟨c, d, false⟩) := by show _ = _; rw [trun_snoc, HS.out]; rfl
        have HP' : Hid (p + (escq s).length + 2 = P.length + (render (a ++ [.inr s])).length) := by show _ = _; rw [render_str, HP.out]; omega
        have HAB : Hid (toks = (a ++ [.inr s]) ++ b) := by show _ = _; rw [hab]; simp
        clear hab hL' HS HP hsplit hq hlen1
        go_wp2_with (go_at_call 27; refine hend.mono ?_; rintro e w1 ⟨rfl, hw⟩; subst w1)
        go_round
        case rel => exact ⟨a ++ [.inr s], b, _, _, _, p + (escq s).length + 2, HAB.out, HS', HP', by go_num, by go_num, rfl, by go_num⟩
        case measure => simp [intOf]; omega
      | inl x =>
        rcases hft with rfl | rfl | rfl | rfl | rfl | rfl | ⟨rfl | rfl, hpos⟩ | rfl | rfl
        · have hcell : w.cell? ⟨g, p, none⟩ = some (.int .u8 32) := by rw [HP.out]; exact HR.out _ _ (tok_byte P tl L a b 32 hL')
          have HS' : Hid (trun st0 (a ++ [.inl 32]) = ⟨c, d, e⟩) := by show _ = _; rw [trun_snoc, HS.out]; simp [tstep]
          have HP' : Hid (p + 1 = P.length + (render (a ++ [.inl 32])).length) := by show _ = _; rw [render_one, HP.out]; omega
          have HAB : Hid (toks = (a ++ [.inl 32]) ++ b) := by show _ = _; rw [hab]; simp
          clear hab hL' HS HP
          go_wp2
          go_round
          case rel => exact ⟨a ++ [.inl 32], b, _, _, _, p + 1, HAB.out, HS', HP', by go_num, by go_num, rfl, by go_num⟩
          case measure => simp [intOf]; omega
        · have hcell : w.cell? ⟨g, p, none⟩ = some (.int .u8 9) := by rw [HP.out]; exact HR.out _ _ (tok_byte P tl L a b 9 hL')
          have HS' : Hid (trun st0 (a ++ [.inl 9]) = ⟨c, d, e⟩) := by show _ = _; rw [trun_snoc, HS.out]; simp [tstep]
          have HP' : Hid (p + 1 = P.length + (render (a ++ [.inl 9])).length) := by show _ = _; rw [render_one, HP.out]; omega
          have HAB : Hid (toks = (a ++ [.inl 9]) ++ b) := by show _ = _; rw [hab]; simp
          clear hab hL' HS HP
          go_wp2
          go_round
          case rel => exact ⟨a ++ [.inl 9], b, _, _, _, p + 1, HAB.out, HS', HP', by go_num, by go_num, rfl, by go_num⟩
          case measure => simp [intOf]; omega
        · have hcell : w.cell? ⟨g, p, none⟩ = some (.int .u8 10) := by rw [HP.out]; exact HR.out _ _ (tok_byte P tl L a b 10 hL')
          have HS' : Hid (trun st0 (a ++ [.inl 10]) = ⟨c, d, e⟩) := by show _ = _; rw [trun_snoc, HS.out]; simp [tstep]
          have HP' : Hid (p + 1 = P.length + (render (a ++ [.inl 10])).length) := by show _ = _; rw [render_one, HP.out]; omega
          have HAB : Hid (toks = (a ++ [.inl 10]) ++ b) := by show _ = _; rw [hab]; simp
          clear hab hL' HS HP
          go_wp2
          go_round
          case rel => exact ⟨a ++ [.inl 10], b, _, _, _, p + 1, HAB.out, HS', HP', by go_num, by go_num, rfl, by go_num⟩
          case measure => simp [intOf]; omega
        · have hcell : w.cell? ⟨g, p, none⟩ = some (.int .u8 13) := by rw [HP.out]; exact HR.out _ _ (tok_byte P tl L a b 13 hL')
          have HS' : Hid (trun st0 (a ++ [.inl 13]) = ⟨c, d, e⟩) := by show _ = _; rw [trun_snoc, HS.out]; simp [tstep]
          have HP' : Hid (p + 1 = P.length + (render (a ++ [.inl 13])).length) := by show _ = _; rw [render_one, HP.out]; omega
          have HAB : Hid (toks = (a ++ [.inl 13]) ++ b) := by show _ = _; rw [hab]; simp
          clear hab hL' HS HP
          go_wp2
          go_round
          case rel => exact ⟨a ++ [.inl 13], b, _, _, _, p + 1, HAB.out, HS', HP', by go_num, by go_num, rfl, by go_num⟩
          case measure => simp [intOf]; omega
        · have hcell : w.cell? ⟨g, p, none⟩ = some (.int .u8 91) := by rw [HP.out]; exact HR.out _ _ (tok_byte P tl L a b 91 hL')
          have HS' : Hid (trun st0 (a ++ [.inl 91]) = ⟨c, d + 1, false⟩) := by show _ = _; rw [trun_snoc, HS.out]; simp [tstep]
          have HP' : Hid (p + 1 = P.length + (render (a ++ [.inl 91])).length) := by show _ = _; rw [render_one, HP.out]; omega
          have HAB : Hid (toks = (a ++ [.inl 91]) ++ b) := by show _ = _; rw [hab]; simp
          clear hab hL' HS HP
          go_wp2
          go_round
          case rel => exact ⟨a ++ [.inl 91], b, _, _, _, p + 1, HAB.out, HS', HP', by go_num, by go_num, rfl, by go_num⟩
          case measure => simp [intOf]; omega
        · have hcell : w.cell? ⟨g, p, none⟩ = some (.int .u8 123) := by rw [HP.out]; exact HR.out _ _ (tok_byte P tl L a b 123 hL')
          have HS' : Hid (trun st0 (a ++ [.inl 123]) = ⟨c, d + 1, false⟩) := by show _ = _; rw [trun_snoc, HS.out]; simp [tstep]
          have HP' : Hid (p + 1 = P.length + (render (a ++ [.inl 123])).length) := by show _ = _; rw [render_one, HP.out]; omega
          have HAB : Hid (toks = (a ++ [.inl 123]) ++ b) := by show _ = _; rw [hab]; simp
          clear hab hL' HS HP
          go_wp2
          go_round
          case rel => exact ⟨a ++ [.inl 123], b, _, _, _, p + 1, HAB.out, HS', HP', by go_num, by go_num, rfl, by go_num⟩
          case measure => simp [intOf]; omega
        · have hpos' : 0 < d := hpos
          clear hpos
          have hcell : w.cell? ⟨g, p, none⟩ = some (.int .u8 93) := by rw [HP.out]; exact HR.out _ _ (tok_byte P tl L a b 93 hL')
          have HS' : Hid (trun st0 (a ++ [.inl 93]) = ⟨c, d - 1, false⟩) := by show _ = _; rw [trun_snoc, HS.out]; simp [tstep]
          have HP' : Hid (p + 1 = P.length + (render (a ++ [.inl 93])).length) := by show _ = _; rw [render_one, HP.out]; omega
          have HAB : Hid (toks = (a ++ [.inl 93]) ++ b) := by show _ = _; rw [hab]; simp
          clear hab hL' HS HP
          go_wp2
          go_round
          case rel => exact ⟨a ++ [.inl 93], b, _, _, _, p + 1, HAB.out, HS', HP', by go_num, by go_num, rfl, by go_num⟩
          case measure => simp [intOf]; omega
        · have hpos' : 0 < d := hpos
          clear hpos
          have hcell : w.cell? ⟨g, p, none⟩ = some (.int .u8 125) := by rw [HP.out]; exact HR.out _ _ (tok_byte P tl L a b 125 hL')
          have HS' : Hid (trun st0 (a ++ [.inl 125]) = ⟨c, d - 1, false⟩) := by show _ = _; rw [trun_snoc, HS.out]; simp [tstep]
          have HP' : Hid (p + 1 = P.length + (render (a ++ [.inl 125])).length) := by show _ = _; rw [render_one, HP.out]; omega
          have HAB : Hid (toks = (a ++ [.inl 125]) ++ b) := by show _ = _; rw [hab]; simp
          clear hab hL' HS HP
          go_wp2
          go_round
          case rel => exact ⟨a ++ [.inl 125], b, _, _, _, p + 1, HAB.out, HS', HP', by go_num, by go_num, rfl, by go_num⟩
          case measure => simp [intOf]; omega
        · by_cases hd0 : d = 0
          · subst hd0
            have hcell : w.cell? ⟨g, p, none⟩ = some (.int .u8 44) := by rw [HP.out]; exact HR.out _ _ (tok_byte P tl L a b 44 hL')
            have HS' : Hid (trun st0 (a ++ [.inl 44]) = ⟨c + 1, 0, false⟩) := by show _ = _; rw [trun_snoc, HS.out]; simp [tstep]
            have HP' : Hid (p + 1 = P.length + (render (a ++ [.inl 44])).length) := by show _ = _; rw [render_one, HP.out]; omega
            have HAB : Hid (toks = (a ++ [.inl 44]) ++ b) := by show _ = _; rw [hab]; simp
            clear hab hL' HS HP
            go_wp2
            go_round
            case rel => exact ⟨a ++ [.inl 44], b, _, _, _, p + 1, HAB.out, HS', HP', by go_num, by go_num, rfl, by go_num⟩
            case measure => simp [intOf]; omega
          · have hcell : w.cell? ⟨g, p, none⟩ = some (.int .u8 44) := by rw [HP.out]; exact HR.out _ _ (tok_byte P tl L a b 44 hL')
            have HS' : Hid (trun st0 (a ++ [.inl 44]) = ⟨c, d, false⟩) := by show _ = _; rw [trun_snoc, HS.out]; simp [tstep, hd0]
            have HP' : Hid (p + 1 = P.length + (render (a ++ [.inl 44])).length) := by show _ = _; rw [render_one, HP.out]; omega
            have HAB : Hid (toks = (a ++ [.inl 44]) ++ b) := by show _ = _; rw [hab]; simp
            have hd2 : 0 < d := by omega
            clear hd0 hab hL' HS HP
            go_wp2
            go_round
            case rel => exact ⟨a ++ [.inl 44], b, _, _, _, p + 1, HAB.out, HS', HP', by go_num, by go_num, rfl, by go_num⟩
            case measure => simp [intOf]; omega
        · have hcell : w.cell? ⟨g, p, none⟩ = some (.int .u8 58) := by rw [HP.out]; exact HR.out _ _ (tok_byte P tl L a b 58 hL')
          have HS' : Hid (trun st0 (a ++ [.inl 58]) = ⟨c, d, false⟩) := by show _ = _; rw [trun_snoc, HS.out]; simp [tstep]
          have HP' : Hid (p + 1 = P.length + (render (a ++ [.inl 58])).length) := by show _ = _; rw [render_one, HP.out]; omega
          have HAB : Hid (toks = (a ++ [.inl 58]) ++ b) := by show _ = _; rw [hab]; simp
          clear hab hL' HS HP
          go_wp2
          go_round
          case rel => exact ⟨a ++ [.inl 58], b, _, _, _, p + 1, HAB.out, HS', HP', by go_num, by go_num, rfl, by go_num⟩
          case measure => simp [intOf]; omega

end Go.Proofs.Qxb6600387a
