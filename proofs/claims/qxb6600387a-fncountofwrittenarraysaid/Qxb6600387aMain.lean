/-
  THE WALK OF FnCountOfWrittenArray.
-/
import Derived.Test.Qxb6600387aParts
set_option linter.unusedVariables false
namespace Go.Proofs.Qxb6600387a
open Go.RowKit Plain

theorem own_cast {B : Nat} {e : TypeId} {w : World} {v : Value} {l l' : List UInt8} (h : Own B e w v (bcells l)) (hl : l' = l) : Own B e w v (bcells l') := by rw [hl]; exact h

theorem call_line {B n0 n M : Nat} {w : World} {v : Value} {l0 A l2 : List UInt8} {toks : List Tok} (ho : Own B 5 w v (bcells ([] ++ l0 ++ A ++ l2))) (hF : l0 ++ A ++ l2 = (l0 ++ [91]) ++ (render toks ++ 93 :: l2)) (hn0 : l0.length = n0) (hlen : (l0 ++ A ++ l2).length ≤ 1073741824)
    (hf : fineAll st0 toks) (hd : (trun st0 toks).depth = 0) (hN : (if (trun st0 toks).bare then 0 else (trun st0 toks).commas + 1) = n) (hM : (render toks).length + 1 = M) :
    Calls Try.prog 10 #[v, .int .i64 ((n0 : Int) + 1)] w fun e w' => e = .returned (.tuple #[.int .i64 n, .int .i64 M]) ∧ Below w.heap.size w w' := by
  rw [List.nil_append] at ho
  obtain ⟨L, hL⟩ : ∃ L, L = l0 ++ A ++ l2 := ⟨_, rfl⟩
  rw [← hL] at ho hF hlen
  have e : (n0 : Int) + 1 = (((l0 ++ [91]).length : Nat) : Int) := by simp; omega
  rw [e]
  rcases ho.shape with ⟨_, h0⟩ | ⟨g, cap, rfl, h1, h2, h3, h4⟩
  · have h0' : L = [] := by simpa [bcells] using h0
    rw [h0'] at hF
    simp at hF
  · rw [bcells_length] at h3 ⊢
    refine zzcount_any g cap (l0 ++ [91]) l2 L toks w hF ?_ h2 h3 hlen hf hd n M hN hM
    intro i c hi
    exact h4 i _ (by rw [bcells_at, hi]; rfl)

theorem arr_form (p q : Bool) (l : List (List UInt8)) : arr p q l = (91 :: render (arrToks p q true l)) ++ ((if q then [32] else []) ++ [93]) := by
  unfold arr inner
  rw [render_append]
  cases q <;> simp [render, bytes1]

set_option maxHeartbeats 16000000 in
set_option maxRecDepth 1000000 in
theorem walk_in (a0 a2 ao : Option Addr) (n0 c0 n cap n2 c2 : Nat) (p q : Bool) (l0 l2 : List UInt8) (ss : List ByteArray) (w : World)
    (h : Src w ao n cap (scells ss)) (h0 : Src w a0 n0 c0 (bcells l0)) (h2 : Src w a2 n2 c2 (bcells l2)) (hm0 : n0 ≤ maxLen) (hn : n ≤ maxLen) (hm2 : n2 ≤ maxLen) (hss : ∀ s ∈ ss, s.size ≤ maxLen) :
    Calls Try.prog 4 #[.slice a0 n0 c0, .slice ao n cap, .bool p, .bool q, .slice a2 n2 c2] w fun e w' => e = .returned (.bool true) ∧ Below w.heap.size w w' := by
  have hsum := zzBytes_any a0 a2 ao n0 c0 n cap n2 c2 p q ss w h hm0 hn hm2 hss
  have hsl : ss.length = n := by rw [← scells_length]; exact h.1
  unfold maxLen at hm0 hn hm2
  have HX : Hid (ss.length = n) := hsl
  have HC : Hid (Src w ao n cap (scells ss)) := h
  have HC0 : Hid (Src w a0 n0 c0 (bcells l0)) := h0
  have HC2 : Hid (Src w a2 n2 c2 (bcells l2)) := h2
  clear h h0 h2 hss hsl
  go_enter Try.func4, Try.ntmps4
  go_wp2_with (go_at_call 12; refine hsum.mono ?_; rintro e w1 ⟨b, rfl, hw, hb⟩; subst w1; cases b)
  all_goals clear hsum
  all_goals first | (go_ret; exact ⟨rfl, Below.refl _ _⟩) | skip
  have HB : Hid (∀ s ∈ ss, s.size ≤ 1048576) := hb trivial
  clear hb
  go_loop [11, 12] (fun z i => ∃ k : Nat, k ≤ n ∧ n0 + n2 + 16 * n + tot (ss.take k) ≤ 1048576 ∧ i = .int .i64 k ∧ z = .int .i64 (n0 + n2 + 16 * n + tot (ss.take k) : Nat)) (fun _ i => n - (intOf i).toNat)
  case atStart => exact ⟨0, Nat.zero_le _, by simp [tot]; omega, rfl, by simp [tot]⟩
  case round =>
    obtain ⟨k, hk, hm, rfl, rfl⟩ := hrel
    by_cases hlt : k < n
    · have hl := HX.out
      obtain ⟨s, hs⟩ : ∃ s, ss[k]? = some s := ⟨ss[k]'(by omega), by simp⟩
      have hsm : s.size ≤ 1048576 := HB.out s (List.mem_of_getElem? hs)
      have hu : (scells ss)[k]? = some (.string s) := by rw [scells_at, hs]; rfl
      have HT : Hid (tot (ss.take (k + 1)) = tot (ss.take k) + s.size) := tot_snoc ss k s hs
      generalize tot (ss.take k) = m at *
      obtain ⟨_, _, ⟨rfl, rfl⟩ | ⟨x, rfl, h0 | ⟨b, off, rfl, hcells⟩⟩⟩ := HC.out
      · omega
      · rw [h0] at hu; simp at hu
      have hrd := hcells k _ hu
      clear hcells hu hs hl
      go_wp2
      · go_ret
        exact ⟨rfl, Below.refl _ _⟩
      · go_round
        case rel => exact ⟨k + 1, by omega, by rw [HT.out]; omega, by go_num, by rw [HT.out]; go_num⟩
        case measure => simp [intOf]; omega
    · have hkn : k = n := by omega
      subst k
      have e1 : ss.take n = ss := List.take_of_length_le (by rw [HX.out]; exact Nat.le_refl _)
      rw [e1] at hm ⊢
      clear e1 hlt hk HB
      go_wp2_with (go_at_call 9; refine (copyBytes_any a0 n0 c0 l0 w HC0.out (by omega)).mono ?_; rintro e w1 ⟨v0, rfl, ho0, hb0⟩)
      obtain ⟨x0, d0, hv0, -⟩ := ho0.view
      rw [HC0.out.1] at hv0
      subst hv0
      have hs1 := HC.out.below hb0
      go_wp2_with (go_at_call 13; refine (copyStrings_any ao n cap ss w1 hs1 (by omega)).mono ?_; rintro e w2 ⟨v1, rfl, ho1, hb1⟩)
      obtain ⟨x1, d1, hv1, hc1⟩ := ho1.view
      rw [HC.out.1] at hv1
      subst hv1
      have hb01 : Below w.heap.size w w2 := hb0.trans (hb1.mono hb0.size)
      have hs2 := HC2.out.below hb01
      obtain ⟨i0, hi, hz0, hz1, hz2⟩ := info_parts infoByte
      go_wp2_with (first
        | (go_at_call 9; refine (copyBytes_any a2 n2 c2 l2 w2 hs2 (by omega)).mono ?_; rintro e w3 ⟨v2, rfl, ho2, hb2⟩)
        | (at_make; refine wpList_make_own _ rfl _ _ 22 rfl w3.heap.size 5 i0 (.int .u8 0) 1 Try.underlying22 hi hz0 hz1 .i64 .i64 8 8 rfl rfl (by omega) (by rw [hz2]; omega) (by unfold maxLen; omega) (Nat.le_refl _) ?_; intro w4 hown4 hgrow4; have ho4 : Own w3.heap.size 5 w4 (.slice (some ⟨w3.heap.size, 0, none⟩) 0 8) (bcells []) := hown4; have hb4 : Below w3.heap.size w3 w4 := (Below.refl _ _).grown hgrow4 (Nat.le_refl _) (by intro k hk; cases hk); clear hown4 hgrow4)
        | (at_builtin; refine app_lit (.tmp 71) (.tmp 72) [91] rfl rfl rfl rfl rfl ho4 hb4 (Nat.le_refl _) (by simp) ?_; intro v5 w5 ho5 hb5))
      -- what lies in w3, and stays
      have HA0 : Hid (Own w.heap.size 5 w3 (.slice x0 n0 d0) (bcells l0)) := (ho0.below (Nat.le_refl _) hb1).below (Nat.le_refl _) hb2
      have HA2 : Hid (Own w2.heap.size 5 w3 v2 (bcells l2)) := ho2
      have HBW : Hid (Below w.heap.size w w3) := hb01.trans (hb2.mono hb01.size)
      have HSS : Hid (∀ k s, ss[k]? = some s → ∃ g, x1 = some ⟨g, 0, none⟩ ∧ g < w3.heap.size ∧ n ≤ d1 ∧ w3.cell? ⟨g, k, none⟩ = some (.string s)) := by
        intro k s hs
        have hu : (scells ss)[k]? = some (.string s) := by rw [scells_at, hs]; rfl
        rcases hc1 with hc1 | ⟨g, hx, hg, hd, hcells⟩
        · rw [hc1] at hu; simp at hu
        · refine ⟨g, hx, Nat.lt_of_lt_of_le hg hb2.size, by rw [HC.out.1] at hd; exact hd, ?_⟩
          rw [hb2.cell (p := ⟨g, k, none⟩) hg]
          exact hcells k _ hu
      clear ho0 hb1 hb2 ho2 hb01 hc1 hs1 hs2 ho1 hb0 ho4 hb4 hi hz0 hz1 hz2
      go_loopw [13, 14] (fun va i wr => ∃ k : Nat, k ≤ n ∧ i = .int .i64 k ∧ Own w3.heap.size 5 wr va (bcells (91 :: render (arrToks p q true (dat (ss.take k))))) ∧ Below w3.heap.size w3 wr)
        (fun _ i _ => n - (intOf i).toNat)
      case atStart => exact ⟨0, Nat.zero_le _, rfl, ho5, hb5⟩
      case round =>
        clear ho5 hb5
        obtain ⟨k, hk, rfl, hbuf, hbel⟩ := hrel
        by_cases hlt : k < n
        · have hl := HX.out
          obtain ⟨s, hs⟩ : ∃ s, ss[k]? = some s := ⟨ss[k]'(by omega), by simp⟩
          obtain ⟨g, rfl, hg, hd1, hc3⟩ := HSS.out k s hs
          have HC3 : Hid (w3.cell? ⟨g, k, none⟩ = some (.string s)) := hc3
          have hcs := (hbel.cell (p := ⟨g, k, none⟩) hg).trans hc3
          have ht1 := tot_mem ss k s hs
          have ht2 := arr_len p q true (ss.take k)
          have ht3 : (ss.take k).length ≤ k := List.length_take_le _ _
          have hq : (quot s.data.toList).length ≤ 2 * s.size + 2 := by
            have := escq_len s.data.toList
            simp [quot] at this ⊢; omega
          have HE : Hid (91 :: render (arrToks p q true (dat (ss.take (k + 1)))) = (91 :: render (arrToks p q true (dat (ss.take k)))) ++ render (itemToks p q (decide (k = 0)) s.data.toList)) := by
            show _ = _
            have e1 : dat (ss.take (k + 1)) = (dat ss).take (k + 1) := by simp [dat]
            have e2 : dat (ss.take k) = (dat ss).take k := by simp [dat]
            rw [e1, e2, arrToks_snoc p q (dat ss) k s.data.toList (by simp [dat, hs]), render_append]
            rfl
          have hm1 : (91 :: render (arrToks p q true (dat (ss.take k)))).length ≤ 8388608 := by simp; omega
          have hsz : s.size ≤ 1048576 := by omega
          generalize 91 :: render (arrToks p q true (dat (ss.take k))) = m at *
          clear ht1 ht2 ht3 hc3 hl hs HSS HA0 HA2 HBW HX HC HC0 HC2
          obtain ⟨fst, hfst, hdk⟩ : ∃ fst : Bool, decide (k = 0) = fst ∧ ((fst = true ∧ k ≤ 0) ∨ (fst = false ∧ 0 < k)) := by
            by_cases h : k = 0
            · exact ⟨true, by simp [h], .inl ⟨rfl, by omega⟩⟩
            · exact ⟨false, by simp [h], .inr ⟨rfl, by omega⟩⟩
          rw [hfst] at HE
          clear hfst
          rcases hdk with ⟨rfl, hk0⟩ | ⟨rfl, hk0⟩
          all_goals (cases p <;> cases q)
          all_goals
            go_wp2_with (first
              | (go_at_call 14; refine (quote_any w3.heap.size w3 _ _ _ s (by assumption) (by assumption) (Nat.le_refl _) (by simp; omega)).mono ?_; rintro e w6 ⟨v6, rfl, hbuf6, hbel6⟩; have hcs := (hbel6.cell (p := ⟨g, k, none⟩) hg).trans HC3.out)
              | (at_builtin; refine app_lit (.tmp 82) (.tmp 83) [44] rfl rfl rfl rfl rfl (by assumption) (by assumption) (Nat.le_refl _) (by simp; omega) ?_; intro v6 w6 hbuf6 hbel6; have hcs := (hbel6.cell (p := ⟨g, k, none⟩) hg).trans HC3.out)
              | (at_builtin; refine app_lit (.tmp 86) (.tmp 87) [32, 10] rfl rfl rfl rfl rfl (by assumption) (by assumption) (Nat.le_refl _) (by simp; omega) ?_; intro v6 w6 hbuf6 hbel6; have hcs := (hbel6.cell (p := ⟨g, k, none⟩) hg).trans HC3.out)
              | (at_builtin; refine app_lit (.tmp 90) (.tmp 91) [91] rfl rfl rfl rfl rfl (by assumption) (by assumption) (Nat.le_refl _) (by simp; omega) ?_; intro v6 w6 hbuf6 hbel6; have hcs := (hbel6.cell (p := ⟨g, k, none⟩) hg).trans HC3.out)
              | (at_builtin; refine app_lit (.tmp 99) (.tmp 100) [44] rfl rfl rfl rfl rfl (by assumption) (by assumption) (Nat.le_refl _) (by simp; omega) ?_; intro v6 w6 hbuf6 hbel6; have hcs := (hbel6.cell (p := ⟨g, k, none⟩) hg).trans HC3.out)
              | (at_builtin; refine app_lit (.tmp 103) (.tmp 104) [9] rfl rfl rfl rfl rfl (by assumption) (by assumption) (Nat.le_refl _) (by simp; omega) ?_; intro v6 w6 hbuf6 hbel6; have hcs := (hbel6.cell (p := ⟨g, k, none⟩) hg).trans HC3.out)
              | (at_builtin; refine app_lit (.tmp 106) (.tmp 107) [123] rfl rfl rfl rfl rfl (by assumption) (by assumption) (Nat.le_refl _) (by simp; omega) ?_; intro v6 w6 hbuf6 hbel6; have hcs := (hbel6.cell (p := ⟨g, k, none⟩) hg).trans HC3.out)
              | (at_builtin; refine app_lit (.tmp 115) (.tmp 116) [58, 91, 93, 125, 93] rfl rfl rfl rfl rfl (by assumption) (by assumption) (Nat.le_refl _) (by simp; omega) ?_; intro v6 w6 hbuf6 hbel6; have hcs := (hbel6.cell (p := ⟨g, k, none⟩) hg).trans HC3.out)
              | (at_builtin; refine app_lit (.tmp 125) (.tmp 126) [13, 32] rfl rfl rfl rfl rfl (by assumption) (by assumption) (Nat.le_refl _) (by simp; omega) ?_; intro v6 w6 hbuf6 hbel6; have hcs := (hbel6.cell (p := ⟨g, k, none⟩) hg).trans HC3.out))
            go_roundw
            case rel => exact ⟨k + 1, by omega, by go_num, own_cast (by assumption) (by rw [HE.out]; simp [itemToks, elemToks, render, bytes1]), by assumption⟩
            case measure => simp [intOf]; omega
        · have hkn : k = n := by omega
          subst k
          have e1 : ss.take n = ss := List.take_of_length_le (by rw [HX.out]; exact Nat.le_refl _)
          rw [e1] at hbuf
          have ht2 := arr_len p q true ss
          have ht3 := HX.out
          have hsl : ss.length ≤ n := by omega
          have hm1 : (91 :: render (arrToks p q true (dat ss))).length ≤ 8388608 := by simp; omega
          have HA : Hid (arr p q (dat ss) = (91 :: render (arrToks p q true (dat ss))) ++ ((if q then [32] else []) ++ [93])) := arr_form p q (dat ss)
          obtain ⟨A, hA⟩ : ∃ A, A = arr p q (dat ss) := ⟨_, rfl⟩
          rw [← hA] at HA
          have HF : Hid (l0 ++ A ++ l2 = (l0 ++ [91]) ++ (render (inner p q (dat ss)) ++ 93 :: l2)) := by
            show _ = _
            rw [hA]; simp [arr]
          obtain ⟨M, hM⟩ : ∃ M, (render (inner p q (dat ss))).length + 1 = M := ⟨_, rfl⟩
          have hAM1 : A.length ≤ M + 1 := by rw [hA]; simp [arr]; omega
          have hAM2 : M + 1 ≤ A.length := by rw [hA]; simp [arr]; omega
          have HM : Hid ((render (inner p q (dat ss))).length + 1 = M) := hM
          generalize 91 :: render (arrToks p q true (dat ss)) = m at *
          have hA3 : A.length ≤ m.length + 2 := by rw [HA.out]; cases q <;> simp
          clear e1 ht2 ht3 hsl HSS hA hM hk hlt HC
          obtain ⟨i0, hi, hz0, hz1, hz2⟩ := info_parts infoByte
          have hn0 : l0.length ≤ n0 := by rw [← bcells_length, HC0.out.1]; exact Nat.le_refl _
          have hn0' : n0 ≤ l0.length := by rw [← bcells_length l0, HC0.out.1]; exact Nat.le_refl _
          have hn2 : l2.length ≤ n2 := by rw [← bcells_length, HC2.out.1]; exact Nat.le_refl _
          cases q
          all_goals
            go_wp2_with (first
              | (at_builtin; refine app_lit (.tmp 129) (.tmp 130) [32] rfl rfl rfl rfl rfl hbuf hbel (Nat.le_refl _) (by simp; omega) ?_; intro v6 w6 hbuf6 hbel6)
              | (at_builtin; refine app_lit (.tmp 132) (.tmp 133) [93] rfl rfl rfl rfl rfl (by assumption) (by assumption) (Nat.le_refl _) (by simp; omega) ?_; intro v7 w7 hbuf7' hbel7; have hbuf7 := own_cast (l' := A) hbuf7' (by rw [HA.out]; simp); obtain ⟨x7, d7, hv7, -⟩ := hbuf7.view; rw [bcells_length] at hv7; subst hv7; have HP7 := HA0.out.below (Nat.le_refl _) hbel7; have HT7 := HA2.out.below (Nat.le_refl _) hbel7)
              | (at_make; refine wpList_make_own _ rfl _ _ 22 rfl w7.heap.size 5 i0 (.int .u8 0) 1 Try.underlying22 hi hz0 hz1 .i64 .i64 8 8 rfl rfl (by omega) (by rw [hz2]; omega) (by unfold maxLen; omega) (Nat.le_refl _) ?_; intro w8 hown8 hgrow8; have ho8 : Own w7.heap.size 5 w8 (.slice (some ⟨w7.heap.size, 0, none⟩) 0 8) (bcells []) := hown8; have hb8 : Below w7.heap.size w7 w8 := (Below.refl _ _).grown hgrow8 (Nat.le_refl _) (by intro k hk; cases hk); clear hown8 hgrow8)
              | (at_builtin; refine app_own (.tmp 136) (.tmp 137) rfl rfl rfl rfl (HP7.below (Nat.le_refl _) hb8) ho8 hb8 (Nat.le_refl _) (by simp; omega) ?_; intro v9 w9 ho9 hb9)
              | (at_builtin; refine app_own (.tmp 139) (.tmp 140) rfl rfl rfl rfl (hbuf7.below (Nat.le_refl _) hb9) ho9 hb9 (Nat.le_refl _) (by simp; omega) ?_; intro v10 w10 ho10 hb10)
              | (at_builtin; refine app_own (.tmp 142) (.tmp 143) rfl rfl rfl rfl (HT7.below (Nat.le_refl _) hb10) ho10 hb10 (Nat.le_refl _) (by simp; omega) ?_; intro v11 w11 ho11 hb11))
            refine (call_line ho11 HF.out (by omega) (by simp; omega) (inner_fine _ _ _).1 (inner_fine _ _ _).2.1 (n := n) (by rw [(inner_fine _ _ _).2.2]; simpa [dat] using HX.out) HM.out).mono ?_
            rintro e w12 ⟨rfl, hb12⟩
            have HZ : Hid (Below w.heap.size w w12) := by
              have z1 := HBW.out.size
              have z2 := hbel7.size
              have z3 := hb11.size
              exact ((HBW.out.trans (hbel7.mono z1)).trans (hb11.mono (by omega))).trans (hb12.mono (by omega))
            clear ho8 ho9 ho10 ho11 HP7 HT7 hbuf7 hbuf7' hb8 hb9 hb10 hb11 hb12 hbel7 HA0 HA2 HBW hbuf hbel
            have hfin : ((M : Int) == (A.length : Int) - 1) = true := by simp; omega
            go_wp2
            go_ret
            exact ⟨rfl, HZ.out⟩

end Go.Proofs.Qxb6600387a
