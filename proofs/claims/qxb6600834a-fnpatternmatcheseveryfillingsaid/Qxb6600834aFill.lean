/-
  THE WALK OF FnPatternMatchesEveryFilling.
-/
import Derived.Test.Qxb6600834aParts
set_option linter.unusedVariables false
namespace Go.Proofs.Qxb6600834a
open Go.RowKit Plain

theorem own_cast {B : Nat} {e : TypeId} {w : World} {v : Value} {l l' : List UInt8} (h : Own B e w v (bcells l)) (hl : l' = l) : Own B e w v (bcells l') := by rw [hl]; exact h

set_option maxHeartbeats 16000000 in
set_option maxRecDepth 1000000 in
theorem fill_in (ao a2 : Option Addr) (n cap n2 cap2 : Nat) (ss gs : List ByteArray) (w : World) (mx : Int)
    (h : Src w ao n cap (scells ss)) (h2 : Src w a2 n2 cap2 (scells gs)) (hn : n ≤ maxLen) (hn2 : n2 ≤ maxLen) (hss : ∀ s ∈ ss, s.size ≤ maxLen) (hgs : ∀ s ∈ gs, s.size ≤ maxLen) (hmx : w.cell? ⟨0, 0, none⟩ = some (.int .i64 mx)) :
    Calls Try.prog 6 #[.slice ao n cap, .slice a2 n2 cap2] w fun e w' => e = .returned (.bool true) ∧ Below w.heap.size w w' := by
  have hsum := zzBytes15 ao a2 n cap n2 cap2 ss gs w h h2 hn hn2 hss hgs
  have hsl : ss.length = n := by rw [← scells_length]; exact h.1
  have hgl : gs.length = n2 := by rw [← scells_length]; exact h2.1
  unfold maxLen at hn hn2
  have HX : Hid (ss.length = n) := hsl
  have HX2 : Hid (gs.length = n2) := hgl
  have HC : Hid (Src w ao n cap (scells ss)) := h
  have HC2 : Hid (Src w a2 n2 cap2 (scells gs)) := h2
  have HMX : Hid (w.cell? ⟨0, 0, none⟩ = some (.int .i64 mx)) := hmx
  clear h h2 hss hgs hsl hgl hmx
  go_enter Try.func6, Try.ntmps6
  go_wp2_with (go_at_call 15; refine hsum.mono ?_; rintro e w1 ⟨b, rfl, hw, hb⟩; subst w1; cases b)
  all_goals clear hsum
  all_goals first | (go_ret; exact ⟨rfl, Below.refl _ _⟩) | skip
  have HB : Hid (∀ s ∈ ss ++ gs, s.size ≤ 1048576) := hb trivial
  clear hb
  go_loop [5, 6] (fun z i => ∃ k : Nat, k ≤ n ∧ 16 * k + tot (ss.take k) ≤ 1048576 ∧ i = .int .i64 k ∧ z = .int .i64 (16 * k + tot (ss.take k) : Nat)) (fun _ i => n - (intOf i).toNat)
  case atStart => exact ⟨0, Nat.zero_le _, by simp [tot], rfl, by simp [tot]⟩
  case round =>
    obtain ⟨k, hk, hm, rfl, rfl⟩ := hrel
    by_cases hlt : k < n
    · have hl := HX.out
      obtain ⟨s, hs⟩ : ∃ s, ss[k]? = some s := ⟨ss[k]'(by omega), by simp⟩
      have hsm : s.size ≤ 1048576 := HB.out s (List.mem_append_left _ (List.mem_of_getElem? hs))
      have hu : (scells ss)[k]? = some (.string s) := by rw [scells_at, hs]; rfl
      have HT : Hid (tot (ss.take (k + 1)) = tot (ss.take k) + s.size) := tot_snoc ss k s hs
      generalize tot (ss.take k) = m at *
      obtain ⟨_, _, ⟨rfl, rfl⟩ | ⟨x, rfl, h0 | ⟨b, off, rfl, hcells⟩⟩⟩ := HC.out
      · omega
      · rw [h0] at hu; simp at hu
      have hrd := hcells k _ hu
      clear hcells hu hs hl
      go_wp2
      · go_ret
        exact ⟨rfl, Below.refl _ _⟩
      · go_round
        case rel => exact ⟨k + 1, by omega, by rw [HT.out]; omega, by go_num, by rw [HT.out]; go_num⟩
        case measure => simp [intOf]; omega
    · have hkn : k = n := by omega
      subst k
      have e1 : ss.take n = ss := List.take_of_length_le (by rw [HX.out]; exact Nat.le_refl _)
      rw [e1] at hm ⊢
      clear e1 hlt hk
      go_wp2
      go_loop [5, 7] (fun z i => ∃ k : Nat, k ≤ n2 ∧ 16 * n + tot ss + (16 * k + tot (gs.take k)) ≤ 1048576 ∧ i = .int .i64 k ∧ z = .int .i64 (16 * n + tot ss + (16 * k + tot (gs.take k)) : Nat)) (fun _ i => n2 - (intOf i).toNat)
      case atStart => exact ⟨0, Nat.zero_le _, by simp [tot] at hm ⊢; omega, rfl, by simp [tot]⟩
      case round =>
        obtain ⟨k, hk, hm2, rfl, rfl⟩ := hrel
        by_cases hlt : k < n2
        · have hl := HX2.out
          obtain ⟨s, hs⟩ : ∃ s, gs[k]? = some s := ⟨gs[k]'(by omega), by simp⟩
          have hsm : s.size ≤ 1048576 := HB.out s (List.mem_append_right _ (List.mem_of_getElem? hs))
          have hu : (scells gs)[k]? = some (.string s) := by rw [scells_at, hs]; rfl
          have HT : Hid (tot (gs.take (k + 1)) = tot (gs.take k) + s.size) := tot_snoc gs k s hs
          generalize tot (gs.take k) = m at *
          obtain ⟨_, _, ⟨rfl, rfl⟩ | ⟨x, rfl, h0 | ⟨b, off, rfl, hcells⟩⟩⟩ := HC2.out
          · omega
          · rw [h0] at hu; simp at hu
          have hrd := hcells k _ hu
          clear hcells hu hs hl
          go_wp2
          · go_ret
            exact ⟨rfl, Below.refl _ _⟩
          · go_round
            case rel => exact ⟨k + 1, by omega, by rw [HT.out]; omega, by go_num, by rw [HT.out]; go_num⟩
            case measure => simp [intOf]; omega
        · have hkn : k = n2 := by omega
          subst k
          have e1 : gs.take n2 = gs := List.take_of_length_le (by rw [HX2.out]; exact Nat.le_refl _)
          rw [e1] at hm2 ⊢
          clear e1 hlt hk hm HB
          by_cases hn0 : n ≤ 0
          · go_wp2
            go_ret
            exact ⟨rfl, Below.refl _ _⟩
          · have hpos : 0 < n := by omega
            clear hn0
            obtain ⟨i0, hi, hz0, hz1, hz2⟩ := info_parts infoByte
            go_wp2_with (first
              | (go_at_call 9; refine (clone_any a2 n2 cap2 gs w1 hs2 (by omega)).mono ?_; rintro e w2 ⟨v1, rfl, ho1, hb1⟩; obtain ⟨x1, d1, hv1, hc1⟩ := ho1.view; rw [HC2.out.1] at hv1; subst hv1)
              | (go_at_call 9; refine (clone_any ao n cap ss w HC.out (by omega)).mono ?_; rintro e w1 ⟨v0, rfl, ho0, hb0⟩; obtain ⟨x0, d0, hv0, hc0⟩ := ho0.view; rw [HC.out.1] at hv0; subst hv0; have hs2 := HC2.out.below hb0)
              | (at_make; refine wpList_make_own _ rfl _ _ 30 rfl w2.heap.size 5 i0 (.int .u8 0) 1 Try.underlying30 hi hz0 hz1 .i64 .i64 _ (16 * n + tot ss + (16 * n2 + tot gs)) rfl rfl (by omega) (by rw [hz2]; omega) (by unfold maxLen; omega) (Nat.le_refl _) ?_; intro w3 hown3 hgrow3; have ho3 : Own w2.heap.size 5 w3 (.slice (some ⟨w2.heap.size, 0, none⟩) 0 (16 * n + tot ss + (16 * n2 + tot gs))) (bcells []) := hown3; have hb3 : Below w2.heap.size w2 w3 := (Below.refl _ _).grown hgrow3 (Nat.le_refl _) (by intro k hk; cases hk); clear hown3 hgrow3))
            -- what lies in w2, and stays
            have hbW : Below w.heap.size w w2 := hb0.trans (hb1.mono hb0.size)
            have hsn : ss ≠ [] := by intro e; have := HX.out; rw [e] at this; simp at this; omega
            obtain ⟨g0, hx0, hg0, hd0, hcells0⟩ : ∃ g, x0 = some ⟨g, 0, none⟩ ∧ g < w1.heap.size ∧ (scells ss).length ≤ d0 ∧ ∀ (i : Nat) (u : Value), (scells ss)[i]? = some u → w1.cell? ⟨g, i, none⟩ = some u := by
              rcases hc0 with h0 | h0
              · exact absurd (by simpa [scells] using h0) hsn
              · exact h0
            subst hx0
            have HS0 : Hid (SRow w2 g0 ss) := by
              intro i s hs
              rw [hb1.cell (p := ⟨g0, i, none⟩) hg0]
              exact hcells0 i _ (by rw [scells_at, hs]; rfl)
            have hg0' : g0 < w2.heap.size := Nat.lt_of_lt_of_le hg0 hb1.size
            have hd0' : n ≤ d0 := by rw [HC.out.1] at hd0; exact hd0
            have HS1 : Hid (∀ k s, gs[k]? = some s → ∃ g, x1 = some ⟨g, 0, none⟩ ∧ g < w2.heap.size ∧ n2 ≤ d1 ∧ w2.cell? ⟨g, k, none⟩ = some (.string s)) := by
              intro k s hs
              have hu : (scells gs)[k]? = some (.string s) := by rw [scells_at, hs]; rfl
              rcases hc1 with hc1 | ⟨g, hx, hg, hd, hcells⟩
              · rw [hc1] at hu; simp at hu
              · exact ⟨g, hx, hg, by rw [HC2.out.1] at hd; exact hd, hcells k _ hu⟩
            have HBW : Hid (Below w.heap.size w w2) := hbW
            have HSN : Hid (ss ≠ []) := hsn
            clear hc0 ho0 hs2 hb1 hc1 ho1 hbW hcells0 hd0 hg0 hi hz0 hz1 hz2 hsn
            go_loopw [8, 9] (fun vb i wr => ∃ k : Nat, k ≤ n ∧ i = .int .i64 k ∧ (bufT (gap n gs) (dat (ss.take k))).length ≤ tot (ss.take k) + tot (gs.take k) ∧ Own w2.heap.size 5 wr vb (bcells (bufT (gap n gs) (dat (ss.take k)))) ∧ Below w2.heap.size w2 wr)
              (fun _ i _ => n - (intOf i).toNat)
            case atStart => exact ⟨0, Nat.zero_le _, rfl, by simp [dat, bufT], ho3, hb3⟩
            case round =>
              clear ho3 hb3
              obtain ⟨k, hk, rfl, hbl, hbuf, hbel⟩ := hrel
              by_cases hlt : k < n
              · have hl := HX.out
                have hl2 := HX2.out
                obtain ⟨s, hs⟩ : ∃ s, ss[k]? = some s := ⟨ss[k]'(by omega), by simp⟩
                have hcs : wr.cell? ⟨g0, k, none⟩ = some (.string s) := (hbel.cell (p := ⟨g0, k, none⟩) hg0').trans (HS0.out k s hs)
                have ht1 := tot_mem ss k s hs
                have HT : Hid (tot (ss.take (k + 1)) = tot (ss.take k) + s.size) := tot_snoc ss k s hs
                have ht2 := tot_take gs k
                have HE0 : bufT (gap n gs) (dat (ss.take (k + 1))) = bufT (gap n gs) (dat (ss.take k)) ++ (s.data.toList ++ gap n gs k) := by
                  have e1 : dat (ss.take (k + 1)) = (dat ss).take (k + 1) := by simp [dat]
                  have e2 : dat (ss.take k) = (dat ss).take k := by simp [dat]
                  rw [e1, e2, bufT_snoc (gap n gs) (dat ss) k s.data.toList (by simp [dat, hs])]
                clear hs
                by_cases hA : k + 1 < n ∧ k < n2
                · obtain ⟨hA1, hA2⟩ := hA
                  obtain ⟨u, hu⟩ : ∃ u, gs[k]? = some u := ⟨gs[k]'(by omega), by simp⟩
                  obtain ⟨g1, rfl, hg1, hd1, hc3⟩ := HS1.out k u hu
                  have HC3 : Hid (w2.cell? ⟨g1, k, none⟩ = some (.string u)) := hc3
                  have ht3 := tot_mem gs k u hu
                  have HT2 : Hid (tot (gs.take (k + 1)) = tot (gs.take k) + u.size) := tot_snoc gs k u hu
                  have HE : Hid (bufT (gap n gs) (dat (ss.take (k + 1))) = bufT (gap n gs) (dat (ss.take k)) ++ (s.data.toList ++ u.data.toList)) := by rw [gap_yes hA1 hu] at HE0; exact HE0
                  generalize bufT (gap n gs) (dat (ss.take k)) = b0 at *
                  clear HE0 hl hl2 hc3 hu HS0 HS1 HC HC2 HBW HMX HSN
                  go_wp2_with (first
                    | (at_builtin; refine app_str (.tmp 69) (.tmp 73) rfl rfl rfl rfl hbuf hbel (Nat.le_refl _) (by omega) ?_; intro v4 w4 ho4 hb4; have hcu := (hb4.cell (p := ⟨g1, k, none⟩) hg1).trans HC3.out; clear hbuf hbel)
                    | (at_builtin; refine app_str (.tmp 86) (.tmp 90) rfl rfl rfl rfl ho4 hb4 (Nat.le_refl _) (by simp; omega) ?_; intro v5 w5 ho5 hb5; clear ho4 hb4))
                  go_roundw
                  case rel => exact ⟨k + 1, by omega, by go_num, by rw [HE.out]; have := HT.out; have := HT2.out; simp; omega, own_cast ho5 (by rw [HE.out]; simp), hb5⟩
                  case measure => simp [intOf]; omega
                · have HE : Hid (bufT (gap n gs) (dat (ss.take (k + 1))) = bufT (gap n gs) (dat (ss.take k)) ++ s.data.toList) := by
                    have e : gap n gs k = [] := by
                      by_cases h1 : k + 1 < n
                      · exact gap_no2 (by omega)
                      · exact gap_no1 h1
                    rw [e, List.append_nil] at HE0
                    exact HE0
                  have HT2 : Hid (tot (gs.take k) ≤ tot (gs.take (k + 1))) := by
                    have := tot_take (gs.take (k + 1)) k
                    rw [List.take_take, Nat.min_eq_left (by omega)] at this
                    exact this
                  have hA' : n ≤ k + 1 ∨ (k + 1 < n ∧ n2 ≤ k) := by omega
                  generalize bufT (gap n gs) (dat (ss.take k)) = b0 at *
                  clear HE0 hl hl2 HS0 HS1 HC HC2 HBW HMX HSN hA
                  rcases hA' with hA' | ⟨hA', hA2'⟩
                  all_goals
                    go_wp2_with (at_builtin; refine app_str (.tmp 69) (.tmp 73) rfl rfl rfl rfl hbuf hbel (Nat.le_refl _) (by omega) ?_; intro v4 w4 ho4 hb4)
                    clear hbuf hbel
                    go_roundw
                    case rel => exact ⟨k + 1, by omega, by go_num, by rw [HE.out]; have := HT.out; have := HT2.out; simp; omega, own_cast ho4 (by rw [HE.out]), hb4⟩
                    case measure => simp [intOf]; omega
              · have hkn : k = n := by omega
                subst k
                have e1 : ss.take n = ss := List.take_of_length_le (by rw [HX.out]; exact Nat.le_refl _)
                rw [e1] at hbl hbuf
                have ht2 := tot_take gs n
                have hfill : matchesP (dat ss) (bufT (gap n gs) (dat ss)) = true := by
                  rw [matches_iff]
                  refine bufT_fill _ _ (by intro e; exact HSN.out (by simpa [dat] using e)) (gap_no1 ?_)
                  have := HX.out
                  simp [dat]; omega
                generalize bufT (gap n gs) (dat ss) = b0 at *
                have hcv := Own.str (P := Try.prog) hbuf Try.underlying30 Try.underlying5 Try.underlying9
                have hbz : (⟨b0.toArray⟩ : ByteArray).size = b0.length := by simp [ByteArray.size]
                have z1 := HBW.out.size
                have hmx : wr.cell? ⟨0, 0, none⟩ = some (.int .i64 mx) := by
                  rw [hbel.cell (p := ⟨0, 0, none⟩) (Nat.lt_of_lt_of_le (block_lt HMX.out) z1), HBW.out.cell (p := ⟨0, 0, none⟩) (block_lt HMX.out)]
                  exact HMX.out
                have hcall := zzmatches g0 d0 mx ss ⟨b0.toArray⟩ wr (fun i s hs => by rw [hbel.cell (p := ⟨g0, i, none⟩) hg0']; exact HS0.out i s hs) HSN.out (by rw [HX.out]; exact hd0') hmx (by rw [hbz]; omega)
                  (fun s hs => by obtain ⟨i, hi, rfl⟩ := List.getElem_of_mem hs; have := tot_mem ss i ss[i] (by simp [hi]); omega) (by rw [HX.out]; omega) true hfill n HX.out
                have HZ : Hid (Below w.heap.size w wr.drew) := (HBW.out.trans (hbel.mono z1)).drew
                clear e1 hlt hk hfill hbz hmx HS0 HS1 HBW HMX HSN hbuf hbel HC HC2 HX HX2 z1
                go_wp2_with (go_at_call 14; refine hcall.mono ?_; rintro e w5 ⟨rfl, hw⟩; subst w5)
                go_ret
                exact ⟨rfl, HZ.out⟩

end Go.Proofs.Qxb6600834a
