/-
  THE WALK OF FnPatternMatchesAgreesWithPlacementModel.
-/
import Derived.Test.Qxb6600834aPlace
set_option linter.unusedVariables false
namespace Go.Proofs.Qxb6600834a
open Go.RowKit Plain

theorem start_at (L e : Nat) : ((List.replicate (L + 1) false).set 0 true).getD e false = true ↔ e = 0 := by
  rw [getD_set _ _ _ _ (by simp)]
  by_cases h : e = 0
  · simp [h]
  · rw [if_neg h]
    have : (List.replicate (L + 1) false).getD e false = false := by
      simp only [List.getD, List.getElem?_replicate]
      split <;> rfl
    rw [this]
    simp [h]

theorem made_two {N : Nat} {w1 w2 w3 : World} (h2 : w2.ownsRow w1.heap.size 4 1 (.slice (some ⟨w1.heap.size, 0, none⟩) N N) N (madeCells (Value.bool false).cells (N * 1)).toList) (hg2 : w1.grownBy w2 none)
    (h3 : w3.ownsRow w1.heap.size 4 1 (.slice (some ⟨w2.heap.size, 0, none⟩) N N) N (madeCells (Value.bool false).cells (N * 1)).toList) (hg3 : w2.grownBy w3 none) :
    Bools w1.heap.size w3 w1.heap.size N (List.replicate N false) ∧ Bools w1.heap.size w3 w2.heap.size N (List.replicate N false) ∧ w1.heap.size ≠ w2.heap.size ∧ Below w1.heap.size w1 w3 := by
  have e : (madeCells (Value.bool false).cells (N * 1)).toList = (List.replicate N false).map Value.bool := by
    rw [Nat.mul_one, List.map_replicate]; exact toList_madeCells_one _ _
  rw [e] at h2 h3
  have hlt := (World.ownsRow.lt h2 w1.heap.size rfl).2
  refine ⟨World.ownsRow.kept (row := none) h2 hg3 (.inr (by simp [Value.ownBlock])), h3, by omega, ?_⟩
  exact ((Below.refl _ _).grown hg2 (Nat.le_refl _) (by intro k hk; cases hk)).grown hg3 (by omega) (by intro k hk; cases hk)

theorem g_skip {first : Bool} {t p : Txt} {cu : List Bool} {L q : Nat} {nx : List Bool} {op fst c no : Bool} (h : Gath first t p cu L q nx op) (hf : first = fst) (hc : cu.getD q false = c) (hn : nop fst c op = no)
    (hno : no = false ∨ L < q + p.length ∨ occB t p q = false) : Gath first t p cu L (q + 1) nx no := by
  subst hf hc hn
  exact h.skip hno
theorem g_take {first : Bool} {t p : Txt} {cu : List Bool} {L q : Nat} {nx : List Bool} {op fst c : Bool} (h : Gath first t p cu L q nx op) (hf : first = fst) (hc : cu.getD q false = c) (hn : nop fst c op = true)
    (h2 : q + p.length ≤ L) (h3 : occB t p q = true) (hl : nx.length = L + 1) : Gath first t p cu L (q + 1) (nx.set (q + p.length) true) true := by
  subst hf hc
  have := h.take hn h2 h3 hl
  rw [hn] at this
  exact this

set_option maxHeartbeats 16000000 in
set_option maxRecDepth 1000000 in
theorem place_in (ao : Option Addr) (n cap : Nat) (ss : List ByteArray) (text : ByteArray) (w : World) (mx : Int)
    (h : Src w ao n cap (scells ss)) (hn : n ≤ maxLen) (htm : text.size ≤ maxLen) (hss : ∀ s ∈ ss, s.size ≤ maxLen) (hmx : w.cell? ⟨0, 0, none⟩ = some (.int .i64 mx)) :
    Calls Try.prog 5 #[.slice ao n cap, .string text] w fun e w' => e = .returned (.bool true) ∧ Below w.heap.size w w' := by
  have hsum := zzBytes12 ao n cap ss text w h hn htm hss
  have hsl : ss.length = n := by rw [← scells_length]; exact h.1
  unfold maxLen at hn htm
  have HX : Hid (ss.length = n) := hsl
  have HC : Hid (Src w ao n cap (scells ss)) := h
  have HMX : Hid (w.cell? ⟨0, 0, none⟩ = some (.int .i64 mx)) := hmx
  clear h hss hsl hmx
  go_enter Try.func5, Try.ntmps5
  go_wp2_with (go_at_call 12; refine hsum.mono ?_; rintro e w1 ⟨b, rfl, hw, hb⟩; subst w1; cases b)
  all_goals clear hsum
  all_goals first | (go_ret; exact ⟨rfl, Below.refl _ _⟩) | skip
  have HB : Hid (∀ s ∈ ss, s.size ≤ 1048576) := hb trivial
  clear hb
  go_loop [5, 6] (fun z i => ∃ k : Nat, k ≤ n ∧ tot (ss.take k) ≤ 4096 ∧ i = .int .i64 k ∧ z = .int .i64 (tot (ss.take k) : Nat)) (fun _ i => n - (intOf i).toNat)
  case atStart => exact ⟨0, Nat.zero_le _, by simp [tot], rfl, by simp [tot]⟩
  case round =>
    obtain ⟨k, hk, hm, rfl, rfl⟩ := hrel
    by_cases hlt : k < n
    · have hl := HX.out
      obtain ⟨s, hs⟩ : ∃ s, ss[k]? = some s := ⟨ss[k]'(by omega), by simp⟩
      have hsm : s.size ≤ 1048576 := HB.out s (List.mem_of_getElem? hs)
      have hu : (scells ss)[k]? = some (.string s) := by rw [scells_at, hs]; rfl
      have HT : Hid (tot (ss.take (k + 1)) = tot (ss.take k) + s.size) := tot_snoc ss k s hs
      generalize tot (ss.take k) = m at *
      obtain ⟨_, _, ⟨rfl, rfl⟩ | ⟨x, rfl, h0 | ⟨b, off, rfl, hcells⟩⟩⟩ := HC.out
      · omega
      · rw [h0] at hu; simp at hu
      have hrd := hcells k _ hu
      clear hcells hu hs hl
      go_wp2
      · go_ret
        exact ⟨rfl, Below.refl _ _⟩
      · go_round
        case rel => exact ⟨k + 1, by omega, by rw [HT.out]; omega, by go_num, by rw [HT.out]; go_num⟩
        case measure => simp [intOf]; omega
    · have hkn : k = n := by omega
      subst k
      have e1 : ss.take n = ss := List.take_of_length_le (by rw [HX.out]; exact Nat.le_refl _)
      rw [e1] at hm ⊢
      clear e1 hlt hk HB
      by_cases hn0 : n ≤ 0
      · go_wp2
        go_ret
        exact ⟨rfl, Below.refl _ _⟩
      · have hpos : 0 < n := by omega
        clear hn0
        obtain ⟨i0, hi, hz0, hz1, hz2⟩ := info_parts infoBool
        go_wp2_with (first
          | (go_at_call 9; refine (clone_any ao n cap ss w HC.out (by omega)).mono ?_; rintro e w1 ⟨v0, rfl, ho0, hb0⟩; obtain ⟨x0, d0, hv0, hc0⟩ := ho0.view; rw [HC.out.1] at hv0; subst hv0)
          | (at_make; refine wpList_make_full _ rfl (.tmp 54) (.tmp 54) 27 rfl w1.heap.size 4 i0 (.bool false) 1 Try.underlying27 hi hz0 hz1 .i64 .i64 _ _ (text.size + 1) rfl rfl (by omega) (by omega) (by rw [hz2]; omega) (by unfold maxLen; omega) (by have := hg2.size; omega) ?_; intro w3 hown3 hg3; obtain ⟨hC, hD, hne, hb3⟩ := made_two hown2 hg2 hown3 hg3; have c0 := hC.cell 0 (by omega); have f0 := hC.frozen 0; clear hown2 hg2 hown3 hg3)
          | (at_make; refine wpList_make_full _ rfl (.tmp 51) (.tmp 51) 27 rfl w1.heap.size 4 i0 (.bool false) 1 Try.underlying27 hi hz0 hz1 .i64 .i64 _ _ (text.size + 1) rfl rfl (by omega) (by omega) (by rw [hz2]; omega) (by unfold maxLen; omega) (Nat.le_refl _) ?_; intro w2 hown2 hg2))
        have hsn : ss ≠ [] := by intro e; have := HX.out; rw [e] at this; simp at this; omega
        obtain ⟨g0, hx0, hg0, hd0, hcells0⟩ : ∃ g, x0 = some ⟨g, 0, none⟩ ∧ g < w1.heap.size ∧ (scells ss).length ≤ d0 ∧ ∀ (i : Nat) (u : Value), (scells ss)[i]? = some u → w1.cell? ⟨g, i, none⟩ = some u := by
          rcases hc0 with h0 | h0
          · exact absurd (by simpa [scells] using h0) hsn
          · exact h0
        subst hx0
        have HS0 : Hid (SRow w1 g0 ss) := by
          intro i s hs
          exact hcells0 i _ (by rw [scells_at, hs]; rfl)
        have hd0' : n ≤ d0 := by rw [HC.out.1] at hd0; exact hd0
        have HBW : Hid (Below w.heap.size w w1) := hb0
        have HSN : Hid (ss ≠ []) := hsn
        have hst := hC.store 0 true
        have hDt := hD.other hC hne.symm 0 (.bool true)
        have hbt : Below w1.heap.size w1 (w3.setCell ⟨w1.heap.size, 0, none⟩ (.bool true)) := hb3.setCell (p := ⟨w1.heap.size, 0, none⟩) (Nat.le_refl _) _
        have HR0 : Hid (∀ e, e ≤ text.size → (((List.replicate (text.size + 1) false).set 0 true).getD e false = true ↔ reach text.data.toList (dat ss) 0 e)) := by
          intro e he
          exact start_at text.size e
        clear hc0 ho0 hb0 hcells0 hd0 hi hz0 hz1 hz2 hsn c0 f0 hC hD hb3
        generalize hCg : w1.heap.size = C at *
        generalize hDg : w2.heap.size = D at *
        have HCg : Hid (w1.heap.size = C) := hCg
        clear hCg hDg
        go_loopw [10, 11, 12, 13, 14, 15] (fun vk _ _ _ _ _ wr => ∃ (k : Nat) (cu nx : List Bool), k ≤ n ∧ vk = .int .i64 k ∧ Bools C wr C (text.size + 1) cu ∧ Bools C wr D (text.size + 1) nx ∧ Below C w1 wr ∧ Hid (∀ e, e ≤ text.size → (cu.getD e false = true ↔ reach text.data.toList (dat ss) k e)))
          (fun vk _ _ _ _ _ _ => n - (intOf vk).toNat)
        case atStart => exact ⟨0, _, _, Nat.zero_le _, rfl, hst, hDt, hbt, HR0⟩
        case round =>
          clear hst hDt hbt HR0
          obtain ⟨k, cu, nx, hk, rfl, hC, hD, hbl, HR⟩ := hrel
          by_cases hlt : k < n
          · have hl := HX.out
            obtain ⟨s, hs⟩ : ∃ s, ss[k]? = some s := ⟨ss[k]'(by omega), by simp⟩
            have hcs : wr.cell? ⟨g0, k, none⟩ = some (.string s) := (hbl.cell (p := ⟨g0, k, none⟩) hg0).trans (HS0.out k s hs)
            have hsz : s.size ≤ 4096 := by have := tot_mem ss k s hs; omega
            have HP : Hid ((dat ss).getD k [] = s.data.toList) := by show _ = _; simp [dat, List.getD, hs]
            clear hs hl
            go_wp2
            clear hcs
            go_loopw [12] (fun vq wr => ∃ (q : Nat) (nx3 : List Bool), q ≤ text.size + 1 ∧ vq = .int .i64 q ∧ Bools C wr C (text.size + 1) cu ∧ Bools C wr D (text.size + 1) nx3 ∧ Below C w1 wr ∧ Hid (∀ j, j < q → nx3.getD j false = false)) (fun vq _ => text.size + 1 - (intOf vq).toNat)
            case atStart => exact ⟨0, nx, Nat.zero_le _, rfl, hC, hD, hbl, by intro j hj; omega⟩
            case round =>
              clear hC hD hbl
              obtain ⟨q, nx3, hq, rfl, hC, hD, hbl, HZ⟩ := hrel
              by_cases hql : q ≤ text.size
              · have cD := hD.cell q (by omega)
                have fD := hD.frozen q
                have hlD := hD.len
                have R1 := hC.other hD hne q (.bool false)
                have R2 := hD.store q false
                have R3 := hbl.setCell (p := ⟨D, q, none⟩) hD.base (.bool false)
                have HZ2 : Hid (∀ j, j < q + 1 → (nx3.set q false).getD j false = false) := by
                  intro j hj
                  rw [getD_set _ _ _ _ (by omega)]
                  split
                  · rfl
                  · exact HZ.out j (by omega)
                clear hC hD hbl hlD HZ
                go_wp2
                go_roundw
                case rel => exact ⟨q + 1, _, by omega, by go_num, R1, R2, R3, HZ2⟩
                case measure => simp [intOf]; omega
              · have HG0 : Hid (Gath (decide (k = 0)) text.data.toList s.data.toList cu text.size 0 nx3 false) := Gath.zero _ _ _ _ _ _ (fun j hj => HZ.out j (by omega))
                clear HZ
                go_wp2
                go_loopw [13, 14] (fun vo vq wr => ∃ (q : Nat) (nx4 : List Bool) (op : Bool), q ≤ text.size + 1 ∧ vq = .int .i64 q ∧ vo = .bool op ∧ Bools C wr C (text.size + 1) cu ∧ Bools C wr D (text.size + 1) nx4 ∧ Below C w1 wr ∧ Hid (Gath (decide (k = 0)) text.data.toList s.data.toList cu text.size q nx4 op)) (fun _ vq _ => text.size + 1 - (intOf vq).toNat)
                case atStart => exact ⟨0, nx3, false, Nat.zero_le _, rfl, rfl, hC, hD, hbl, HG0⟩
                case round =>
                  clear hC hD hbl HG0
                  obtain ⟨q, nx4, op, hq4, rfl, rfl, hC, hD, hbl, HG⟩ := hrel
                  by_cases hql4 : q ≤ text.size
                  · obtain ⟨fst, hfst, hdk⟩ : ∃ fst : Bool, decide (k = 0) = fst ∧ ((fst = true ∧ k ≤ 0) ∨ (fst = false ∧ 0 < k)) := by
                      by_cases h : k = 0
                      · exact ⟨true, by simp [h], .inl ⟨rfl, by omega⟩⟩
                      · exact ⟨false, by simp [h], .inr ⟨rfl, by omega⟩⟩
                    have HF : Hid (decide (k = 0) = fst) := hfst
                    clear hfst HR HP
                    have cC := hC.cell q (by omega)
                    obtain ⟨c, hc⟩ : ∃ c, cu.getD q false = c := ⟨_, rfl⟩
                    rw [hc] at cC
                    rcases hdk with ⟨rfl, hk0⟩ | ⟨rfl, hk0⟩
                    · cases c
                      · have HS : Hid (Gath (decide (k = 0)) text.data.toList s.data.toList cu text.size (q + 1) nx4 false) := g_skip HG.out HF.out hc rfl (.inl rfl)
                        clear HG hc
                        go_wp2
                        go_roundw
                        case rel => exact ⟨q + 1, nx4, _, by omega, by go_num, rfl, hC, hD, hbl, HS⟩
                        case measure => simp [intOf]; omega
                      · by_cases hlong : text.size < q + s.size
                        · have HS : Hid (Gath (decide (k = 0)) text.data.toList s.data.toList cu text.size (q + 1) nx4 true) := g_skip HG.out HF.out hc rfl (.inr (.inl (by simpa using hlong)))
                          clear HG hc
                          go_wp2
                          go_roundw
                          case rel => exact ⟨q + 1, nx4, _, by omega, by go_num, rfl, hC, hD, hbl, HS⟩
                          case measure => simp [intOf]; omega
                        · cases hocc : occB text.data.toList s.data.toList q
                          · have HS : Hid (Gath (decide (k = 0)) text.data.toList s.data.toList cu text.size (q + 1) nx4 true) := g_skip HG.out HF.out hc rfl (.inr (.inr hocc))
                            clear HG hc
                            go_wp2_with (go_at_call 13; refine (occursAt_any text s q _ (by omega) (by omega)).mono ?_; rintro e w5 ⟨rfl, m5, hw5⟩; subst w5; rw [hocc])
                            go_roundw
                            case rel => exact ⟨q + 1, nx4, _, by omega, by go_num, rfl, hC.drewN m5, hD.drewN m5, below_drewN hbl m5, HS⟩
                            case measure => simp [intOf]; omega
                          · have hlD := hD.len
                            have HS : Hid (Gath (decide (k = 0)) text.data.toList s.data.toList cu text.size (q + 1) (nx4.set (q + s.size) true) true) := by
                              have := g_take HG.out HF.out hc rfl (by simp; omega) hocc hlD
                              rw [show s.data.toList.length = s.size by simp] at this
                              exact this
                            have cD := hD.cell (q + s.size) (by omega)
                            have fD := hD.frozen (q + s.size)
                            have R1 := hC.other hD hne (q + s.size) (.bool true)
                            have R2 := hD.store (q + s.size) true
                            have R3 := hbl.setCell (p := ⟨D, q + s.size, none⟩) hD.base (.bool true)
                            generalize nx4.getD (q + s.size) false = b9 at *
                            clear HG hc hC hD hbl hlD
                            go_wp2_with (go_at_call 13; refine (occursAt_any text s q _ (by omega) (by omega)).mono ?_; rintro e w5 ⟨rfl, m5, hw5⟩; subst w5; rw [hocc])
                            go_roundw
                            case rel => exact ⟨q + 1, _, _, by omega, by go_num, rfl, R1.drewN m5, R2.drewN m5, below_drewN R3 m5, HS⟩
                            case measure => simp [intOf]; omega
                    · cases c
                      · cases op
                        · have HS : Hid (Gath (decide (k = 0)) text.data.toList s.data.toList cu text.size (q + 1) nx4 false) := g_skip HG.out HF.out hc rfl (.inl rfl)
                          clear HG hc
                          go_wp2
                          go_roundw
                          case rel => exact ⟨q + 1, nx4, _, by omega, by go_num, rfl, hC, hD, hbl, HS⟩
                          case measure => simp [intOf]; omega
                        · by_cases hlong : text.size < q + s.size
                          · have HS : Hid (Gath (decide (k = 0)) text.data.toList s.data.toList cu text.size (q + 1) nx4 true) := g_skip HG.out HF.out hc rfl (.inr (.inl (by simpa using hlong)))
                            clear HG hc
                            go_wp2
                            go_roundw
                            case rel => exact ⟨q + 1, nx4, _, by omega, by go_num, rfl, hC, hD, hbl, HS⟩
                            case measure => simp [intOf]; omega
                          · cases hocc : occB text.data.toList s.data.toList q
                            · have HS : Hid (Gath (decide (k = 0)) text.data.toList s.data.toList cu text.size (q + 1) nx4 true) := g_skip HG.out HF.out hc rfl (.inr (.inr hocc))
                              clear HG hc
                              go_wp2_with (go_at_call 13; refine (occursAt_any text s q _ (by omega) (by omega)).mono ?_; rintro e w5 ⟨rfl, m5, hw5⟩; subst w5; rw [hocc])
                              go_roundw
                              case rel => exact ⟨q + 1, nx4, _, by omega, by go_num, rfl, hC.drewN m5, hD.drewN m5, below_drewN hbl m5, HS⟩
                              case measure => simp [intOf]; omega
                            · have hlD := hD.len
                              have HS : Hid (Gath (decide (k = 0)) text.data.toList s.data.toList cu text.size (q + 1) (nx4.set (q + s.size) true) true) := by
                                have := g_take HG.out HF.out hc rfl (by simp; omega) hocc hlD
                                rw [show s.data.toList.length = s.size by simp] at this
                                exact this
                              have cD := hD.cell (q + s.size) (by omega)
                              have fD := hD.frozen (q + s.size)
                              have R1 := hC.other hD hne (q + s.size) (.bool true)
                              have R2 := hD.store (q + s.size) true
                              have R3 := hbl.setCell (p := ⟨D, q + s.size, none⟩) hD.base (.bool true)
                              generalize nx4.getD (q + s.size) false = b9 at *
                              clear HG hc hC hD hbl hlD
                              go_wp2_with (go_at_call 13; refine (occursAt_any text s q _ (by omega) (by omega)).mono ?_; rintro e w5 ⟨rfl, m5, hw5⟩; subst w5; rw [hocc])
                              go_roundw
                              case rel => exact ⟨q + 1, _, _, by omega, by go_num, rfl, R1.drewN m5, R2.drewN m5, below_drewN R3 m5, HS⟩
                              case measure => simp [intOf]; omega
                      · by_cases hlong : text.size < q + s.size
                        · have HS : Hid (Gath (decide (k = 0)) text.data.toList s.data.toList cu text.size (q + 1) nx4 true) := g_skip HG.out HF.out hc rfl (.inr (.inl (by simpa using hlong)))
                          clear HG hc
                          go_wp2
                          go_roundw
                          case rel => exact ⟨q + 1, nx4, _, by omega, by go_num, rfl, hC, hD, hbl, HS⟩
                          case measure => simp [intOf]; omega
                        · cases hocc : occB text.data.toList s.data.toList q
                          · have HS : Hid (Gath (decide (k = 0)) text.data.toList s.data.toList cu text.size (q + 1) nx4 true) := g_skip HG.out HF.out hc rfl (.inr (.inr hocc))
                            clear HG hc
                            go_wp2_with (go_at_call 13; refine (occursAt_any text s q _ (by omega) (by omega)).mono ?_; rintro e w5 ⟨rfl, m5, hw5⟩; subst w5; rw [hocc])
                            go_roundw
                            case rel => exact ⟨q + 1, nx4, _, by omega, by go_num, rfl, hC.drewN m5, hD.drewN m5, below_drewN hbl m5, HS⟩
                            case measure => simp [intOf]; omega
                          · have hlD := hD.len
                            have HS : Hid (Gath (decide (k = 0)) text.data.toList s.data.toList cu text.size (q + 1) (nx4.set (q + s.size) true) true) := by
                              have := g_take HG.out HF.out hc rfl (by simp; omega) hocc hlD
                              rw [show s.data.toList.length = s.size by simp] at this
                              exact this
                            have cD := hD.cell (q + s.size) (by omega)
                            have fD := hD.frozen (q + s.size)
                            have R1 := hC.other hD hne (q + s.size) (.bool true)
                            have R2 := hD.store (q + s.size) true
                            have R3 := hbl.setCell (p := ⟨D, q + s.size, none⟩) hD.base (.bool true)
                            generalize nx4.getD (q + s.size) false = b9 at *
                            clear HG hc hC hD hbl hlD
                            go_wp2_with (go_at_call 13; refine (occursAt_any text s q _ (by omega) (by omega)).mono ?_; rintro e w5 ⟨rfl, m5, hw5⟩; subst w5; rw [hocc])
                            go_roundw
                            case rel => exact ⟨q + 1, _, _, by omega, by go_num, rfl, R1.drewN m5, R2.drewN m5, below_drewN R3 m5, HS⟩
                            case measure => simp [intOf]; omega
                  · have HG1 : Hid (∀ e, e ≤ text.size → (nx4.getD e false = true ↔ reach text.data.toList (dat ss) (k + 1) e)) := by
                      have hq1 : q = text.size + 1 := by omega
                      have hG := HG.out
                      rw [hq1, show text.size = text.data.toList.length by simp] at hG
                      have := hG.done (reach text.data.toList (dat ss) k) (by simpa using HR.out)
                      intro e he
                      rw [this e (by simpa using he)]
                      show _ ↔ stepS (decide (k = 0)) text.data.toList ((dat ss).getD k []) (reach text.data.toList (dat ss) k) e
                      rw [HP.out]
                    clear HG HR HP
                    go_wp2
                    go_loopw [15] (fun vq wr => ∃ (q : Nat) (cu5 : List Bool), q ≤ text.size + 1 ∧ vq = .int .i64 q ∧ Bools C wr C (text.size + 1) cu5 ∧ Bools C wr D (text.size + 1) nx4 ∧ Below C w1 wr ∧ Hid (∀ j, j < q → cu5.getD j false = nx4.getD j false)) (fun vq _ => text.size + 1 - (intOf vq).toNat)
                    case atStart => exact ⟨0, cu, Nat.zero_le _, rfl, hC, hD, hbl, by intro j hj; omega⟩
                    case round =>
                      clear hC hD hbl
                      obtain ⟨q5, cu5, hq5, rfl, hC, hD, hbl, HE⟩ := hrel
                      by_cases hql5 : q5 ≤ text.size
                      · have cD := hD.cell q5 (by omega)
                        have cC := hC.cell q5 (by omega)
                        have fC := hC.frozen q5
                        have hlC := hC.len
                        obtain ⟨b5, hb5⟩ : ∃ b5, nx4.getD q5 false = b5 := ⟨_, rfl⟩
                        rw [hb5] at cD
                        have R1 := hC.store q5 b5
                        have R2 := hD.other hC hne.symm q5 (.bool b5)
                        have R3 := hbl.setCell (p := ⟨C, q5, none⟩) hC.base (.bool b5)
                        have HE2 : Hid (∀ j, j < q5 + 1 → (cu5.set q5 b5).getD j false = nx4.getD j false) := by
                          intro j hj
                          rw [getD_set _ _ _ _ (by omega)]
                          split
                          · rename_i hj2; rw [hj2, hb5]
                          · exact HE.out j (by omega)
                        generalize cu5.getD q5 false = b6 at *
                        clear hC hD hbl hlC HE hb5
                        go_wp2
                        go_roundw
                        case rel => exact ⟨q5 + 1, _, by omega, by go_num, R1, R2, R3, HE2⟩
                        case measure => simp [intOf]; omega
                      · have HR2 : Hid (∀ e, e ≤ text.size → (cu5.getD e false = true ↔ reach text.data.toList (dat ss) (k + 1) e)) := by
                          intro e he
                          rw [HE.out e (by omega)]
                          exact HG1.out e he
                        clear HE HG1
                        go_wp2
                        go_roundw
                        case rel => exact ⟨k + 1, cu5, nx4, by omega, by go_num, hC, hD, hbl, HR2⟩
                        case measure => simp [intOf]; omega
          · have hkn : k = n := by omega
            subst k
            have cL := hC.cell text.size (by omega)
            obtain ⟨b, hb⟩ : ∃ b, cu.getD text.size false = b := ⟨_, rfl⟩
            rw [hb] at cL
            have hmatch : matchesP (dat ss) text.data.toList = b := by
              rw [← hb, Bool.eq_iff_iff, matches_iff, HR.out text.size (Nat.le_refl _)]
              have := reach_all text.data.toList (dat ss) (by intro e; exact HSN.out (by simpa [dat] using e))
              rw [show (dat ss).length = n by simp [dat]; exact HX.out, show text.data.toList.length = text.size by simp] at this
              exact this.symm
            have z1 := HBW.out.size
            have hmx : wr.cell? ⟨0, 0, none⟩ = some (.int .i64 mx) := by
              rw [hbl.cell (p := ⟨0, 0, none⟩) (by have := block_lt HMX.out; have := HCg.out; simp at *; omega), HBW.out.cell (p := ⟨0, 0, none⟩) (block_lt HMX.out)]
              exact HMX.out
            have hcall : ∀ m5, Calls Try.prog 14 #[.slice (some ⟨g0, 0, none⟩) n d0, .string text] (wr.drewN m5) fun e w' => e = .returned (.bool b) ∧ ∃ m, w' = (wr.drewN m5).drewN m := by
              intro m5
              refine (zzmatches g0 d0 mx ss text (wr.drewN m5) (fun i s hs => ?_) HSN.out (by rw [HX.out]; exact hd0') hmx (by omega)
                (fun s hs => by obtain ⟨i, hi, rfl⟩ := List.getElem_of_mem hs; have := tot_mem ss i ss[i] (by simp [hi]); omega) (by rw [HX.out]; omega) b hmatch n HX.out).mono ?_
              · rw [World.cell?_drewN, hbl.cell (p := ⟨g0, i, none⟩) hg0]
                exact HS0.out i s hs
              · rintro e w' ⟨rfl, rfl⟩
                exact ⟨rfl, 1, rfl⟩
            have HZ : Hid (Below w.heap.size w wr) := HBW.out.trans (hbl.mono (by have := HCg.out; omega))
            clear hb hmatch hmx HR HSN HS0 HMX HBW HX HC hC hD hbl HCg z1
            go_wp2
            go_quiet ((go_at_call 14; exact Calls.quiet_of (hcall _)))
            go_wp2
            go_ret
            exact ⟨rfl, below_drewN HZ.out nq⟩

end Go.Proofs.Qxb6600834a
