/-
  THE WALK OF FnUnescapeInvertsEscape.
-/
import Derived.Test.Qxb6600185aUnesc
import Derived.Test.Qxb6600185aBytes
import Derived.Lib.AsciiSet
import Derived.Lib.IndexBytes
import Derived.Deep.WholeRow
set_option linter.unusedVariables false
namespace Go.Proofs.Qxb6600185a.fnUnescapeInvertsEscape
open Go.RowKit Plain

theorem bytes_yes (t s : ByteArray) (w : World) (hs : t.size + s.size ≤ 1048576) :
    Calls Try.prog 31 #[.string t, .string s] w fun e w' => e = .returned (.bool true) ∧ w' = w := by
  go_enter Try.func31, Try.ntmps31
  go_wp2
  go_ret
  exact ⟨rfl, rfl⟩

theorem bytes_no (t s : ByteArray) (w : World) (hs : 1048576 < t.size + s.size) (hm : t.size ≤ maxLen) (hm' : s.size ≤ maxLen) :
    Calls Try.prog 31 #[.string t, .string s] w fun e w' => e = .returned (.bool false) ∧ w' = w := by
  unfold maxLen at hm hm'
  by_cases h1 : 1048576 < t.size
  · go_enter Try.func31, Try.ntmps31
    go_wp2
    go_ret
    exact ⟨rfl, rfl⟩
  · by_cases h2 : 1048576 < s.size
    · go_enter Try.func31, Try.ntmps31
      go_wp2
      go_ret
      exact ⟨rfl, rfl⟩
    · go_enter Try.func31, Try.ntmps31
      go_wp2
      go_ret
      exact ⟨rfl, rfl⟩

theorem info49 : (Try.prog.info? 49).map (fun i => (i.zero, i.size)) = some (some (.agg (Array.replicate 256 (.bool false))), 256) := by kernel_rfl

/-- the marked bytes -/
def mk (s : List UInt8) (c : UInt8) : Bool := (92 :: s).contains c

theorem cells_first : (Array.replicate 256 (Value.bool false)).setIfInBounds 92 (.bool true) = Lib.setCells [92] := by
  rw [← Lib.setCells_nil]; exact (Lib.setCells_snoc [] 92).symm

theorem cells_next (l : List UInt8) (k : Nat) (x : UInt8) (h : l[k]? = some x) : (Lib.setCells (92 :: l.take k)).setIfInBounds x.toNat (.bool true) = Lib.setCells (92 :: l.take (k + 1)) := by
  rw [List.take_add_one, h, ← Lib.setCells_snoc]
  simp

theorem old_cell (s : List UInt8) (w wr : World) (x : UInt8) (h : Below (w.heap.size + 1) (w.alloc (.cells (Lib.setCells (92 :: s)) 49)) wr) :
    wr.cell? ⟨w.heap.size, x.toNat, none⟩ = some (.bool (mk s x)) := by
  rw [h.cell (p := ⟨w.heap.size, x.toNat, none⟩) (Nat.lt_succ_self _), Lib.cell_of_heap (heap_alloc_new _ _)]
  exact Lib.setCells_at (92 :: s) x

theorem esc_yes (m : UInt8 → Bool) (l : List UInt8) (k : Nat) (x : UInt8) (h : l[k]? = some x) (hm : m x = true) : esc m (l.take (k + 1)) = esc m (l.take k) ++ ([92] ++ [x]) := by
  rw [List.take_add_one, h, esc_append]
  simp [esc, hm]

theorem esc_no (m : UInt8 → Bool) (l : List UInt8) (k : Nat) (x : UInt8) (h : l[k]? = some x) (hm : m x = false) : esc m (l.take (k + 1)) = esc m (l.take k) ++ [x] := by
  rw [List.take_add_one, h, esc_append]
  simp [esc, hm]

set_option maxHeartbeats 4000000 in
theorem walk_in (a0 : ByteArray) (a1 : ByteArray) (hs : a0.size + a1.size ≤ 1048576) (w : World) :
    Calls Try.prog 9 #[.string a0, .string a1] w fun e w' => e = .returned (.bool true) ∧ Below w.heap.size w w' := by
  have hzv := (zero_of_info (P := Try.prog) info49).1
  go_enter Try.func9, Try.ntmps9
  go_wp2_with (go_at_call 31; refine (bytes_yes a0 a1 _ hs).mono ?_; rintro e w1 ⟨rfl, hw⟩; subst w1)
  clear hzv
  rw [cells_first]
  go_loopw [6] (fun i wr => ∃ k : Nat, k ≤ a1.size ∧ i = .int .i64 k ∧ wr = w.alloc (.cells (Lib.setCells (92 :: a1.data.toList.take k)) 49))
    (fun i _ => a1.size - (intOf i).toNat)
  case atStart => exact ⟨0, Nat.zero_le _, rfl, rfl⟩
  case round =>
    obtain ⟨k, hk, rfl, rfl⟩ := hrel
    by_cases hlt : k < a1.size
    · obtain ⟨x, hx⟩ : ∃ x : UInt8, a1[k]'hlt = x := ⟨_, rfl⟩
      have Hx : Hid (a1.data.toList[k]? = some x) := by
        show _ = _
        rw [← hx]; exact Lib.data_getElem? a1 k hlt
      have hx256 : (x.toNat : Int) < 256 := by have := UInt8.toNat_lt x; omega
      have hcell := Lib.setCells_at (92 :: a1.data.toList.take k) x
      go_wp2
      go_roundw
      case rel => exact ⟨k + 1, by omega, by go_num, by rw [cells_next _ _ _ Hx.out]⟩
      case measure => simp [intOf]; omega
    · obtain rfl : k = a1.size := by omega
      have hfull : a1.data.toList.take a1.size = a1.data.toList := List.take_of_length_le (by simp)
      rw [hfull]
      clear hfull hlt hk
      go_wp2
      obtain ⟨i0, hi, hz0, hz1, hz2⟩ := info_parts infoByte
      go_loopw [7, 8] (fun v i wr => ∃ k : Nat, k ≤ a0.size ∧ i = .int .i64 k ∧ Buf (w.heap.size + 1) wr v (esc (mk a1.data.toList) (a0.data.toList.take k)) ∧ Below (w.heap.size + 1) (w.alloc (.cells (Lib.setCells (92 :: a1.data.toList)) 49)) wr)
        (fun _ i _ => a0.size - (intOf i).toNat)
      case atStart => exact ⟨0, Nat.zero_le _, rfl, World.ownsRow_nil _ _ _ _, Below.refl _ _⟩
      case round =>
        obtain ⟨k, hk, rfl, hbuf, hbel⟩ := hrel
        have hz : w.heap.size + 1 ≤ wr.heap.size := by have := hbel.size; simpa using this
        have hB : w.heap.size + 1 ≤ (w.alloc (.cells (Lib.setCells (92 :: a1.data.toList)) 49)).heap.size := by simp
        by_cases hlt : k < a0.size
        · obtain ⟨x, hx⟩ : ∃ x : UInt8, a0[k]'hlt = x := ⟨_, rfl⟩
          have Hx : Hid (a0.data.toList[k]? = some x) := by
            show _ = _
            rw [← hx]; exact Lib.data_getElem? a0 k hlt
          have hx256 : (x.toNat : Int) < 256 := by have := UInt8.toNat_lt x; omega
          have hlen : (esc (mk a1.data.toList) (a0.data.toList.take k)).length ≤ 2 * k :=
            Nat.le_trans (esc_len _ _) (Nat.mul_le_mul_left 2 (List.length_take_le _ _))
          have hcell := old_cell a1.data.toList w wr x hbel
          generalize hl : esc (mk a1.data.toList) (a0.data.toList.take k) = l at *
          have HL : Hid (esc (mk a1.data.toList) (a0.data.toList.take k) = l) := hl
          clear hl
          by_cases hm : mk a1.data.toList x = true
          · have HM : Hid (mk a1.data.toList x = true) := hm
            rw [hm] at hcell
            clear hm
            go_wp2_with (at_builtin; refine wpList_append_own _ rfl (.tmp 51) (.tmp 52) 27 rfl (w.heap.size + 1) 5 i0 (.int .u8 0) 1 1 Try.underlying27 hi hz0 hz1 hz2 rfl (by decide) _ _ _ rfl (World.ownsRow.alloc hbuf _) ⟨wr.heap.size, 0, none⟩ 1 1 [.int .u8 92] rfl rfl ?c1 ?c2 ?c3 ?c4 ?c5 ?_)
            case c1 =>
              intro j u hj
              match j, hj with
              | 0, hj => simp at hj; subst hj; simp [Addr.add]
            case c2 => intro u hu; simp at hu; subst hu; rfl
            case c3 => unfold maxLen; omega
            case c4 => omega
            case c5 => simp; omega
            intro v1 w1 hown1 hgrow1 _
            obtain ⟨hbuf1, hbel1⟩ := Buf.step (c := 92) hbuf hbel hB hown1 hgrow1
            have hz1' : w.heap.size + 1 ≤ w1.heap.size := by have := hbel1.size; simpa using this
            clear hown1 hgrow1 hbuf hbel hcell
            go_wp2_with (at_builtin; refine wpList_append_own _ rfl (.tmp 54) (.tmp 58) 27 rfl (w.heap.size + 1) 5 i0 (.int .u8 0) 1 1 Try.underlying27 hi hz0 hz1 hz2 rfl (by decide) _ _ _ rfl (World.ownsRow.alloc hbuf1 _) ⟨w1.heap.size, 0, none⟩ 1 1 [.int .u8 x.toNat] rfl rfl ?d1 ?d2 ?d3 ?d4 ?d5 ?_)
            case d1 =>
              intro j u hj
              match j, hj with
              | 0, hj => simp at hj; subst hj; simp [Addr.add]
            case d2 => intro u hu; simp at hu; subst hu; rfl
            case d3 => unfold maxLen; simp; omega
            case d4 => simp; omega
            case d5 => simp; omega
            intro v2 w2 hown2 hgrow2 _
            obtain ⟨hbuf2, hbel2⟩ := Buf.step (c := x) hbuf1 hbel1 hB (by simpa using hown2) hgrow2
            clear hown2 hgrow2 hbuf1 hbel1
            go_wp2
            go_roundw
            case rel => exact ⟨k + 1, by omega, by go_num, by rw [esc_yes _ _ _ _ Hx.out HM.out, HL.out, ← List.append_assoc] <;> simpa using hbuf2, hbel2⟩
            case measure => simp [intOf]; omega
          · have HM : Hid (mk a1.data.toList x = false) := Bool.eq_false_iff.2 hm
            rw [HM.out] at hcell
            clear hm
            go_wp2_with (at_builtin; refine wpList_append_own _ rfl (.tmp 54) (.tmp 58) 27 rfl (w.heap.size + 1) 5 i0 (.int .u8 0) 1 1 Try.underlying27 hi hz0 hz1 hz2 rfl (by decide) _ _ _ rfl (World.ownsRow.alloc hbuf _) ⟨wr.heap.size, 0, none⟩ 1 1 [.int .u8 x.toNat] rfl rfl ?e1 ?e2 ?e3 ?e4 ?e5 ?_)
            case e1 =>
              intro j u hj
              match j, hj with
              | 0, hj => simp at hj; subst hj; simp [Addr.add]
            case e2 => intro u hu; simp at hu; subst hu; rfl
            case e3 => unfold maxLen; omega
            case e4 => omega
            case e5 => simp; omega
            intro v1 w1 hown1 hgrow1 _
            obtain ⟨hbuf1, hbel1⟩ := Buf.step (c := x) hbuf hbel hB hown1 hgrow1
            clear hown1 hgrow1 hbuf hbel hcell
            go_wp2
            go_roundw
            case rel => exact ⟨k + 1, by omega, by go_num, by rw [esc_no _ _ _ _ Hx.out HM.out, HL.out]; exact hbuf1, hbel1⟩
            case measure => simp [intOf]; omega
        · have hfull : a0.data.toList.take k = a0.data.toList := List.take_of_length_le (by simp; omega)
          rw [hfull] at hbuf
          have hlen : (esc (mk a1.data.toList) a0.data.toList).length ≤ 2 * a0.size := by
            have := esc_len (mk a1.data.toList) a0.data.toList; simpa using this
          have hinv := unesc_esc (mk a1.data.toList) (by simp [mk]) a0.data.toList
          generalize esc (mk a1.data.toList) a0.data.toList = l at *
          have HI : Hid (unesc l = a0.data.toList) := hinv
          have hcv := Buf.str (P := Try.prog) hbuf Try.underlying27 Try.underlying5 Try.underlying9
          clear hfull hinv
          have hsz : (⟨l.toArray⟩ : ByteArray).size = l.length := by simp [ByteArray.size]
          go_wp2_with (go_at_call 30; refine (zzunescape ⟨l.toArray⟩ _ (by omega)).mono ?_; rintro e w1 ⟨rfl, hl1⟩)
          have e : (unesc l == a0.toList) = true := by rw [HI.out, Lib.toList_data]; simp
          rw [e]
          go_ret
          exact ⟨rfl, (((Below.refl _ _).alloc (Nat.le_refl _) _).trans (hbel.mono (by omega))).trans (hl1.mono (by omega))⟩

theorem walk (a0 : ByteArray) (a1 : ByteArray) (w0 : a0.size ≤ maxLen) (w1 : a1.size ≤ maxLen) (w : World) :
    Calls Try.prog 9 #[.string a0, .string a1] w fun e w' => e = .returned (.bool true) ∧ Below w.heap.size w w' := by
  by_cases hs : a0.size + a1.size ≤ 1048576
  · exact walk_in a0 a1 hs w
  · go_enter Try.func9, Try.ntmps9
    go_wp2_with (go_at_call 31; refine (bytes_no a0 a1 _ (by omega) w0 w1).mono ?_; rintro e w1 ⟨rfl, hw⟩; subst w1)
    go_ret
    exact ⟨rfl, Below.refl _ _⟩

end Go.Proofs.Qxb6600185a.fnUnescapeInvertsEscape
