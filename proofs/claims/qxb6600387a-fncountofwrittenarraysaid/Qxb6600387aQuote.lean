/-
  AN APPEND OF BYTES THAT STAND IN THE TEXT, AS ONE LAW; appendQuoted_sjb1, BY ITS CONTRACT.
-/
import Derived.Test.Qxb6600387aCopy
import Derived.Test.Qxb6600387aPlain
import Derived.Lib.IndexBytes
set_option linter.unusedVariables false
namespace Go.Proofs.Qxb6600387a
open Go.RowKit Plain

theorem app_lit {w W : World} {ops : Array Oper} {rest : List Oper} {o : Oper} {a : Act} {Q : Exit → Act → World → Prop} {B : Nat} {v : Value} {l : List UInt8} {cells : Array Value} {T : TypeId} (s x : Operand) (cs : List UInt8)
    (hgd : o.guard = none) (ho : o.op = .call { callee := .builtin .append, args := #[s, x], argTypes := #[22, 22] }) (hs : a.eval s = v) (hx : a.eval x = .slice (some ⟨w.heap.size, 0, none⟩) cs.length cs.length) (hc : cells = (bcells cs).toArray)
    (hbuf : Own B 5 w v (bcells l)) (hbel : Below B W w) (hB : B ≤ W.heap.size) (hlen : l.length + cs.length ≤ 1073741824)
    (h : ∀ v' w', Own B 5 w' v' (bcells (l ++ cs)) → Below B W w' → wpList Try.prog ops Q rest (a.put o.dst v') w') : wpList Try.prog ops Q (o :: rest) a (w.alloc (.cells cells T)) := by
  obtain ⟨i0, hi, hz0, hz1, hz2⟩ := info_parts infoByte
  have hz := hbel.size
  refine wpList_append_own _ hgd s x 22 ho B 5 i0 (.int .u8 0) 1 1 Try.underlying22 hi hz0 hz1 hz2 rfl (by decide) v (bcells l).length (bcells l) hs (World.ownsRow.alloc hbuf _) ⟨w.heap.size, 0, none⟩ cs.length cs.length (bcells cs) hx (by simp [bcells_length]) ?_ ?_ ?_ ?_ ?_ ?_
  · intro j u hj
    rw [Addr.add_lit, Lib.cell_of_heap (heap_alloc_new _ _), hc]
    simpa using hj
  · intro u hu
    simp only [bcells, List.mem_map] at hu
    obtain ⟨c, _, rfl⟩ := hu
    rfl
  · rw [bcells_length]; unfold maxLen; omega
  · rw [bcells_length]; omega
  · simp; omega
  · intro v' w' hown hg _
    obtain ⟨h1, h2⟩ := Own.grown (ys := bcells cs) hbuf hbel hB (by rw [bcells_length cs]; exact hown) hg
    rw [← bcells_append] at h1
    exact h v' w' h1 h2

theorem escq_yes (l : List UInt8) (k : Nat) (x : UInt8) (h : l[k]? = some x) (hm : x = 34 ∨ x = 92) : escq (l.take (k + 1)) = escq (l.take k) ++ ([92] ++ [x]) := by
  rw [List.take_add_one, h, escq_append]
  simp [escq, hm]

theorem escq_not (l : List UInt8) (k : Nat) (x : UInt8) (h : l[k]? = some x) (hm : ¬ (x = 34 ∨ x = 92)) : escq (l.take (k + 1)) = escq (l.take k) ++ [x] := by
  rw [List.take_add_one, h, escq_append]
  simp [escq, hm]

theorem ne_int (c : UInt8) (n : Nat) (hn : n < 256) (h : c ≠ UInt8.ofNat n) : ((c.toNat : Int) == (n : Int)) = false := by
  rw [beq_eq_false_iff_ne]
  intro e
  apply h
  apply UInt8.toNat_inj.1
  rw [UInt8.toNat_ofNat_of_lt' hn]
  omega

set_option maxHeartbeats 4000000 in
theorem quote_any (B : Nat) (W w : World) (v : Value) (l : List UInt8) (s : ByteArray) (hbuf : Own B 5 w v (bcells l)) (hbel : Below B W w) (hB : B ≤ W.heap.size) (hlen : l.length + 2 * s.size + 2 ≤ 1073741824) :
    Calls Try.prog 14 #[v, .string s] w fun e w' => ∃ v', e = .returned v' ∧ Own B 5 w' v' (bcells (l ++ quot s.data.toList)) ∧ Below B W w' := by
  go_enter Try.func14, Try.ntmps14
  go_wp2_with (at_builtin; refine app_lit (.tmp 7) (.tmp 8) [34] rfl rfl rfl rfl rfl hbuf hbel hB (by simp; omega) ?_; intro v1 w1 hbuf1 hbel1)
  clear hbuf hbel
  go_loopw [0, 5] (fun vo i wr => ∃ k : Nat, k ≤ s.size ∧ i = .int .i64 k ∧ Own B 5 wr vo (bcells ((l ++ [34]) ++ escq (s.data.toList.take k))) ∧ Below B W wr)
    (fun _ i _ => s.size - (intOf i).toNat)
  case atStart => exact ⟨0, Nat.zero_le _, rfl, by simpa [escq] using hbuf1, hbel1⟩
  case round =>
    clear hbuf1 hbel1
    obtain ⟨k, hk, rfl, hbuf, hbel⟩ := hrel
    by_cases hlt : k < s.size
    · obtain ⟨x, hx⟩ : ∃ x : UInt8, s[k]'hlt = x := ⟨_, rfl⟩
      have Hx : Hid (s.data.toList[k]? = some x) := by
        show _ = _
        rw [← hx]; exact Lib.data_getElem? s k hlt
      have hel : (escq (s.data.toList.take k)).length ≤ 2 * k :=
        Nat.le_trans (escq_len _) (Nat.mul_le_mul_left 2 (List.length_take_le _ _))
      by_cases hm : x = 34 ∨ x = 92
      · have HE : Hid (escq (s.data.toList.take (k + 1)) = escq (s.data.toList.take k) ++ ([92] ++ [x])) := escq_yes _ _ _ Hx.out hm
        generalize escq (s.data.toList.take k) = m at *
        by_cases e34 : x = 34
        · have h34 : ((x.toNat : Int) == 34) = true := by rw [e34]; rfl
          clear hm e34
          go_wp2_with (first | (at_builtin; refine app_lit (.tmp 25) (.tmp 26) [92] rfl rfl rfl rfl rfl hbuf hbel hB (by simp; omega) ?_; intro v1 w1 hbuf1 hbel1; clear hbuf hbel) | (at_builtin; refine app_lit (.tmp 28) (.tmp 30) [x] rfl rfl rfl rfl rfl hbuf1 hbel1 hB (by simp; omega) ?_; intro v2 w2 hbuf2 hbel2; clear hbuf1 hbel1))
          go_roundw
          case rel => exact ⟨k + 1, by omega, by go_num, by rw [HE.out, ← List.append_assoc, ← List.append_assoc]; exact hbuf2, hbel2⟩
          case measure => simp [intOf]; omega
        · have h92 : ((x.toNat : Int) == 92) = true := by rw [hm.resolve_left e34]; rfl
          have h34 : ((x.toNat : Int) == 34) = false := ne_int x 34 (by decide) e34
          clear hm e34
          go_wp2_with (first | (at_builtin; refine app_lit (.tmp 25) (.tmp 26) [92] rfl rfl rfl rfl rfl hbuf hbel hB (by simp; omega) ?_; intro v1 w1 hbuf1 hbel1; clear hbuf hbel) | (at_builtin; refine app_lit (.tmp 28) (.tmp 30) [x] rfl rfl rfl rfl rfl hbuf1 hbel1 hB (by simp; omega) ?_; intro v2 w2 hbuf2 hbel2; clear hbuf1 hbel1))
          go_roundw
          case rel => exact ⟨k + 1, by omega, by go_num, by rw [HE.out, ← List.append_assoc, ← List.append_assoc]; exact hbuf2, hbel2⟩
          case measure => simp [intOf]; omega
      · have HE : Hid (escq (s.data.toList.take (k + 1)) = escq (s.data.toList.take k) ++ [x]) := escq_not _ _ _ Hx.out hm
        generalize escq (s.data.toList.take k) = m at *
        have h34 : ((x.toNat : Int) == 34) = false := ne_int x 34 (by decide) (fun e => hm (.inl e))
        have h92 : ((x.toNat : Int) == 92) = false := ne_int x 92 (by decide) (fun e => hm (.inr e))
        clear hm
        go_wp2_with (at_builtin; refine app_lit (.tmp 28) (.tmp 30) [x] rfl rfl rfl rfl rfl hbuf hbel hB (by simp; omega) ?_; intro v1 w1 hbuf1 hbel1)
        clear hbuf hbel
        go_roundw
        case rel => exact ⟨k + 1, by omega, by go_num, by rw [HE.out, ← List.append_assoc]; exact hbuf1, hbel1⟩
        case measure => simp [intOf]; omega
    · have hfull : s.data.toList.take k = s.data.toList := List.take_of_length_le (by simp; omega)
      rw [hfull] at hbuf
      have hel : (escq s.data.toList).length ≤ 2 * s.size := by have := escq_len s.data.toList; simpa using this
      clear hfull
      go_wp2_with (at_builtin; refine app_lit (.tmp 32) (.tmp 33) [34] rfl rfl rfl rfl rfl hbuf hbel hB (by simp; omega) ?_; intro v1 w1 hbuf1 hbel1)
      go_ret
      exact ⟨_, rfl, by simpa [quot] using hbuf1, hbel1⟩

end Go.Proofs.Qxb6600387a
