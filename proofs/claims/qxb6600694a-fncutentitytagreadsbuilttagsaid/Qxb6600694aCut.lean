/-
  cutEntityTag AND ZZCutEntityTag, BY THEIR CONTRACT, at a tag that was built of a mark, a body of tag bytes and a rest.
-/
import Derived.Test.Qxb6600694aShelf
import Derived.WalkKit
import Derived.Lib.Strings
import Derived.Lib.IndexBytes
set_option linter.unusedVariables false
namespace Go.Proofs.Qxb6600694a
open Go.RowKit

theorem indexByte_at (u r : List UInt8) (c : UInt8) (h : c ∉ u) : Lib.indexByte (u ++ c :: r) c = u.length := by
  induction u with
  | nil => simp [Lib.indexByte]
  | cons b u ih =>
    simp only [List.mem_cons, not_or] at h
    have := ih h.2
    have hb : ¬ b = c := fun e => h.1 e.symm
    simp only [List.cons_append, Lib.indexByte, beq_iff_eq, hb, if_false, this, List.length_cons]
    rw [if_neg (by omega)]
    omega

/-- a byte that may stand in a tag -/
def good (c : UInt8) : Prop := 32 < c.toNat ∧ c.toNat ≠ 127 ∧ c.toNat ≠ 34

theorem good_no (body : List UInt8) (h : ∀ c ∈ body, good c) : (34 : UInt8) ∉ body := by
  intro hm
  exact (h 34 hm).2.2 rfl

/-- what is told of the string behind the mark -/
structure Told (s : ByteArray) (body rest : List UInt8) : Prop where
  data : s.data.toList = 34 :: (body ++ 34 :: rest)
  size : s.size = body.length + rest.length + 2
  pre : Lib.hasPrefix s.data.toList [34] = true
  idx : Lib.indexByte (s.extract 1 s.size).data.toList 34 = body.length
  tag : s.extract 0 (body.length + 2) = ⟨(34 :: (body ++ [34])).toArray⟩
  tail : s.extract (body.length + 2) s.size = ⟨rest.toArray⟩

theorem ba_ext {a b : ByteArray} (h : a.data.toList = b.data.toList) : a = b := by
  cases a; cases b
  simp only [ByteArray.mk.injEq]
  exact Array.toList_inj.1 h

theorem told (s : ByteArray) (body rest : List UInt8) (h : ∀ c ∈ body, good c) (hs : s.data.toList = 34 :: (body ++ 34 :: rest)) : Told s body rest := by
  have hsz : s.size = body.length + rest.length + 2 := by
    have : s.size = s.data.toList.length := by simp
    rw [this, hs]; simp; omega
  refine ⟨hs, hsz, by rw [hs]; rfl, ?_, ?_, ?_⟩
  · rw [Lib.extract_data, hs]
    have e : (List.drop 1 (34 :: (body ++ 34 :: rest))).take (s.size - 1) = body ++ 34 :: rest := by
      rw [List.drop_succ_cons, List.drop_zero, List.take_of_length_le]
      simp; omega
    rw [e]
    exact indexByte_at _ _ _ (good_no body h)
  · apply ba_ext
    rw [Lib.extract_data, hs]
    have e : 34 :: (body ++ 34 :: rest) = (34 :: (body ++ [34])) ++ rest := by simp
    rw [List.drop_zero, e, List.take_left' (by simp)]
  · apply ba_ext
    rw [Lib.extract_data, hs]
    have e : 34 :: (body ++ 34 :: rest) = (34 :: (body ++ [34])) ++ rest := by simp
    rw [e, List.drop_left' (by simp), List.take_of_length_le (by omega)]

theorem told_good {s : ByteArray} {body rest : List UInt8} (hT : Told s body rest) (h : ∀ c ∈ body, good c) (k : Nat) (h1 : 1 ≤ k) (h2 : k ≤ body.length) (x : UInt8) (hx : s.data.toList[k]? = some x) : good x := by
  rw [hT.data] at hx
  obtain ⟨j, rfl⟩ : ∃ j, k = j + 1 := ⟨k - 1, by omega⟩
  rw [List.getElem?_cons_succ, List.getElem?_append_left (by omega)] at hx
  exact h x (List.mem_of_getElem? hx)

set_option maxHeartbeats 4000000 in
set_option maxRecDepth 100000 in
theorem cut_strong (s : ByteArray) (body rest : List UInt8) (w : World) (hgood : ∀ c ∈ body, good c) (hlen : body.length + rest.length ≤ 1048576) (hT : Told s body rest) :
    Calls Try.prog 18 #[.string s] w fun e w' => e = .returned (.tuple #[.agg #[.bool false, .string ⟨(34 :: (body ++ [34])).toArray⟩], .string ⟨rest.toArray⟩, .bool true]) ∧ Below w.heap.size w w' := by
  have hp : Lib.hasPrefix s.data.toList [87, 47] = false := by rw [hT.data]; rfl
  have ht : (⟨(Lib.trimPrefix s.data.toList [87, 47]).toArray⟩ : ByteArray) = s := by
    apply ba_ext; unfold Lib.trimPrefix; rw [hp]; simp
  have hcut : ∀ w, Calls Try.prog 19 #[.string s, .string ⟨#[87, 47]⟩] w fun e w' => e = .returned (.tuple #[.string s, .bool false]) ∧ w' = w := by
    intro w
    have := Try.strings_CutPrefix s ⟨#[87, 47]⟩ w
    rw [show (⟨#[87, 47]⟩ : ByteArray).data.toList = [87, 47] from rfl, hp, ht] at this
    exact this
  have hhas : ∀ w, Calls Try.prog 20 #[.string s, .string ⟨#[34]⟩] w fun e w' => e = .returned (.bool true) ∧ w' = w := by
    intro w
    have := Try.strings_HasPrefix s ⟨#[34]⟩ w
    rw [show (⟨#[34]⟩ : ByteArray).data.toList = [34] from rfl, hT.pre] at this
    exact this
  have hidx : ∀ w, Calls Try.prog 21 #[.string (s.extract 1 s.size), .int .u8 34] w fun e w' => e = .returned (.int .i64 body.length) ∧ w' = w := by
    intro w
    have := Try.strings_IndexByte (s.extract 1 s.size) 34 w
    rw [show (34 : Int).toNat.toUInt8 = 34 from rfl, hT.idx] at this
    exact this
  have hsz1 : s.size ≤ body.length + rest.length + 2 := by rw [hT.size]; exact Nat.le_refl _
  have hsz2 : body.length + rest.length + 2 ≤ s.size := by rw [hT.size]; exact Nat.le_refl _
  clear hp ht
  have HT : Hid (Told s body rest) := hT
  have HG : Hid (∀ c ∈ body, good c) := hgood
  clear hT hgood
  go_enter Try.func18, Try.ntmps18
  go_wp2_with (first
    | (go_at_call 19; refine (hcut _).mono ?_; rintro e w1 ⟨rfl, hw⟩; subst w1)
    | (go_at_call 20; refine (hhas _).mono ?_; rintro e w1 ⟨rfl, hw⟩; subst w1)
    | (go_at_call 21; refine (hidx _).mono ?_; rintro e w1 ⟨rfl, hw⟩; subst w1))
  clear hcut hhas hidx
  go_loop [9, 10] (fun i _ => ∃ k : Nat, 1 ≤ k ∧ k ≤ body.length + 1 ∧ i = .int .i64 k) (fun i _ => body.length + 1 - (intOf i).toNat)
  case atStart => exact ⟨1, Nat.le_refl _, by omega, rfl⟩
  case round =>
    obtain ⟨k, hk1, hk2, rfl⟩ := hrel
    by_cases hlt : k ≤ body.length
    · obtain ⟨x, hx⟩ : ∃ x : UInt8, s[k]'(by omega) = x := ⟨_, rfl⟩
      have hgx : good x := told_good HT.out HG.out k hk1 hlt x (by rw [← hx]; exact Lib.data_getElem? s k (by omega))
      have hx1 : (32 : Int) < (x.toNat : Int) := by have := hgx.1; omega
      have hx2 : ((x.toNat : Int) == 127) = false := by rw [beq_eq_false_iff_ne]; have := hgx.2.1; omega
      clear hgx
      go_wp2
      go_round
      case rel => exact ⟨k + 1, by omega, by omega, by go_num⟩
      case measure => simp [intOf]; omega
    · go_wp2
      go_region
      all_goals (try go_wp2)
      refine bodyPost_ret (v := .tuple #[.agg #[.bool false, .string (s.extract 0 (body.length + 2))], .string (s.extract (body.length + 2) s.size), .bool true]) (by simp [results, Try.results18, go_sem]) rfl ⟨?_, ?_⟩
      · rw [HT.out.tag, HT.out.tail]
      · exact (((Below.refl _ _).alloc (Nat.le_refl _) _).alloc (by simp) _).drew

set_option maxHeartbeats 4000000 in
set_option maxRecDepth 100000 in
theorem cut_weak (S s : ByteArray) (body rest : List UInt8) (w : World) (hgood : ∀ c ∈ body, good c) (hlen : body.length + rest.length ≤ 1048576) (hT : Told s body rest) (hS : S.data.toList = [87, 47] ++ s.data.toList) :
    Calls Try.prog 18 #[.string S] w fun e w' => e = .returned (.tuple #[.agg #[.bool true, .string ⟨(34 :: (body ++ [34])).toArray⟩], .string ⟨rest.toArray⟩, .bool true]) ∧ Below w.heap.size w w' := by
  have hp : Lib.hasPrefix S.data.toList [87, 47] = true := by rw [hS]; rfl
  have ht : (⟨(Lib.trimPrefix S.data.toList [87, 47]).toArray⟩ : ByteArray) = s := by
    apply ba_ext; unfold Lib.trimPrefix; rw [hp, hS]; simp
  clear hS
  have hcut : ∀ w, Calls Try.prog 19 #[.string S, .string ⟨#[87, 47]⟩] w fun e w' => e = .returned (.tuple #[.string s, .bool true]) ∧ w' = w := by
    intro w
    have := Try.strings_CutPrefix S ⟨#[87, 47]⟩ w
    rw [show (⟨#[87, 47]⟩ : ByteArray).data.toList = [87, 47] from rfl, hp, ht] at this
    exact this
  have hhas : ∀ w, Calls Try.prog 20 #[.string s, .string ⟨#[34]⟩] w fun e w' => e = .returned (.bool true) ∧ w' = w := by
    intro w
    have := Try.strings_HasPrefix s ⟨#[34]⟩ w
    rw [show (⟨#[34]⟩ : ByteArray).data.toList = [34] from rfl, hT.pre] at this
    exact this
  have hidx : ∀ w, Calls Try.prog 21 #[.string (s.extract 1 s.size), .int .u8 34] w fun e w' => e = .returned (.int .i64 body.length) ∧ w' = w := by
    intro w
    have := Try.strings_IndexByte (s.extract 1 s.size) 34 w
    rw [show (34 : Int).toNat.toUInt8 = 34 from rfl, hT.idx] at this
    exact this
  have hsz1 : s.size ≤ body.length + rest.length + 2 := by rw [hT.size]; exact Nat.le_refl _
  have hsz2 : body.length + rest.length + 2 ≤ s.size := by rw [hT.size]; exact Nat.le_refl _
  clear hp ht
  have HT : Hid (Told s body rest) := hT
  have HG : Hid (∀ c ∈ body, good c) := hgood
  clear hT hgood
  go_enter Try.func18, Try.ntmps18
  go_wp2_with (first
    | (go_at_call 19; refine (hcut _).mono ?_; rintro e w1 ⟨rfl, hw⟩; subst w1)
    | (go_at_call 20; refine (hhas _).mono ?_; rintro e w1 ⟨rfl, hw⟩; subst w1)
    | (go_at_call 21; refine (hidx _).mono ?_; rintro e w1 ⟨rfl, hw⟩; subst w1))
  clear hcut hhas hidx
  go_loop [9, 10] (fun i _ => ∃ k : Nat, 1 ≤ k ∧ k ≤ body.length + 1 ∧ i = .int .i64 k) (fun i _ => body.length + 1 - (intOf i).toNat)
  case atStart => exact ⟨1, Nat.le_refl _, by omega, rfl⟩
  case round =>
    obtain ⟨k, hk1, hk2, rfl⟩ := hrel
    by_cases hlt : k ≤ body.length
    · obtain ⟨x, hx⟩ : ∃ x : UInt8, s[k]'(by omega) = x := ⟨_, rfl⟩
      have hgx : good x := told_good HT.out HG.out k hk1 hlt x (by rw [← hx]; exact Lib.data_getElem? s k (by omega))
      have hx1 : (32 : Int) < (x.toNat : Int) := by have := hgx.1; omega
      have hx2 : ((x.toNat : Int) == 127) = false := by rw [beq_eq_false_iff_ne]; have := hgx.2.1; omega
      clear hgx
      go_wp2
      go_round
      case rel => exact ⟨k + 1, by omega, by omega, by go_num⟩
      case measure => simp [intOf]; omega
    · go_wp2
      go_region
      all_goals (try go_wp2)
      refine bodyPost_ret (v := .tuple #[.agg #[.bool true, .string (s.extract 0 (body.length + 2))], .string (s.extract (body.length + 2) s.size), .bool true]) (by simp [results, Try.results18, go_sem]) rfl ⟨?_, ?_⟩
      · rw [HT.out.tag, HT.out.tail]
      · exact (((Below.refl _ _).alloc (Nat.le_refl _) _).alloc (by simp) _).drew

theorem struct_at {w w1 : World} {x y : Value} (h : Below (w.alloc (.cells #[x, y] 37)).heap.size (w.alloc (.cells #[x, y] 37)) w1) :
    w1.cell? ⟨w.heap.size, 0, none⟩ = some x ∧ w1.cell? ⟨w.heap.size, 1, none⟩ = some y ∧ w1.frozen? ⟨w.heap.size, 0, none⟩ = false ∧ w1.frozen? ⟨w.heap.size, 1, none⟩ = false ∧ Hid (Below w.heap.size w w1) := by
  have hb : w1.heap[w.heap.size]? = some (.cells #[x, y] 37 (0, 0)) := (h.block _ (by simp)).trans (heap_alloc_new _ _)
  refine ⟨by simp [World.cell?, hb], by simp [World.cell?, hb], by simp [World.frozen?, hb], by simp [World.frozen?, hb], ?_⟩
  exact ((Below.refl _ _).alloc (Nat.le_refl _) _).trans (h.mono (by simp))

theorem zzcut_any (wk : Bool) (S s : ByteArray) (body rest : List UInt8) (w : World) (hgood : ∀ c ∈ body, good c) (hlen : body.length + rest.length ≤ 1048576) (hT : Told s body rest) (hS : S.data.toList = (if wk then [87, 47] else []) ++ s.data.toList) :
    Calls Try.prog 14 #[.string S] w fun e w' => e = .returned (.tuple #[.bool wk, .string ⟨(34 :: (body ++ [34])).toArray⟩, .string ⟨rest.toArray⟩, .bool true]) ∧ Below w.heap.size w w' := by
  have hcut : ∀ w, Calls Try.prog 18 #[.string S] w fun e w' => e = .returned (.tuple #[.agg #[.bool wk, .string ⟨(34 :: (body ++ [34])).toArray⟩], .string ⟨rest.toArray⟩, .bool true]) ∧ Below w.heap.size w w' := by
    intro w
    cases wk with
    | true => exact cut_weak S s body rest w hgood hlen hT hS
    | false =>
      obtain rfl : S = s := ba_ext (by simpa using hS)
      exact cut_strong S body rest w hgood hlen hT
  clear hgood hT hS
  generalize (⟨(34 :: (body ++ [34])).toArray⟩ : ByteArray) = tg at *
  generalize (⟨rest.toArray⟩ : ByteArray) = rs at *
  go_enter Try.func14, Try.ntmps14
  go_wp2_with (go_at_call 18; refine (hcut _).mono ?_; rintro e w1 ⟨rfl, hb1⟩; obtain ⟨c0, c1, f0, f1, HB⟩ := struct_at hb1; clear hb1)
  go_region
  all_goals (try go_wp2)
  refine bodyPost_ret (v := .tuple #[.bool wk, .string tg, .string rs, .bool true]) (by simp [results, Try.results14, go_sem]) rfl ⟨rfl, ?_⟩
  exact ((HB.out.setCell (p := ⟨w.heap.size, 0, none⟩) (Nat.le_refl _) _).setCell (p := ⟨w.heap.size, 1, none⟩) (Nat.le_refl _) _).drew

end Go.Proofs.Qxb6600694a
