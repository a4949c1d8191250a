/-
  ParseDigits once more: the world behind the call, laid out: one new block, that of the named result.
-/
import Derived.Test.Qxb6628885aSame
namespace Go.Proofs.Qxb6628885a
open Go.RowKit

set_option maxRecDepth 100000 in
set_option maxHeartbeats 2000000 in
theorem parse_laid (s : ByteArray) (hs : s.size ≤ maxLen) (w : World) :
    Calls Try.prog 6 #[.string s] w fun e w' => e = .returned (.tuple #[.agg #[.int .u64 (lo (numOf s) : Nat), .int .u64 (hi (numOf s) : Nat)], .bool (isDigs s)]) ∧ w' = w.alloc (.cells #[.int .u64 (lo (numOf s) : Nat), .int .u64 (hi (numOf s) : Nat)] 25) := by
  by_cases h0 : 0 < s.size
  rotate_left
  · have e0 : isDigs s = false := by simp [isDigs, h0]
    have e1 : numOf s = 0 := by simp [numOf, e0]
    rw [e0, e1]
    obtain rfl : s = ByteArray.empty := ByteArray.ext (by apply Array.eq_empty_of_size_eq_zero; exact Nat.eq_zero_of_not_pos h0)
    go_enter Try.func6, Try.ntmps6
    go_wp2
    refine bodyPost_ret (v := .tuple #[.agg #[.int .u64 0, .int .u64 0], .bool false]) (by simp [results, Try.results6, go_sem]) rfl ⟨rfl, rfl⟩
  have z1 : ¬ s = ByteArray.empty := by intro e; rw [e] at h0; simp at h0
  have z2 : ((s.size : Int) == 0) = false := by rw [beq_eq_false_iff_ne]; omega
  by_cases h1 : s.size ≤ 38
  rotate_left
  · have e0 : isDigs s = false := by simp [isDigs, h1]
    have e1 : numOf s = 0 := by simp [numOf, e0]
    rw [e0, e1]
    go_enter Try.func6, Try.ntmps6
    go_wp2
    refine bodyPost_ret (v := .tuple #[.agg #[.int .u64 0, .int .u64 0], .bool false]) (by simp [results, Try.results6, go_sem]) rfl ⟨rfl, rfl⟩
  have split := digs_split s h0 h1 (s.size - 19)
  have low : s.extract (s.size - 19) s.size = if s.size < 19 then s else s.extract (s.size - 19) s.size := by
    split
    · rename_i h; rw [show s.size - 19 = 0 by omega]; simp
    · rfl
  have cb : ∀ w1, Calls Try.prog 12 #[.string (s.extract (s.size - 19) s.size)] w1 fun e w' => e = .returned (.tuple #[.int .u64 (wordOf (s.data.toList.drop (s.size - 19)) : Nat), .bool ((s.data.toList.drop (s.size - 19)).all isD)]) ∧ w' = w1 := by
    intro w1
    have c := parseWord_any (s.extract (s.size - 19) s.size) (by simp; omega) w1
    rw [ex_list, List.take_of_length_le (by simp)] at c
    exact c
  have ca : ∀ w1, Calls Try.prog 12 #[.string (s.extract 0 (s.size - 19))] w1 fun e w' => e = .returned (.tuple #[.int .u64 (wordOf (s.data.toList.take (s.size - 19)) : Nat), .bool ((s.data.toList.take (s.size - 19)).all isD)]) ∧ w' = w1 := by
    intro w1
    have c := parseWord_any (s.extract 0 (s.size - 19)) (by simp; omega) w1
    rw [ex_list, List.drop_zero, Nat.sub_zero] at c
    exact c
  obtain ⟨a, ha⟩ : ∃ a, s.data.toList.take (s.size - 19) = a := ⟨_, rfl⟩
  obtain ⟨b, hb⟩ : ∃ b, s.data.toList.drop (s.size - 19) = b := ⟨_, rfl⟩
  have hl : a ++ b = s.data.toList := by rw [← ha, ← hb, List.take_append_drop]
  have hn1 : a.length ≤ 19 := by rw [← ha, List.length_take, len_list]; omega
  have hn2 : b.length ≤ 19 := by rw [← hb, List.length_drop, len_list]; omega
  have hn3 : a = [] ∨ b.length = 19 := by
    by_cases h : s.size ≤ 19
    · left; rw [← ha, show s.size - 19 = 0 by omega]; rfl
    · right; rw [← hb, List.length_drop, len_list]; omega
  have hemp : s.size < 19 → a = [] := by intro h; rw [← ha, show s.size - 19 = 0 by omega]; rfl
  rw [ha] at ca split
  rw [hb] at cb split
  rw [split]
  have hnum : numOf s = if (a.all isD && b.all isD) = true then wordOf a * 10000000000000000000 + wordOf b else 0 := by
    unfold numOf
    rw [split, ← hl]
    split
    · rename_i h
      rw [Bool.and_eq_true] at h
      simp only [wordOf, h.1, h.2, if_true]
      rw [dval_append]
      rcases hn3 with rfl | h3
      · simp [dval]
      · rw [h3, pow19]
    · rfl
  have ba : wordOf a < 10 ^ 19 := by
    unfold wordOf; split
    · rename_i h; exact dval_le_of _ h hn1
    · decide
  have bb : wordOf b < 10 ^ 19 := by
    unfold wordOf; split
    · rename_i h; exact dval_le_of _ h hn2
    · decide
  have wsum := words_sum _ _ ba bb
  rw [hnum]
  obtain ⟨A, hA⟩ : ∃ A, a.all isD = A := ⟨_, rfl⟩
  obtain ⟨B, hB⟩ : ∃ B, b.all isD = B := ⟨_, rfl⟩
  obtain ⟨N, hN⟩ : ∃ N, wordOf a = N := ⟨_, rfl⟩
  obtain ⟨K, hK⟩ : ∃ K, wordOf b = K := ⟨_, rfl⟩
  rw [hA, hN] at ca
  rw [hB, hK] at cb
  rw [hN, hK] at wsum
  rw [hN] at ba
  rw [hK] at bb
  rw [hA, hB, hN, hK]
  have c0 : s.size < 19 → A = true ∧ N = 0 := by
    intro h; have := hemp h; subst this; exact ⟨by rw [← hA]; rfl, by rw [← hN]; rfl⟩
  clear hA hB hN hK hnum hemp hn3 hn2 hn1 hl ha hb split
  rw [pow19] at ba bb
  have cm := mul64_any N 10000000000000000000 (by omega) (by decide)
  have ad : ∀ w1, (callFunc 14 #[.int .u64 ((N * 10000000000000000000 % 18446744073709551616 : Nat) : Int), .int .u64 K, .int .u64 0]).run Try.prog w1 =
      .ok (.value (.tuple #[.int .u64 (lo (N * 10000000000000000000 + K) : Nat), .int .u64 (((N * 10000000000000000000 % 18446744073709551616 + K) / 18446744073709551616 : Nat) : Int)])) w1 := by
    intro w1
    rw [add64_0 _ _ (Int.natCast_nonneg _) (Int.natCast_nonneg _), ← wsum.1]
    rfl
  obtain ⟨p, hp⟩ : ∃ p, N * 10000000000000000000 / 18446744073709551616 = p := ⟨_, rfl⟩
  obtain ⟨q, hq⟩ : ∃ q, N * 10000000000000000000 % 18446744073709551616 = q := ⟨_, rfl⟩
  obtain ⟨C, hC⟩ : ∃ C, (q + K) / 18446744073709551616 = C := ⟨_, rfl⟩
  obtain ⟨T, hT⟩ : ∃ T, N * 10000000000000000000 + K = T := ⟨_, rfl⟩
  obtain ⟨L, hL⟩ : ∃ L, lo T = L := ⟨_, rfl⟩
  obtain ⟨H, hH⟩ : ∃ H, hi T = H := ⟨_, rfl⟩
  simp only [hp, hq, hC, hT, hL, hH] at cm ad wsum
  have ew : IntKind.u64.wrap ((p : Int) + C) = (H : Int) := by
    have := hi_lt T
    rw [IntKind.wrap_u64]; omega
  rw [hT]
  clear wsum hp hq hC hT ba bb
  by_cases h2 : s.size < 19
  · rw [low, if_pos h2] at cb
    obtain ⟨hA, hN⟩ := c0 h2
    have ce : ∀ w1, Calls Try.prog 12 #[.string ByteArray.empty] w1 fun e w' => e = .returned (.tuple #[.int .u64 N, .bool true]) ∧ w' = w1 := by
      intro w1
      rw [hN]
      exact parseWord_any ByteArray.empty (by decide) w1
    clear c0 ca hN low
    subst hA
    cases B
    · simp only [Bool.and_false, Bool.false_eq_true, if_false]
      go_enter Try.func6, Try.ntmps6
      go_wp2_with fail
      refine (ce _).mono ?_
      rintro e w0 ⟨rfl, hw0⟩
      subst hw0
      go_wp2_with fail
      refine (cb _).mono ?_
      rintro e w0 ⟨rfl, hw0⟩
      subst hw0
      go_wp2
      refine bodyPost_ret (v := .tuple #[.agg #[.int .u64 0, .int .u64 0], .bool false]) (by simp [results, Try.results6, go_sem]) rfl ⟨rfl, rfl⟩
    · simp only [Bool.and_true, if_true, hL, hH]
      clear hL hH
      go_enter Try.func6, Try.ntmps6
      go_wp2_with fail
      refine (ce _).mono ?_
      rintro e w0 ⟨rfl, hw0⟩
      subst hw0
      go_wp2_with fail
      refine (cb _).mono ?_
      rintro e w0 ⟨rfl, hw0⟩
      subst hw0
      go_wp2_with fail
      refine (cm _).mono ?_
      rintro e w0 ⟨rfl, hw0⟩
      subst hw0
      go_wp2
      refine bodyPost_ret (v := .tuple #[.agg #[.int .u64 L, .int .u64 H], .bool true]) (by simp [results, Try.results6, go_sem]) rfl ⟨rfl, rfl⟩
  · clear c0 low
    cases A
    · simp only [Bool.false_and, Bool.false_eq_true, if_false]
      go_enter Try.func6, Try.ntmps6
      go_wp2_with fail
      refine (ca _).mono ?_
      rintro e w0 ⟨rfl, hw0⟩
      subst hw0
      go_wp2
      refine bodyPost_ret (v := .tuple #[.agg #[.int .u64 0, .int .u64 0], .bool false]) (by simp [results, Try.results6, go_sem]) rfl ⟨rfl, rfl⟩
    cases B
    · simp only [Bool.and_false, Bool.false_eq_true, if_false]
      go_enter Try.func6, Try.ntmps6
      go_wp2_with fail
      refine (ca _).mono ?_
      rintro e w0 ⟨rfl, hw0⟩
      subst hw0
      go_wp2_with fail
      refine (cb _).mono ?_
      rintro e w0 ⟨rfl, hw0⟩
      subst hw0
      go_wp2
      refine bodyPost_ret (v := .tuple #[.agg #[.int .u64 0, .int .u64 0], .bool false]) (by simp [results, Try.results6, go_sem]) rfl ⟨rfl, rfl⟩
    · simp only [Bool.and_true, if_true, hL, hH]
      clear hL hH
      go_enter Try.func6, Try.ntmps6
      go_wp2_with fail
      refine (ca _).mono ?_
      rintro e w0 ⟨rfl, hw0⟩
      subst hw0
      go_wp2_with fail
      refine (cb _).mono ?_
      rintro e w0 ⟨rfl, hw0⟩
      subst hw0
      go_wp2_with fail
      refine (cm _).mono ?_
      rintro e w0 ⟨rfl, hw0⟩
      subst hw0
      go_wp2
      refine bodyPost_ret (v := .tuple #[.agg #[.int .u64 L, .int .u64 H], .bool true]) (by simp [results, Try.results6, go_sem]) rfl ⟨rfl, rfl⟩

end Go.Proofs.Qxb6628885a
