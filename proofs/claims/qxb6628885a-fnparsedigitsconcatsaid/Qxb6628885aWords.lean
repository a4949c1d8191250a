/-
  The program's arithmetic of two words: math/bits.Add64 and Mul64, zzAdd128 and zzTimes10.
-/
import Derived.Test.Qxb6628885aRows
import Derived.Test.Qxb6628885aNum
import Derived.WalkKit
import Derived.WalkLawsBesides
import Derived.Laws.Externs
import Derived.Laws.Bits64b
import Derived.Lib.Mul64
import Derived.RowKit3
namespace Go.Proofs.Qxb6628885a
open Go.RowKit Go.Lib

theorem add64_0 (x y : Int) (hx : 0 ≤ x) (hy : 0 ≤ y) (w : World) : (callFunc 14 #[.int .u64 x, .int .u64 y, .int .u64 0]).run Try.prog w =
    .ok (.value (.tuple #[.int .u64 ((x + y) % 18446744073709551616), .int .u64 ((x + y) / 18446744073709551616)])) w := by
  rw [run_callFunc_extern Try.func14 (by kernel_rfl) (by kernel_rfl) (by kernel_rfl) (e := add64Entry) (by kernel_rfl)]
  have h := run_add64 (P := Try.prog) x y 0 hx hy (Int.le_refl 0) (by decide) w
  simp only [Int.add_zero] at h
  rw [h]
  rfl

theorem maskN (a : Nat) (ha : a < 18446744073709551616) : bits .and .u64 (a : Int) 4294967295 = ((a % 4294967296 : Nat) : Int) := by
  have h := bits_and_u64_nat a 4294967295 ha (by omega)
  have e : a &&& 4294967295 = a % 4294967296 := Nat.and_two_pow_sub_one_eq_mod a 32
  rw [e] at h
  exact h
theorem divN (a : Nat) : (a : Int) / 4294967296 = ((a / 4294967296 : Nat) : Int) := by omega
theorem mulN (a b : Nat) : (a : Int) * (b : Int) = ((a * b : Nat) : Int) := (Int.natCast_mul a b).symm
theorem addN (a b : Nat) : (a : Int) + (b : Int) = ((a + b : Nat) : Int) := (Int.natCast_add a b).symm
theorem wrapN (a : Nat) (ha : a < 18446744073709551616) : IntKind.u64.wrap (a : Int) = (a : Int) := by rw [IntKind.wrap_u64]; omega
theorem wrapM (a : Nat) : IntKind.u64.wrap (a : Int) = ((a % 18446744073709551616 : Nat) : Int) := by rw [IntKind.wrap_u64]; omega

set_option maxRecDepth 100000 in
set_option maxHeartbeats 1000000 in
theorem mul64_any (x y : Nat) (hx : x < 18446744073709551616) (hy : y < 18446744073709551616) (w : World) :
    Calls Try.prog 13 #[.int .u64 x, .int .u64 y] w fun e w' => e = .returned (.tuple #[.int .u64 ((x * y / 18446744073709551616 : Nat) : Int), .int .u64 ((x * y % 18446744073709551616 : Nat) : Int)]) ∧ w' = w := by
  obtain ⟨bd, bt, bw, hhi⟩ := Lib.mul64_hi x y hx hy
  have ba := Lib.half_mul_le (a := x / 4294967296) (b := y / 4294967296) (by omega) (by omega)
  have bb := Lib.half_mul_le (a := x / 4294967296) (b := y % 4294967296) (by omega) (by omega)
  have bc := Lib.half_mul_le (a := x % 4294967296) (b := y / 4294967296) (by omega) (by omega)
  have ba' : x / 4294967296 * (y / 4294967296) < 18446744073709551616 := by omega
  have bb' : x / 4294967296 * (y % 4294967296) < 18446744073709551616 := by omega
  have bc' : x % 4294967296 * (y / 4294967296) < 18446744073709551616 := by omega
  have bh1 : x / 4294967296 * (y / 4294967296) + (x / 4294967296 * (y % 4294967296) + x % 4294967296 * (y % 4294967296) / 4294967296) / 4294967296 < 18446744073709551616 := by omega
  have bh : x / 4294967296 * (y / 4294967296) + (x / 4294967296 * (y % 4294967296) + x % 4294967296 * (y % 4294967296) / 4294967296) / 4294967296 + ((x / 4294967296 * (y % 4294967296) + x % 4294967296 * (y % 4294967296) / 4294967296) % 4294967296 + x % 4294967296 * (y / 4294967296)) / 4294967296 < 18446744073709551616 := by omega
  go_enter Try.func13, Try.ntmps13
  go_wp2
  simp only [maskN x hx, maskN y hy, divN, mulN, addN, wrapN _ bd, wrapN _ bb', wrapN _ bt, maskN _ bt, wrapN _ bc', wrapN _ bw, wrapN _ ba', wrapN _ bh1, wrapN _ bh, wrapM (x * y)]
  rw [hhi]
  go_ret2
  exact ⟨rfl, rfl⟩

/-- The two words of a number. -/
def lo (n : Nat) : Nat := n % 18446744073709551616
def hi (n : Nat) : Nat := n / 18446744073709551616 % 18446744073709551616

theorem lo_lt (n : Nat) : lo n < 18446744073709551616 := by unfold lo; omega
theorem hi_lt (n : Nat) : hi n < 18446744073709551616 := by unfold hi; omega

set_option maxRecDepth 100000 in
theorem add128_words (a b c d : Nat) (ha : a < 18446744073709551616) (hc : c < 18446744073709551616) (w : World) :
    Calls Try.prog 11 #[.int .u64 a, .int .u64 b, .int .u64 c, .int .u64 d] w fun e w' => e = .returned (.tuple #[.int .u64 (((a + c) % 18446744073709551616 : Nat) : Int), .int .u64 (((b + d + (a + c) / 18446744073709551616) % 18446744073709551616 : Nat) : Int)]) ∧ w' = w := by
  have k0 : ∃ s t u : Nat, (a + c) % 18446744073709551616 = s ∧ (b + d + (a + c) / 18446744073709551616) % 18446744073709551616 = t ∧ (b + d) % 18446744073709551616 = u := ⟨_, _, _, rfl, rfl, rfl⟩
  obtain ⟨s, t, u, hs, ht, hu⟩ := k0
  rw [hs, ht]
  have e1 : IntKind.u64.wrap ((a : Int) + c) = (s : Int) := by rw [IntKind.wrap_u64]; omega
  have e3 : IntKind.u64.wrap ((b : Int) + d) = (u : Int) := by rw [IntKind.wrap_u64]; omega
  by_cases h : a + c < 18446744073709551616
  · have e2 : ¬ ((s : Int) < (a : Int)) := by omega
    have e4 : u = t := by omega
    have e5 : u < 18446744073709551616 := by omega
    clear hs ht hu
    subst e4
    go_enter Try.func11, Try.ntmps11
    go_wp2
    go_ret2
    exact ⟨rfl, rfl⟩
  · have e2 : ((s : Int) < (a : Int)) := by omega
    have e4 : IntKind.u64.wrap ((u : Int) + 1) = (t : Int) := by rw [IntKind.wrap_u64]; omega
    clear hs ht hu
    go_enter Try.func11, Try.ntmps11
    go_wp2
    go_ret2
    exact ⟨rfl, rfl⟩

theorem or8 (a b : Nat) (ha : a < 18446744073709551616) : bits .or .u64 (IntKind.u64.wrap ((b : Int) * 8)) ((a : Int) / 2305843009213693952) = ((8 * (b % 2305843009213693952) + a / 2305843009213693952 : Nat) : Int) := by
  have e1 : IntKind.u64.wrap ((b : Int) * 8) = ((8 * (b % 2305843009213693952) : Nat) : Int) := by rw [IntKind.wrap_u64]; omega
  have e2 : (a : Int) / 2305843009213693952 = ((a / 2305843009213693952 : Nat) : Int) := by omega
  have h := Nat.two_pow_add_eq_or_of_lt (i := 3) (b := a / 2305843009213693952) (by omega) (b % 2305843009213693952)
  rw [e1, e2, bits_or_u64_nat _ _ (by omega) (by omega)]
  simp only [show (2 : Nat) ^ 3 = 8 from rfl] at h
  rw [← h]
theorem or2 (a b : Nat) (ha : a < 18446744073709551616) : bits .or .u64 (IntKind.u64.wrap ((b : Int) * 2)) ((a : Int) / 9223372036854775808) = ((2 * (b % 9223372036854775808) + a / 9223372036854775808 : Nat) : Int) := by
  have e1 : IntKind.u64.wrap ((b : Int) * 2) = ((2 * (b % 9223372036854775808) : Nat) : Int) := by rw [IntKind.wrap_u64]; omega
  have e2 : (a : Int) / 9223372036854775808 = ((a / 9223372036854775808 : Nat) : Int) := by omega
  have h := Nat.two_pow_add_eq_or_of_lt (i := 1) (b := a / 9223372036854775808) (by omega) (b % 9223372036854775808)
  rw [e1, e2, bits_or_u64_nat _ _ (by omega) (by omega)]
  simp only [show (2 : Nat) ^ 1 = 2 from rfl] at h
  rw [← h]

set_option maxRecDepth 100000 in
theorem times10_words (a b : Nat) (ha : a < 18446744073709551616) (w : World) :
    Calls Try.prog 10 #[.int .u64 a, .int .u64 b] w fun e w' => e = .returned (.tuple #[.int .u64 ((a * 10 % 18446744073709551616 : Nat) : Int), .int .u64 (((b * 10 + a * 10 / 18446744073709551616) % 18446744073709551616 : Nat) : Int)]) ∧ w' = w := by
  have k0 : ∃ p q r s t u : Nat, a * 8 % 18446744073709551616 = p ∧ a * 2 % 18446744073709551616 = q ∧ 8 * (b % 2305843009213693952) + a / 2305843009213693952 = r ∧ 2 * (b % 9223372036854775808) + a / 9223372036854775808 = s ∧
    a * 10 % 18446744073709551616 = t ∧ (b * 10 + a * 10 / 18446744073709551616) % 18446744073709551616 = u := ⟨_, _, _, _, _, _, rfl, rfl, rfl, rfl, rfl, rfl⟩
  obtain ⟨p, q, r, s, t, u, hp, hq, hr, hs, ht, hu⟩ := k0
  rw [ht, hu]
  have e1 : IntKind.u64.wrap ((a : Int) * 8) = (p : Int) := by rw [IntKind.wrap_u64]; omega
  have e2 : IntKind.u64.wrap ((a : Int) * 2) = (q : Int) := by rw [IntKind.wrap_u64]; omega
  have e3 := or8 a b ha
  have e4 := or2 a b ha
  rw [hr] at e3
  rw [hs] at e4
  have c := add128_words p r q s (by omega) (by omega) w
  have hC : a * 10 / 18446744073709551616 = (p + q) / 18446744073709551616 + (a / 2305843009213693952 + a / 9223372036854775808) := by
    rw [show a * 10 = (p + q) + 18446744073709551616 * (a / 2305843009213693952 + a / 9223372036854775808) by omega, Nat.add_mul_div_left _ _ (by decide)]
  rw [hC] at hu
  rw [show (p + q) % 18446744073709551616 = t by omega, show (r + s + (p + q) / 18446744073709551616) % 18446744073709551616 = u by
    clear e1 e2 e3 e4 ht hp hq hC
    generalize (p + q) / 18446744073709551616 = z at hu ⊢
    generalize a / 2305843009213693952 = x at hu hr ⊢
    generalize a / 9223372036854775808 = y at hu hs ⊢
    omega] at c
  clear hp hq hr hs ht hu
  go_enter Try.func10, Try.ntmps10
  go_wp2_with fail
  refine c.mono ?_
  rintro e w0 ⟨rfl, hw0⟩
  have hw0 := hw0.symm
  subst hw0
  go_wp2
  go_ret2
  exact ⟨rfl, rfl⟩

/-! The same, said of whole numbers. -/
theorem lo_eq (n : Nat) : ((n : Int) % 18446744073709551616) = (lo n : Nat) := by unfold lo; omega

theorem add128_any (n m : Nat) (w : World) :
    Calls Try.prog 11 #[.int .u64 (lo n : Nat), .int .u64 (hi n : Nat), .int .u64 (lo m : Nat), .int .u64 (hi m : Nat)] w fun e w' => e = .returned (.tuple #[.int .u64 (lo (n + m) : Nat), .int .u64 (hi (n + m) : Nat)]) ∧ w' = w := by
  refine (add128_words _ _ _ _ (lo_lt n) (lo_lt m) w).mono ?_
  rintro e w' ⟨rfl, hw⟩
  refine ⟨?_, hw⟩
  rw [show (lo n + lo m) % 18446744073709551616 = lo (n + m) by unfold lo; omega, show (hi n + hi m + (lo n + lo m) / 18446744073709551616) % 18446744073709551616 = hi (n + m) by unfold lo hi; omega]
theorem hi10 (n : Nat) : (hi n * 10 + lo n * 10 / 18446744073709551616) % 18446744073709551616 = hi (n * 10) := by
  unfold lo hi
  rw [show n * 10 = n % 18446744073709551616 * 10 + 18446744073709551616 * (n / 18446744073709551616 * 10) by omega, Nat.add_mul_div_left _ _ (by decide)]
  generalize n % 18446744073709551616 * 10 / 18446744073709551616 = e
  omega
theorem times10_any (n : Nat) (w : World) :
    Calls Try.prog 10 #[.int .u64 (lo n : Nat), .int .u64 (hi n : Nat)] w fun e w' => e = .returned (.tuple #[.int .u64 (lo (n * 10) : Nat), .int .u64 (hi (n * 10) : Nat)]) ∧ w' = w := by
  refine (times10_words _ _ (lo_lt n) w).mono ?_
  rintro e w' ⟨rfl, hw⟩
  refine ⟨?_, hw⟩
  rw [show (lo n * 10) % 18446744073709551616 = lo (n * 10) by unfold lo; omega, hi10 n]

end Go.Proofs.Qxb6628885a
