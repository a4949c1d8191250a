/-
  The program's readers of digits: zzIsDigits, parseWord, zzDecimal128.
-/
import Derived.Test.Qxb6628885aWords
namespace Go.Proofs.Qxb6628885a
open Go.RowKit

def isDigs (s : ByteArray) : Bool := decide (0 < s.size) && decide (s.size ≤ 38) && s.data.toList.all isD

theorem take_all (s : ByteArray) : s.data.toList.take s.size = s.data.toList := by
  apply List.take_of_length_le; simp

set_option maxRecDepth 100000 in
set_option maxHeartbeats 1000000 in
theorem isDigits_any (s : ByteArray) (hs : s.size ≤ maxLen) (w : World) :
    Calls Try.prog 7 #[.string s] w fun e w' => e = .returned (.bool (isDigs s)) ∧ w' = w := by
  by_cases h0 : 0 < s.size
  rotate_left
  · have e0 : isDigs s = false := by simp [isDigs, h0]
    rw [e0]
    obtain rfl : s = ByteArray.empty := ByteArray.ext (by apply Array.eq_empty_of_size_eq_zero; exact Nat.eq_zero_of_not_pos h0)
    go_enter Try.func7, Try.ntmps7
    go_wp2
    go_ret
    exact ⟨rfl, rfl⟩
  have z1 : ¬ s = ByteArray.empty := by intro e; rw [e] at h0; simp at h0
  have z2 : ((s.size : Int) == 0) = false := by rw [beq_eq_false_iff_ne]; omega
  by_cases h1 : s.size ≤ 38
  rotate_left
  · have e0 : isDigs s = false := by simp [isDigs, h1]
    rw [e0]
    go_enter Try.func7, Try.ntmps7
    go_wp2
    go_ret
    exact ⟨rfl, rfl⟩
  go_enter Try.func7, Try.ntmps7
  go_wp2
  go_loop [3] (fun i => ∃ k : Nat, k ≤ s.size ∧ i = .int .i64 k ∧ (s.data.toList.take k).all isD = true) (fun i => s.size - (intOf i).toNat)
  case atStart => exact ⟨0, Nat.zero_le _, rfl, rfl⟩
  case round =>
    obtain ⟨k, hk, rfl, hall⟩ := hrel
    by_cases hlt : k < s.size
    · by_cases c1 : s[k].toNat < 48
      · have e0 : isDigs s = false := by
          have := all_miss hlt (by simp [isD]; omega)
          simp [isDigs, this]
        go_wp2
        go_ret
        exact ⟨rfl, rfl⟩
      by_cases c2 : 57 < s[k].toNat
      · have e0 : isDigs s = false := by
          have := all_miss hlt (by simp [isD]; omega)
          simp [isDigs, this]
        go_wp2
        go_ret
        exact ⟨rfl, rfl⟩
      have hd := all_snoc hlt hall (by simp [isD]; omega)
      go_wp2
      go_round
      case rel => exact ⟨k + 1, by omega, by go_num, hd⟩
      case measure => simp [intOf]; omega
    · have hk' : k = s.size := by omega
      subst hk'
      rw [take_all] at hall
      have e0 : isDigs s = true := by simp [isDigs, h0, h1, hall]
      clear hall
      go_wp2
      go_ret
      exact ⟨rfl, rfl⟩

def wordOf (l : List UInt8) : Nat := if l.all isD then dval l else 0

theorem take_len (s : ByteArray) (k : Nat) (h : k ≤ s.size) : (s.data.toList.take k).length = k := by
  have : s.data.toList.length = s.size := by simp
  simp [List.length_take]; omega

set_option maxRecDepth 100000 in
set_option maxHeartbeats 1000000 in
theorem parseWord_any (s : ByteArray) (hs : s.size ≤ 19) (w : World) :
    Calls Try.prog 12 #[.string s] w fun e w' => e = .returned (.tuple #[.int .u64 (wordOf s.data.toList : Nat), .bool (s.data.toList.all isD)]) ∧ w' = w := by
  obtain ⟨A, hA⟩ : ∃ A, s.data.toList.all isD = A := ⟨_, rfl⟩
  obtain ⟨N, hN⟩ : ∃ N, wordOf s.data.toList = N := ⟨_, rfl⟩
  rw [hA, hN]
  go_enter Try.func12, Try.ntmps12
  go_wp2
  go_loop [4, 5] (fun v i => ∃ k V : Nat, k ≤ s.size ∧ i = .int .i64 k ∧ v = .int .u64 V ∧ V = dval (s.data.toList.take k) ∧ (s.data.toList.take k).all isD = true) (fun _ i => s.size - (intOf i).toNat)
  case atStart => exact ⟨0, 0, Nat.zero_le _, rfl, rfl, rfl, rfl⟩
  case round =>
    obtain ⟨k, V, hk, rfl, rfl, hV, hall⟩ := hrel
    by_cases hlt : k < s.size
    · by_cases c1 : s[k].toNat < 48
      · have h := all_miss hlt (by simp [isD]; omega)
        obtain rfl : A = false := by rw [← hA, h]
        obtain rfl : N = 0 := by rw [← hN, wordOf, h]; rfl
        clear hall h hA hN hV
        go_wp2
        go_ret2
        exact ⟨rfl, rfl⟩
      by_cases c2 : 57 < s[k].toNat
      · have h := all_miss hlt (by simp [isD]; omega)
        obtain rfl : A = false := by rw [← hA, h]
        obtain rfl : N = 0 := by rw [← hN, wordOf, h]; rfl
        clear hall h hA hN hV
        go_wp2
        go_ret2
        exact ⟨rfl, rfl⟩
      have hd := all_snoc hlt hall (by simp [isD]; omega)
      have hv : dval (s.data.toList.take (k + 1)) = V * 10 + (s[k].toNat - 48) := by rw [take_snoc s k hlt, dval_snoc, hV]
      have hb : V < 10 ^ 18 := by rw [hV]; exact dval_le_of _ hall (by rw [take_len s k hk]; omega)
      rw [pow18] at hb
      obtain ⟨d, hd1⟩ : ∃ d, s[k].toNat = d + 48 := ⟨s[k].toNat - 48, by omega⟩
      obtain ⟨T, hT⟩ : ∃ T, V * 10 = T := ⟨_, rfl⟩
      obtain ⟨U, hU⟩ : ∃ U, T + d = U := ⟨_, rfl⟩
      have e1 : IntKind.u8.wrap ((s[k].toNat : Int) - 48) = (d : Int) := by rw [IntKind.wrap_u8]; omega
      have e0 : IntKind.u64.wrap (d : Int) = (d : Int) := by rw [IntKind.wrap_u64]; omega
      have e2 : IntKind.u64.wrap ((V : Int) * 10) = (T : Int) := by rw [IntKind.wrap_u64]; omega
      have e3 : IntKind.u64.wrap ((T : Int) + (d : Int)) = (U : Int) := by rw [IntKind.wrap_u64]; omega
      have hU2 : dval (s.data.toList.take (k + 1)) = U := by rw [hv, hd1]; omega
      have c1' : 48 ≤ s[k].toNat := by omega
      have c2' : s[k].toNat ≤ 57 := by omega
      clear hv hV hall hd1 hT hU c1 c2 hA hN
      go_wp2
      go_round
      case rel => exact ⟨k + 1, U, by omega, by go_num, rfl, hU2.symm, hd⟩
      case measure => simp [intOf]; omega
    · have hk' : k = s.size := by omega
      subst hk'
      rw [take_all] at hall hV
      obtain rfl : A = true := by rw [← hA, hall]
      obtain rfl : N = V := by rw [← hN, wordOf, hall, hV]; rfl
      clear hall hV hA hN
      go_wp2
      go_ret2
      exact ⟨rfl, rfl⟩

set_option maxRecDepth 100000 in
set_option maxHeartbeats 1000000 in
theorem decimal_any (s : ByteArray) (hs : s.size ≤ 38) (hd : s.data.toList.all isD = true) (w : World) :
    Calls Try.prog 8 #[.string s] w fun e w' => e = .returned (.tuple #[.int .u64 (lo (dval s.data.toList) : Nat), .int .u64 (hi (dval s.data.toList) : Nat)]) ∧ w' = w := by
  obtain ⟨N, hN⟩ : ∃ N, dval s.data.toList = N := ⟨_, rfl⟩
  rw [hN]
  go_enter Try.func8, Try.ntmps8
  go_wp2
  go_loop [4, 5, 6] (fun a b i => ∃ k V : Nat, k ≤ s.size ∧ i = .int .i64 k ∧ a = .int .u64 (lo V : Nat) ∧ b = .int .u64 (hi V : Nat) ∧ V = dval (s.data.toList.take k)) (fun _ _ i => s.size - (intOf i).toNat)
  case atStart => exact ⟨0, 0, Nat.zero_le _, rfl, rfl, rfl, rfl⟩
  case round =>
    obtain ⟨k, V, hk, rfl, rfl, rfl, hV⟩ := hrel
    by_cases hlt : k < s.size
    · have hc : isD s[k] = true := by
        rw [List.all_eq_true] at hd
        exact hd _ (by have : s[k] = s.data.toList[k]'(by simpa using hlt) := rfl
                       rw [this]; exact List.getElem_mem _)
      simp [isD] at hc
      have hv : dval (s.data.toList.take (k + 1)) = V * 10 + (s[k].toNat - 48) := by rw [take_snoc s k hlt, dval_snoc, hV]
      obtain ⟨d, hd1⟩ : ∃ d, s[k].toNat = d + 48 := ⟨s[k].toNat - 48, by omega⟩
      have e1 : IntKind.u8.wrap ((s[k].toNat : Int) - 48) = (d : Int) := by rw [IntKind.wrap_u8]; omega
      have hld : (d : Int) = (lo d : Nat) := by unfold lo; omega
      have hld2 : (0 : Int) = (hi d : Nat) := by unfold hi; omega
      have e0 : IntKind.u64.wrap (d : Int) = (d : Int) := by rw [IntKind.wrap_u64]; omega
      have c : ∀ w1, Calls Try.prog 11 #[.int .u64 (lo (V * 10) : Nat), .int .u64 (hi (V * 10) : Nat), .int .u64 d, .int .u64 0] w1 fun e w' => e = .returned (.tuple #[.int .u64 (lo (V * 10 + d) : Nat), .int .u64 (hi (V * 10 + d) : Nat)]) ∧ w' = w1 := by
        intro w1
        have c := add128_any (V * 10) d w1
        rw [← hld, ← hld2] at c
        exact c
      have hU2 : dval (s.data.toList.take (k + 1)) = V * 10 + d := by rw [hv, hd1]; omega
      clear hv hV hd1 hd hld hld2 hc
      go_wp2_with fail
      refine (times10_any V _).mono ?_
      rintro e w0 ⟨rfl, hw0⟩
      have hw0 := hw0.symm
      subst hw0
      go_wp2_with fail
      refine (c _).mono ?_
      rintro e w0 ⟨rfl, hw0⟩
      have hw0 := hw0.symm
      subst hw0
      go_wp2
      go_round
      case rel => exact ⟨k + 1, V * 10 + d, by omega, by go_num, rfl, rfl, hU2.symm⟩
      case measure => simp [intOf]; omega
    · have hk' : k = s.size := by omega
      subst hk'
      rw [take_all, hN] at hV
      subst hV
      go_wp2
      go_ret2
      exact ⟨rfl, rfl⟩

end Go.Proofs.Qxb6628885a
