/-
  The statement: the value of two digit texts joined. The frame is the seat's own shell.
-/
import Derived.Test.Qxb6628885aLaid
import Derived.WalkKit
import Derived.ProofKit
import Derived.OpenShut
import Derived.ShutString
namespace Go.Proofs.Qxb6628885a.fnParseDigitsConcat
open Go.ChangeShapes Go.WideShapes Go.ChangeAt Go.RowKit
open Go.ChangeMaps (open_string shut_string)
set_option linter.unusedVariables false      -- a walk need not use every 'w<i>' (that an integer argument fits its kind)

theorem own : ownKnob Try.prog.godebug = none := by kernel_rfl

def IsBool (e : Ending) : Prop := ∃ b, e = .returned (.bool b)
theorem isBool (b : Bool) : IsBool (.returned (.bool b)) := ⟨b, rfl⟩
theorem bytes_any (a0 a1 : ByteArray) (w : World) :
    Calls Try.prog 9 #[.string a0, .string a1] w fun e w' => IsBool e ∧ w' = w := by
  by_cases k1 : a0.size ≤ 1048576
  rotate_left
  · go_enter Try.func9, Try.ntmps9
    go_wp2
    go_ret
    exact ⟨isBool _, rfl⟩
  by_cases k2 : a1.size ≤ 1048576
  rotate_left
  · go_enter Try.func9, Try.ntmps9
    go_wp2
    go_ret
    exact ⟨isBool _, rfl⟩
  go_enter Try.func9, Try.ntmps9
  go_wp2
  all_goals (go_ret; exact ⟨isBool _, rfl⟩)

theorem num_of (s : ByteArray) (h : isDigs s = true) : numOf s = dval s.data.toList := by rw [numOf, if_pos h]

/-! ### STEP 1: THE WALK: the Go text returns true. 'Grown w w'': the world has at most new blocks (Derived/RowKit3.lean). Part the cases AHEAD of 'go_enter' where a test parts the walk; take each callee by a contract of your own. -/
set_option maxRecDepth 100000 in
set_option maxHeartbeats 4000000 in
theorem walk (a0 : ByteArray) (a1 : ByteArray) (w0 : a0.size ≤ maxLen) (w1 : a1.size ≤ maxLen) (w : World) :
    Calls Try.prog 4 #[.string a0, .string a1] w fun e w' => e = .returned (.bool true) ∧ Grown w w' := by
  go_enter Try.func4, Try.ntmps4
  go_wp2_with fail
  refine (bytes_any a0 a1 _).mono ?_
  rintro e w2 ⟨⟨b, rfl⟩, hw2⟩
  have hw2 := hw2.symm
  subst hw2
  cases b
  · go_wp2
    go_ret
    exact ⟨rfl, Grown.refl _⟩
  by_cases k1 : a0.size ≤ 4096
  rotate_left
  · go_wp2
    go_ret
    exact ⟨rfl, Grown.refl _⟩
  by_cases k2 : a1.size ≤ 4096
  rotate_left
  · go_wp2
    go_ret
    exact ⟨rfl, Grown.refl _⟩
  have wj : (a0 ++ a1).size ≤ maxLen := by rw [ByteArray.size_append]; unfold maxLen; omega
  have ca := parse_laid a0 w0
  have cb := parse_laid a1 w1
  have cj := parse_laid (a0 ++ a1) wj
  have da := isDigits_any a0 w0
  have db := isDigits_any a1 w1
  have dj := isDigits_any (a0 ++ a1) wj
  have hval : isDigs a0 = true → isDigs a1 = true → isDigs (a0 ++ a1) = true → numOf (a0 ++ a1) = numOf a0 * 10 ^ a1.size + numOf a1 := by
    intro h1 h2 h3
    rw [num_of _ h1, num_of _ h2, num_of _ h3]
    have e : (a0 ++ a1).data.toList = a0.data.toList ++ a1.data.toList := by rw [ByteArray.data_append, Array.toList_append]
    rw [e, dval_append, len_list]
  obtain ⟨A, hA⟩ : ∃ A, isDigs a0 = A := ⟨_, rfl⟩
  obtain ⟨B, hB⟩ : ∃ B, isDigs a1 = B := ⟨_, rfl⟩
  obtain ⟨J, hJ⟩ : ∃ J, isDigs (a0 ++ a1) = J := ⟨_, rfl⟩
  obtain ⟨M, hM⟩ : ∃ M, numOf a0 = M := ⟨_, rfl⟩
  obtain ⟨N, hN⟩ : ∃ N, numOf a1 = N := ⟨_, rfl⟩
  obtain ⟨K, hK⟩ : ∃ K, numOf (a0 ++ a1) = K := ⟨_, rfl⟩
  rw [hA] at da
  rw [hB] at db
  rw [hJ] at dj
  rw [hA, hM] at ca
  rw [hB, hN] at cb
  rw [hJ, hK] at cj
  rw [hA, hB, hJ, hK, hM, hN] at hval
  clear hA hB hJ hM hN hK wj
  by_cases ht : A = true ∧ B = true ∧ J = true
  rotate_left
  · clear hval
    go_wp2_with fail
    refine (ca _).mono ?_
    rintro e w2 ⟨rfl, hw2⟩
    subst hw2
    go_wp2_with fail
    refine (cb _).mono ?_
    rintro e w2 ⟨rfl, hw2⟩
    subst hw2
    go_wp2_with fail
    refine (cj _).mono ?_
    rintro e w2 ⟨rfl, hw2⟩
    subst hw2
    go_wp2_with fail
    refine (da _).mono ?_
    rintro e w2 ⟨rfl, hw2⟩
    subst hw2
    cases A <;> cases B <;> cases J <;> first | (exact absurd ⟨rfl, rfl, rfl⟩ ht) | skip
    all_goals (
      clear ht
      go_wp2_with fail
      refine (db _).mono ?_
      rintro e w2 ⟨rfl, hw2⟩
      subst hw2
      go_wp2_with fail
      refine (dj _).mono ?_
      rintro e w2 ⟨rfl, hw2⟩
      subst hw2
      go_wp2
      go_ret
      refine ⟨rfl, ?_⟩
      repeat (first | exact Grown.refl _ | apply Grown.drew | apply Grown.alloc))
  obtain ⟨rfl, rfl, rfl⟩ := ht
  have hK := (hval rfl rfl rfl).symm
  clear hval
  have same := eq_pair
  go_wp2_with fail
  refine (ca _).mono ?_
  rintro e w2 ⟨rfl, hw2⟩
  subst hw2
  go_wp2_with fail
  refine (cb _).mono ?_
  rintro e w2 ⟨rfl, hw2⟩
  subst hw2
  go_wp2_with fail
  refine (cj _).mono ?_
  rintro e w2 ⟨rfl, hw2⟩
  subst hw2
  go_wp2_with fail
  refine (da _).mono ?_
  rintro e w2 ⟨rfl, hw2⟩
  subst hw2
  go_wp2_with fail
  refine (db _).mono ?_
  rintro e w2 ⟨rfl, hw2⟩
  subst hw2
  go_wp2_with fail
  refine (dj _).mono ?_
  rintro e w2 ⟨rfl, hw2⟩
  subst hw2
  go_wp2_with fail
  go_loop [12, 13, 14] (fun l h i => ∃ k V : Nat, k ≤ a1.size ∧ i = .int .i64 k ∧ l = .int .u64 (lo V : Nat) ∧ h = .int .u64 (hi V : Nat) ∧ M * 10 ^ k = V) (fun _ _ i => a1.size - (intOf i).toNat)
  case atStart => exact ⟨0, M, Nat.zero_le _, rfl, rfl, rfl, by simp⟩
  case round =>
    obtain ⟨k, V, hk, rfl, rfl, rfl, hV⟩ := hrel
    by_cases hlt : k < a1.size
    · have hV2 : M * 10 ^ (k + 1) = V * 10 := by rw [Nat.pow_succ, ← Nat.mul_assoc, hV]
      clear hV hK
      go_wp2_with fail
      refine (times10_any V _).mono ?_
      rintro e w2 ⟨rfl, hw2⟩
      subst hw2
      go_wp2
      go_round
      case rel => exact ⟨k + 1, V * 10, by omega, by go_num, rfl, rfl, hV2⟩
      case measure => simp [intOf]; omega
    · have hk' : k = a1.size := by omega
      subst hk'
      rw [hV] at hK
      clear hV
      go_wp2_with fail
      have c := add128_any V N
      rw [hK] at c
      clear hK
      refine (c _).mono ?_
      rintro e w2 ⟨rfl, hw2⟩
      subst hw2
      go_wp2
      go_ret
      refine ⟨rfl, ?_⟩
      repeat (first | exact Grown.refl _ | apply Grown.drew | apply Grown.alloc)

/-! ### THE ROW's STEP: WRITTEN OUT: LEAVE IT -/
set_option maxRecDepth 100000 in
theorem lifted (os : Os) (started : os.Started) (H : Type) (enc : TypeId × Value → H) :
    ReturnsInHanded {} Try.checked os 4 .any (Rows.fnParseDigitsConcatSpec.pre6 enc Try.prog Try.f4 Rows.fnParseDigitsConcatRow.domain false) (Rows.fnParseDigitsConcatSpec.post enc Try.prog Try.f4 false true false false) := by
  refine returnsInHanded_of_change (C := Try.checked) own started (by kernel_rfl) Try.func4
    (ChangeSpec.witness6 (enc := enc) (C := Try.checked) false ⟨#[], #[.string ByteArray.empty, .string ByteArray.empty], []⟩ 8 (by kernel_rfl) (by kernel_rfl) (by kernel_rfl) (by kernel_rfl)) ?_
  intro W base args ds gs before hval0 hW hcnd _
  have hval : ∀ (j : Nat) t v, Try.f4.params[j]? = some t → args[j]? = some v → Value.okWide Try.prog W .any base t v := hval0
  have hW' := hW
  obtain ⟨p, q, hA0, hV, rfl, hfz, hnd⟩ := hW
  have hA : DataW.TrodAll enc Try.prog W 0 (fun _ => true) true Try.f4.params.toList args.toList ds p := hA0
  rw [Try.params4] at hA hval
  obtain ⟨v0, vs0, d0, ds0, p0, q0, hargs, rfl, rfl, h0, r0⟩ := trodAll_cons hA
  obtain ⟨v1, vs1, d1, ds1, p1, q1, rfl, rfl, rfl, h1, r1⟩ := trodAll_cons r0
  obtain ⟨rfl, rfl, rfl⟩ := trodAll_nil r1
  obtain rfl : args = #[v0, v1] := by cases args; simp_all
  obtain ⟨rfl, rfl⟩ := trodVars_none hV
  obtain ⟨a0, rfl, rfl, rfl, w0⟩ := open_string Try.underlying9 (hval 0 9 v0 rfl rfl) h0
  obtain ⟨a1, rfl, rfl, rfl, w1⟩ := open_string Try.underlying9 (hval 1 9 v1 rfl rfl) h1
  clear hA0 hval0
  simp only [List.append_nil] at hW'
  refine (walk a0 a1 w0 w1 W).mono fun e W' ⟨he, hg⟩ => ?_
  subst he
  exact ⟨_, rfl, post_of_same (pa := []) (pv := []) hW' (fun _ _ _ => (trodAll_cons_mk (shut_bool Try.underlying4 _) trodAll_mk0)) (fun sp _ => (trodAll_cons_mk (shut_string Try.underlying9 w0) (trodAll_cons_mk (shut_string Try.underlying9 w1) trodAll_mk0))) (fun _ _ => rfl) rfl
    (hg.frame _) hg.2.1 (ok_one (by kernel_rfl) rfl (okWide_bool_mk Try.underlying4 _))⟩

theorem over : Rows.fnParseDigitsConcatRow.holds Try.pinned (OpenSpec.ofChange Rows.fnParseDigitsConcatSpec) :=
  OpenClaim.holds_of_wide 4 Try.f4 rfl rfl rfl rfl rfl rfl rfl ⟨rfl, rfl, rfl, rfl, rfl⟩ rfl rfl rfl rfl rfl (by kernel_rfl) Try.func4 (by kernel_rfl)
    (of_decide_eq_true (by kernel_rfl)) (by unfold Func.isWrapper; first | (rw [if_pos (by decide +kernel)]; kernel_rfl) | (rw [if_neg (by decide +kernel)]; exact ⟨rfl, rfl⟩))
    (fun os started H enc _ => lifted os started H enc)

/-- ████ THE STATEMENT ████ -/
theorem proved : Rows.FnParseDigitsConcatSaid :=
  over
end Go.Proofs.Qxb6628885a.fnParseDigitsConcat
namespace Go.Proofs.Qxb6628885a
theorem parse_digits_concat : Rows.FnParseDigitsConcatSaid := fnParseDigitsConcat.proved
#print axioms parse_digits_concat
end Go.Proofs.Qxb6628885a
