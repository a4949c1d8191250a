/-
  The statement: ParseDigits answers exactly the decimal value. The frame is the seat's own shell.
-/
import Derived.Test.Qxb6628885aSame
import Derived.WalkKit
import Derived.ProofKit
import Derived.OpenShut
import Derived.ShutString
namespace Go.Proofs.Qxb6628885a.fnParseDigitsExact
open Go.ChangeShapes Go.WideShapes Go.ChangeAt Go.RowKit
open Go.ChangeMaps (open_string shut_string)
set_option linter.unusedVariables false      -- a walk need not use every 'w<i>' (that an integer argument fits its kind)

theorem own : ownKnob Try.prog.godebug = none := by kernel_rfl

theorem bytes_any (a0 : ByteArray) (h : a0.size ≤ 1048576) (w : World) :
    Calls Try.prog 5 #[.string a0] w fun e w' => e = .returned (.bool true) ∧ w' = w := by
  go_enter Try.func5, Try.ntmps5
  go_wp2
  go_ret
  exact ⟨rfl, rfl⟩

/-! ### STEP 1: THE WALK: the Go text returns true. 'Grown w w'': the world has at most new blocks (Derived/RowKit3.lean). Part the cases AHEAD of 'go_enter' where a test parts the walk; take each callee by a contract of your own. -/
theorem walk (a0 : ByteArray) (w0 : a0.size ≤ maxLen) (w : World) :
    Calls Try.prog 3 #[.string a0] w fun e w' => e = .returned (.bool true) ∧ Grown w w' := by
  by_cases k1 : a0.size ≤ 1048576
  rotate_left
  · go_enter Try.func3, Try.ntmps3
    go_wp2
    go_ret
    exact ⟨rfl, by repeat (first | exact Grown.refl _ | apply Grown.drew | apply Grown.alloc)⟩
  by_cases k2 : a0.size ≤ 4096
  rotate_left
  · go_enter Try.func3, Try.ntmps3
    go_wp2
    go_ret
    exact ⟨rfl, by repeat (first | exact Grown.refl _ | apply Grown.drew | apply Grown.alloc)⟩
  have c1 := parse_any a0 w0
  have c2 := isDigits_any a0 w0
  have hnum : isDigs a0 = true → a0.size ≤ 38 ∧ a0.data.toList.all isD = true ∧ numOf a0 = dval a0.data.toList := by
    intro h
    have e : numOf a0 = dval a0.data.toList := by rw [numOf, if_pos h]
    simp only [isDigs, Bool.and_eq_true, decide_eq_true_eq] at h
    exact ⟨h.1.2, h.2, e⟩
  have hzero : isDigs a0 = false → numOf a0 = 0 := by intro h; simp [numOf, h]
  obtain ⟨B, hB⟩ : ∃ B, isDigs a0 = B := ⟨_, rfl⟩
  obtain ⟨N, hN⟩ : ∃ N, numOf a0 = N := ⟨_, rfl⟩
  rw [hB, hN] at c1
  rw [hB] at c2
  rw [hB, hN] at hnum hzero
  clear hB hN
  cases B
  · obtain rfl := hzero rfl
    clear hnum hzero
    have same := eq_pair 0 0
    have c1 : ∀ w, Calls Try.prog 6 #[.string a0] w fun e w' => e = .returned (.tuple #[.agg #[.int .u64 0, .int .u64 0], .bool false]) ∧ Grown w w' := c1
    go_enter Try.func3, Try.ntmps3
    go_wp2_with fail
    refine (bytes_any a0 k1 _).mono ?_
    rintro e w1 ⟨rfl, hw1⟩
    subst hw1
    go_wp2_with fail
    refine (c1 _).mono ?_
    rintro e w1 ⟨rfl, hw1⟩
    go_wp2_with fail
    refine (c2 _).mono ?_
    rintro e w2 ⟨rfl, hw2⟩
    subst hw2
    go_wp2
    go_ret
    refine ⟨rfl, ?_⟩
    repeat (first | exact hw1 | apply Grown.drew | apply Grown.alloc)
  · obtain ⟨h38, hall, rfl⟩ := hnum rfl
    have c3 := decimal_any a0 h38 hall
    have same := eq_pair
    obtain ⟨L, hL⟩ : ∃ L, lo (dval a0.data.toList) = L := ⟨_, rfl⟩
    obtain ⟨H, hH⟩ : ∃ H, hi (dval a0.data.toList) = H := ⟨_, rfl⟩
    rw [hL, hH] at c1 c3
    clear hnum hzero hall hL hH
    go_enter Try.func3, Try.ntmps3
    go_wp2_with fail
    refine (bytes_any a0 k1 _).mono ?_
    rintro e w1 ⟨rfl, hw1⟩
    subst hw1
    go_wp2_with fail
    refine (c1 _).mono ?_
    rintro e w1 ⟨rfl, hw1⟩
    go_wp2_with fail
    refine (c2 _).mono ?_
    rintro e w2 ⟨rfl, hw2⟩
    subst hw2
    go_wp2_with fail
    refine (c3 _).mono ?_
    rintro e w2 ⟨rfl, hw2⟩
    subst hw2
    go_wp2
    go_ret
    refine ⟨rfl, ?_⟩
    repeat (first | exact hw1 | apply Grown.drew | apply Grown.alloc)

/-! ### THE ROW's STEP: WRITTEN OUT: LEAVE IT -/
set_option maxRecDepth 100000 in
theorem lifted (os : Os) (started : os.Started) (H : Type) (enc : TypeId × Value → H) :
    ReturnsInHanded {} Try.checked os 3 .any (Rows.fnParseDigitsExactSpec.pre6 enc Try.prog Try.f3 Rows.fnParseDigitsExactRow.domain false) (Rows.fnParseDigitsExactSpec.post enc Try.prog Try.f3 false true false false) := by
  refine returnsInHanded_of_change (C := Try.checked) own started (by kernel_rfl) Try.func3
    (ChangeSpec.witness6 (enc := enc) (C := Try.checked) false ⟨#[], #[.string ByteArray.empty], []⟩ 8 (by kernel_rfl) (by kernel_rfl) (by kernel_rfl) (by kernel_rfl)) ?_
  intro W base args ds gs before hval0 hW hcnd _
  have hval : ∀ (j : Nat) t v, Try.f3.params[j]? = some t → args[j]? = some v → Value.okWide Try.prog W .any base t v := hval0
  have hW' := hW
  obtain ⟨p, q, hA0, hV, rfl, hfz, hnd⟩ := hW
  have hA : DataW.TrodAll enc Try.prog W 0 (fun _ => true) true Try.f3.params.toList args.toList ds p := hA0
  rw [Try.params3] at hA hval
  obtain ⟨v0, vs0, d0, ds0, p0, q0, hargs, rfl, rfl, h0, r0⟩ := trodAll_cons hA
  obtain ⟨rfl, rfl, rfl⟩ := trodAll_nil r0
  obtain rfl : args = #[v0] := by cases args; simp_all
  obtain ⟨rfl, rfl⟩ := trodVars_none hV
  obtain ⟨a0, rfl, rfl, rfl, w0⟩ := open_string Try.underlying9 (hval 0 9 v0 rfl rfl) h0
  clear hA0 hval0
  simp only [List.append_nil] at hW'
  refine (walk a0 w0 W).mono fun e W' ⟨he, hg⟩ => ?_
  subst he
  exact ⟨_, rfl, post_of_same (pa := []) (pv := []) hW' (fun _ _ _ => (trodAll_cons_mk (shut_bool Try.underlying4 _) trodAll_mk0)) (fun sp _ => (trodAll_cons_mk (shut_string Try.underlying9 w0) trodAll_mk0)) (fun _ _ => rfl) rfl
    (hg.frame _) hg.2.1 (ok_one (by kernel_rfl) rfl (okWide_bool_mk Try.underlying4 _))⟩

theorem over : Rows.fnParseDigitsExactRow.holds Try.pinned (OpenSpec.ofChange Rows.fnParseDigitsExactSpec) :=
  OpenClaim.holds_of_wide 3 Try.f3 rfl rfl rfl rfl rfl rfl rfl ⟨rfl, rfl, rfl, rfl, rfl⟩ rfl rfl rfl rfl rfl (by kernel_rfl) Try.func3 (by kernel_rfl)
    (of_decide_eq_true (by kernel_rfl)) (by unfold Func.isWrapper; first | (rw [if_pos (by decide +kernel)]; kernel_rfl) | (rw [if_neg (by decide +kernel)]; exact ⟨rfl, rfl⟩))
    (fun os started H enc _ => lifted os started H enc)

/-- ████ THE STATEMENT ████ -/
theorem proved : Rows.FnParseDigitsExactSaid :=
  over
end Go.Proofs.Qxb6628885a.fnParseDigitsExact
namespace Go.Proofs.Qxb6628885a
theorem parse_digits_exact : Rows.FnParseDigitsExactSaid := fnParseDigitsExact.proved
#print axioms parse_digits_exact
end Go.Proofs.Qxb6628885a
