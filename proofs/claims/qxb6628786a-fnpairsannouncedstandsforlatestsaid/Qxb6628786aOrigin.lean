import Derived.Test.Qxb6628786aRows
import Derived.Test.Qxb6628786aBase
import Derived.WalkLawsBesides
namespace Go.Proofs.Qxb6628786a
open Go.RowKit

set_option maxHeartbeats 400000 in
theorem origin_any (ao : Option Addr) (b o cap : Nat) (l : List Ru) (w : World) (h : RSl w ao b o l) (hl : l.length ≤ maxLen) :
    Calls Try.prog 13 #[.slice ao l.length cap] w fun e w' => e = .returned (.tuple #[.string (originOf l).1, .bool (originOf l).2]) ∧ w' = w := by
  unfold maxLen at hl
  by_cases h1 : l.length = 1
  · obtain ⟨r, rfl⟩ := List.length_eq_one_iff.1 h1
    obtain rfl := h.1 (by simp)
    have c1 := (h.2 0 (by simp)).c1
    have c2 := (h.2 0 (by simp)).c2
    simp at c1 c2
    by_cases h2 : r.ml ≤ 1
    · have e : originOf [r] = (r.frm, true) := by simp [originOf, h2]
      rw [e]
      go_enter Try.func13, Try.ntmps13
      go_wp2
      go_ret2
      exact ⟨rfl, rfl⟩
    · have e : originOf [r] = (ByteArray.empty, false) := by simp [originOf, h2]
      rw [e]
      go_enter Try.func13, Try.ntmps13
      go_wp2
      go_ret2
      exact ⟨rfl, rfl⟩
  · have e : originOf l = (ByteArray.empty, false) := by
      match l, h1 with
      | [], _ => rfl
      | _ :: _ :: _, _ => rfl
    rw [e]
    go_enter Try.func13, Try.ntmps13
    go_wp2
    go_ret2
    exact ⟨rfl, rfl⟩

end Go.Proofs.Qxb6628786a
