/-
  Decimal digits, plainly.
-/
import Derived.WalkKit
namespace Go.Proofs.Qxb6628885a

def isD (c : UInt8) : Bool := decide (48 ≤ c.toNat) && decide (c.toNat ≤ 57)
def dstep (v : Nat) (c : UInt8) : Nat := v * 10 + (c.toNat - 48)
def dval (l : List UInt8) : Nat := l.foldl dstep 0

theorem dval_from (l : List UInt8) (v : Nat) : l.foldl dstep v = v * 10 ^ l.length + dval l := by
  induction l generalizing v with
  | nil => simp [dval]
  | cons c r ih =>
    have h1 := ih (dstep v c)
    have h2 := ih (dstep 0 c)
    simp only [List.foldl_cons, dval, List.length_cons] at h1 h2 ⊢
    rw [h1, h2]
    simp only [dstep, Nat.zero_mul, Nat.zero_add]
    rw [Nat.pow_succ, Nat.add_mul, Nat.mul_assoc, Nat.mul_comm 10 (10 ^ r.length)]
    omega
theorem dval_append (a b : List UInt8) : dval (a ++ b) = dval a * 10 ^ b.length + dval b := by
  unfold dval
  rw [List.foldl_append, dval_from]
  rfl
theorem dval_snoc (l : List UInt8) (c : UInt8) : dval (l ++ [c]) = dval l * 10 + (c.toNat - 48) := by
  unfold dval; rw [List.foldl_append]; rfl
theorem dval_lt (l : List UInt8) (h : l.all isD = true) : dval l < 10 ^ l.length := by
  induction l with
  | nil => simp [dval]
  | cons c r ih =>
    have hr : r.all isD = true := by simp only [List.all_cons, Bool.and_eq_true] at h; exact h.2
    have hc : isD c = true := by simp only [List.all_cons, Bool.and_eq_true] at h; exact h.1
    have h1 := ih hr
    have e : dval (c :: r) = (c.toNat - 48) * 10 ^ r.length + dval r := by
      have h2 := dval_from r (dstep 0 c)
      show List.foldl dstep (dstep 0 c) r = _
      rw [h2]
      simp only [dstep, Nat.zero_mul, Nat.zero_add]
    rw [e, List.length_cons, Nat.pow_succ]
    have hc9 : c.toNat - 48 ≤ 9 := by simp [isD] at hc; omega
    have := Nat.mul_le_mul_right (10 ^ r.length) hc9
    omega
theorem dval_le_of (l : List UInt8) (h : l.all isD = true) {n : Nat} (hn : l.length ≤ n) : dval l < 10 ^ n := Nat.lt_of_lt_of_le (dval_lt l h) (Nat.pow_le_pow_right (by omega) hn)

theorem pow18 : (10 : Nat) ^ 18 = 1000000000000000000 := by decide
theorem pow19 : (10 : Nat) ^ 19 = 10000000000000000000 := by decide
theorem pow38 : (10 : Nat) ^ 38 = 100000000000000000000000000000000000000 := by decide

theorem take_snoc (s : ByteArray) (k : Nat) (h : k < s.size) : s.data.toList.take (k + 1) = s.data.toList.take k ++ [s[k]] := by
  rw [List.take_succ_eq_append_getElem (by simpa using h)]; rfl
theorem all_snoc {s : ByteArray} {k : Nat} (h : k < s.size) (h1 : (s.data.toList.take k).all isD = true) (h2 : isD s[k] = true) : (s.data.toList.take (k + 1)).all isD = true := by
  rw [take_snoc s k h, List.all_append, h1]; simp [h2]
theorem all_miss {s : ByteArray} {k : Nat} (h : k < s.size) (h2 : isD s[k] = false) : s.data.toList.all isD = false := by
  rw [List.all_eq_false]
  exact ⟨s[k], by have : s[k] = s.data.toList[k]'(by simpa using h) := rfl
                  rw [this]; exact List.getElem_mem _, by simp [h2]⟩
end Go.Proofs.Qxb6628885a
