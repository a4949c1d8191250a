import Derived.Test.Qxb6628786aRows
import Derived.Test.Qxb6628786aBase
import Derived.WalkLawsBesides
namespace Go.Proofs.Qxb6628786a
open Go.RowKit

def IsBool (e : Ending) : Prop := ∃ b, e = .returned (.bool b)
theorem isBool (b : Bool) : IsBool (.returned (.bool b)) := ⟨b, rfl⟩

set_option maxRecDepth 100000 in
set_option maxHeartbeats 1600000 in
theorem bytes5_any (ro ao : Option Addr) (rb roff rc ab aoff ac : Nat) (l : List Ru) (m : List An) (n f x y : ByteArray) (mo : Option Addr) (ml mc : Nat) (w : World) (hr : RSl w ro rb roff l) (ha : ASl w ao ab aoff m) :
    Calls Try.prog 5 #[.slice ro l.length rc, .slice ao m.length ac, .string n, .string f, .slice mo ml mc, .string x, .string y] w fun e w' => IsBool e ∧ w' = w := by
  go_enter Try.func5, Try.ntmps5
  by_cases hl : l.length ≤ 1048576
  rotate_left
  · go_wp2
    go_ret
    exact ⟨isBool _, rfl⟩
  go_wp2
  go_loop [15, 16] (fun z i => ∃ k t : Nat, k ≤ l.length ∧ i = .int .i64 k ∧ t ≤ 1048576 ∧ z = .int .i64 t) (fun _ i => l.length - (intOf i).toNat)
  case atStart => exact ⟨0, l.length, Nat.zero_le _, rfl, hl, rfl⟩
  case round =>
    obtain ⟨k, t, hk, rfl, ht, rfl⟩ := hrel
    by_cases hlt : k < l.length
    · obtain rfl := hr.1 (by intro e; simp [e] at hlt)
      have c0 := (hr.2 k hlt).c0
      have c1 := (hr.2 k hlt).c1
      have c2 := (hr.2 k hlt).c2
      go_wp2
      all_goals first
        | (go_ret; exact ⟨isBool _, rfl⟩)
        | (go_round
           case rel => exact ⟨k + 1, t + l[k].name.size + l[k].frm.size + l[k].ml, by omega, by go_num, by omega, by go_num⟩
           case measure => simp [intOf]; omega)
    · clear hk hl
      by_cases hm : m.length ≤ 1048576
      rotate_left
      · go_wp2
        go_ret
        exact ⟨isBool _, rfl⟩
      go_wp2
      · go_ret
        exact ⟨isBool _, rfl⟩
      go_loop [15, 17] (fun z i => ∃ k t : Nat, k ≤ m.length ∧ i = .int .i64 k ∧ t ≤ 1048576 ∧ z = .int .i64 t) (fun _ i => m.length - (intOf i).toNat)
      case atStart => exact ⟨0, t + m.length, Nat.zero_le _, rfl, by omega, by go_num⟩
      case round =>
        obtain ⟨j, t, hj, rfl, ht, rfl⟩ := hrel
        by_cases hlt : j < m.length
        · obtain rfl := ha.1 (by intro e; simp [e] at hlt)
          have c0 := (ha.2 j hlt).c0
          have c1 := (ha.2 j hlt).c1
          have c2 := (ha.2 j hlt).c2
          go_wp2
          all_goals first
            | (go_ret; exact ⟨isBool _, rfl⟩)
            | (go_round
               case rel => exact ⟨j + 1, t + m[j].name.size + m[j].ear.size + m[j].lat.size, by omega, by go_num, by omega, by go_num⟩
               case measure => simp [intOf]; omega)
        · go_wp2
          all_goals (go_ret; exact ⟨isBool _, rfl⟩)

end Go.Proofs.Qxb6628786a
