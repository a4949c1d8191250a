import Derived.Test.Qxb6628786aRows
import Derived.Test.Qxb6628786aBase
import Derived.Test.Qxb6628786aBytes
import Derived.WalkLawsBesides
import Derived.Deep.QuietTactic
import Derived.BigQuiet
namespace Go.Proofs.Qxb6628786a
open Go.RowKit

/-- What zzCalendarTooBig answers: some bool; no only if both slices are short. -/
def SmallB (n m : Nat) (e : Ending) : Prop := ∃ b, e = .returned (.bool b) ∧ (b = false → n ≤ 1048576 ∧ m ≤ 1048576)
theorem smallB_true (n m : Nat) : SmallB n m (.returned (.bool true)) := ⟨_, rfl, by simp⟩
theorem smallB_of {n m : Nat} (h : n ≤ 1048576) (k : m ≤ 1048576) (b : Bool) : SmallB n m (.returned (.bool b)) := ⟨_, rfl, fun _ => ⟨h, k⟩⟩

set_option maxRecDepth 100000 in
set_option maxHeartbeats 1600000 in
theorem big_any (ro ao : Option Addr) (rb roff rc ab aoff ac : Nat) (l : List Ru) (m : List An) (t0 : Nat) (w : World) (hr : RSl w ro rb roff l) (ha : ASl w ao ab aoff m) :
    Calls Try.prog 6 #[.slice ro l.length rc, .slice ao m.length ac, .int .i64 t0] w fun e w' => SmallB l.length m.length e ∧ ∃ q, w' = w.drewN q := by
  by_cases ht0 : t0 ≤ 1048576
  rotate_left
  · go_enter Try.func6, Try.ntmps6
    go_wp2
    go_ret
    exact ⟨smallB_true _ _, 0, rfl⟩
  by_cases hl : l.length ≤ 1048576
  rotate_left
  · go_enter Try.func6, Try.ntmps6
    go_wp2
    go_ret
    exact ⟨smallB_true _ _, 0, rfl⟩
  by_cases hm : m.length ≤ 1048576
  rotate_left
  · go_enter Try.func6, Try.ntmps6
    go_wp2
    go_ret
    exact ⟨smallB_true _ _, 0, rfl⟩
  go_enter Try.func6, Try.ntmps6
  go_wp2
  go_loopw [2, 7] (fun z i wr => ∃ k t q : Nat, k ≤ l.length ∧ i = .int .i64 k ∧ t ≤ 1048576 ∧ z = .int .i64 t ∧ wr = w.drewN q) (fun _ i _ => l.length - (intOf i).toNat)
  case atStart => exact ⟨0, t0, 0, Nat.zero_le _, rfl, ht0, rfl, rfl⟩
  case round =>
    obtain ⟨k, t, q, hk, rfl, ht, rfl, rfl⟩ := hrel
    by_cases hlt : k < l.length
    · obtain rfl := hr.1 (by intro e; simp [e] at hlt)
      have c0 := (hr.2 k hlt).c0
      have c1 := (hr.2 k hlt).c1
      have c2 := (hr.2 k hlt).c2
      by_cases h0 : l[k].name.size ≤ 1048576
      rotate_left
      · go_wp2
        go_ret
        exact ⟨smallB_true _ _, _, rfl⟩
      by_cases h1 : l[k].frm.size ≤ 1048576
      rotate_left
      · go_wp2
        go_ret
        exact ⟨smallB_true _ _, _, rfl⟩
      by_cases h2 : l[k].ml ≤ 1048576
      rotate_left
      · go_wp2
        go_ret
        exact ⟨smallB_true _ _, _, rfl⟩
      go_wp2
      go_quiet (fail)
      go_wp2
      all_goals first
        | (go_ret; exact ⟨smallB_true _ _, _, rfl⟩)
        | (go_roundw
           case rel => exact ⟨k + 1, t + (48 + l[k].name.size + l[k].frm.size + 8 * l[k].ml), _, by omega, by go_num, by omega, by go_num, rfl⟩
           case measure => simp [intOf]; omega)
    · clear hk ht0
      go_wp2
      go_loopw [2, 8] (fun z i wr => ∃ k t q : Nat, k ≤ m.length ∧ i = .int .i64 k ∧ t ≤ 1048576 ∧ z = .int .i64 t ∧ wr = w.drewN q) (fun _ i _ => m.length - (intOf i).toNat)
      case atStart => exact ⟨0, t, q, Nat.zero_le _, rfl, ht, rfl, rfl⟩
      case round =>
        clear ht
        obtain ⟨j, t, q, hk, rfl, ht, rfl, rfl⟩ := hrel
        by_cases hlt : j < m.length
        · obtain rfl := ha.1 (by intro e; simp [e] at hlt)
          have c0 := (ha.2 j hlt).c0
          have c1 := (ha.2 j hlt).c1
          have c2 := (ha.2 j hlt).c2
          by_cases h0 : m[j].name.size ≤ 1048576
          rotate_left
          · go_wp2
            go_ret
            exact ⟨smallB_true _ _, _, rfl⟩
          by_cases h1 : m[j].ear.size ≤ 1048576
          rotate_left
          · go_wp2
            go_ret
            exact ⟨smallB_true _ _, _, rfl⟩
          by_cases h2 : m[j].lat.size ≤ 1048576
          rotate_left
          · go_wp2
            go_ret
            exact ⟨smallB_true _ _, _, rfl⟩
          go_wp2
          go_quiet (fail)
          go_wp2
          all_goals first
            | (go_ret; exact ⟨smallB_true _ _, _, rfl⟩)
            | (go_roundw
               case rel => exact ⟨j + 1, t + (48 + m[j].name.size + m[j].ear.size + m[j].lat.size), _, by omega, by go_num, by omega, by go_num, rfl⟩
               case measure => simp [intOf]; omega)
        · go_wp2
          go_ret
          exact ⟨smallB_of hl hm _, _, rfl⟩

end Go.Proofs.Qxb6628786a
