import Derived.Test.Qxb6628846aArgs
namespace Go.Proofs.Qxb6628846a
open Go.RowKit

set_option maxRecDepth 100000 in
set_option maxHeartbeats 1600000 in
theorem bytes11_any (to oo mo : Option Addr) (tn tc ob ooff oc mn mc : Nat) (l : List ByteArray) (w : World) (hr : StrsAt w oo ob ooff l) :
    Calls Try.prog 11 #[.slice to tn tc, .slice oo l.length oc, .slice mo mn mc] w fun e w' => ShortB l e ∧ w' = w := by
  by_cases htn : tn ≤ 1048576
  rotate_left
  · go_enter Try.func11, Try.ntmps11
    go_wp2
    go_ret
    exact ⟨shortB_no _, rfl⟩
  by_cases hl : l.length ≤ 1048576
  rotate_left
  · go_enter Try.func11, Try.ntmps11
    go_wp2
    go_ret
    exact ⟨shortB_no _, rfl⟩
  by_cases hs : tn + l.length ≤ 1048576
  rotate_left
  · go_enter Try.func11, Try.ntmps11
    go_wp2
    go_ret
    exact ⟨shortB_no _, rfl⟩
  go_enter Try.func11, Try.ntmps11
  go_wp2
  go_loop [7, 8] (fun z i => ∃ k t : Nat, k ≤ l.length ∧ i = .int .i64 k ∧ t ≤ 1048576 ∧ z = .int .i64 t ∧ ∀ j (hj : j < l.length), j < k → l[j].size ≤ 1048576) (fun _ i => l.length - (intOf i).toNat)
  case atStart => exact ⟨0, tn + l.length, Nat.zero_le _, rfl, hs, by go_num, fun j _ h => absurd h (by omega)⟩
  case round =>
    obtain ⟨k, t, hk, rfl, ht, rfl, hsm⟩ := hrel
    have HS : Hid (∀ j (hj : j < l.length), j < k → l[j].size ≤ 1048576) := hsm
    clear hsm
    by_cases hlt : k < l.length
    · obtain rfl := hr.1 (ne_of_lt hlt)
      have c0 := hr.2 k hlt
      go_wp2
      all_goals first
        | (go_ret; exact ⟨shortB_no _, rfl⟩)
        | (go_round
           case rel => exact ⟨k + 1, t + l[k].size, by omega, by go_num, by omega, by go_num, fun j hj hjk => by
             by_cases e : j = k
             · subst e; omega
             · exact HS.out j hj (by omega)⟩
           case measure => simp [intOf]; omega)
    · go_wp2
      all_goals (go_ret; exact ⟨shortB_of (fun j hj => HS.out j hj (by omega)) _, rfl⟩)

end Go.Proofs.Qxb6628846a
