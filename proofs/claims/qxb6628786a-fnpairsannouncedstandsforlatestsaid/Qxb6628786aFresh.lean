import Derived.Test.Qxb6628786aRows
import Derived.Test.Qxb6628786aBase
import Derived.WalkLawsBesides
namespace Go.Proofs.Qxb6628786a
open Go.RowKit

theorem all_take_succ {α : Type} (p : α → Bool) (l : List α) (k : Nat) (h : k < l.length) (h1 : (l.take k).all p = true) (h2 : p l[k] = true) : (l.take (k + 1)).all p = true := by
  rw [List.take_succ_eq_append_getElem h, List.all_append, h1]; simp [h2]
theorem all_take_false {α : Type} (p : α → Bool) (l : List α) (k : Nat) (h : k < l.length) (hp : p l[k] = false) : l.all p = false := by
  rw [List.all_eq_false]; exact ⟨l[k], List.getElem_mem h, by simp [hp]⟩
theorem all_take_all {α : Type} (p : α → Bool) (l : List α) (k : Nat) (h : ¬ k < l.length) (h1 : (l.take k).all p = true) : l.all p = true := by
  rwa [List.take_of_length_le (by omega)] at h1

set_option maxHeartbeats 800000 in
theorem fresh_any (s : ByteArray) (ro ao : Option Addr) (rb roff rc ab aoff ac : Nat) (l : List Ru) (m : List An) (w : World) (hr : RSl w ro rb roff l) (ha : ASl w ao ab aoff m) (hl : l.length ≤ maxLen) (hm : m.length ≤ maxLen) :
    Calls Try.prog 7 #[.string s, .slice ro l.length rc, .slice ao m.length ac] w fun e w' => e = .returned (.bool (fresh s l m)) ∧ w' = w := by
  unfold maxLen at hl hm
  go_enter Try.func7, Try.ntmps7
  go_wp2
  go_loop [7] (fun i => ∃ k : Nat, k ≤ l.length ∧ i = .int .i64 k ∧ (l.take k).all (freshR s) = true) (fun i => l.length - (intOf i).toNat)
  case atStart => exact ⟨0, Nat.zero_le _, rfl, rfl⟩
  case round =>
    obtain ⟨k, hk, rfl, hall⟩ := hrel
    have HA : Hid ((l.take k).all (freshR s) = true) := hall
    clear hall
    by_cases hlt : k < l.length
    · obtain rfl := hr.1 (by intro e; simp [e] at hlt)
      have c0 := (hr.2 k hlt).c0
      have c1 := (hr.2 k hlt).c1
      by_cases h0 : l[k].name = s
      · have n0 := tl_eq h0
        go_wp2
        go_ret
        refine ⟨ret_bool ?_, rfl⟩
        simp [fresh, all_take_false (freshR s) l k hlt (by simp [freshR, h0])]
      · have n0 := tl_ne h0
        by_cases h1 : l[k].frm = s
        · have n1 := tl_eq h1
          go_wp2
          go_ret
          refine ⟨ret_bool ?_, rfl⟩
          simp [fresh, all_take_false (freshR s) l k hlt (by simp [freshR, h1])]
        · have n1 := tl_ne h1
          go_wp2
          go_round
          case rel => exact ⟨k + 1, by omega, by go_num, all_take_succ _ _ _ hlt HA.out (by simp [freshR, h0, h1])⟩
          case measure => simp [intOf]; omega
    · have HB : Hid (l.all (freshR s) = true) := all_take_all _ _ _ hlt HA.out
      go_wp2
      go_loop [8] (fun i => ∃ k : Nat, k ≤ m.length ∧ i = .int .i64 k ∧ (m.take k).all (freshA s) = true) (fun i => m.length - (intOf i).toNat)
      case atStart => exact ⟨0, Nat.zero_le _, rfl, rfl⟩
      case round =>
        obtain ⟨j, hj, rfl, hall⟩ := hrel
        have HC : Hid ((m.take j).all (freshA s) = true) := hall
        clear hall
        by_cases hlt : j < m.length
        · obtain rfl := ha.1 (by intro e; simp [e] at hlt)
          have c0 := (ha.2 j hlt).c0
          have c1 := (ha.2 j hlt).c1
          have c2 := (ha.2 j hlt).c2
          by_cases h0 : m[j].name = s
          · have n0 := tl_eq h0
            go_wp2
            go_ret
            refine ⟨ret_bool ?_, rfl⟩
            simp [fresh, all_take_false (freshA s) m j hlt (by simp [freshA, h0])]
          · have n0 := tl_ne h0
            by_cases h1 : m[j].ear = s
            · have n1 := tl_eq h1
              go_wp2
              go_ret
              refine ⟨ret_bool ?_, rfl⟩
              simp [fresh, all_take_false (freshA s) m j hlt (by simp [freshA, h1])]
            · have n1 := tl_ne h1
              by_cases h2 : m[j].lat = s
              · have n2 := tl_eq h2
                go_wp2
                go_ret
                refine ⟨ret_bool ?_, rfl⟩
                simp [fresh, all_take_false (freshA s) m j hlt (by simp [freshA, h2])]
              · have n2 := tl_ne h2
                go_wp2
                go_round
                case rel => exact ⟨j + 1, by omega, by go_num, all_take_succ _ _ _ hlt HC.out (by simp [freshA, h0, h1, h2])⟩
                case measure => simp [intOf]; omega
        · have HD : Hid (m.all (freshA s) = true) := all_take_all _ _ _ hlt HC.out
          go_wp2
          go_ret
          refine ⟨ret_bool ?_, rfl⟩
          rw [fresh, HB.out, HD.out]; rfl

end Go.Proofs.Qxb6628786a
