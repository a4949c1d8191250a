/-
  The arguments as the walks see them; the size check.
-/
import Derived.Test.Qxb6628846aRows
import Derived.WalkKit
import Derived.WalkSpells
import Derived.WalkLawsBesides
namespace Go.Proofs.Qxb6628846a
open Go.RowKit

def IntsAt (w : World) (ao : Option Addr) (b o : Nat) (l : List Int) : Prop :=
  (l ≠ [] → ao = some ⟨b, o, none⟩) ∧ ∀ i (h : i < l.length), w.cell? ⟨b, o + i, none⟩ = some (.int .i64 l[i])
def StrsAt (w : World) (ao : Option Addr) (b o : Nat) (l : List ByteArray) : Prop :=
  (l ≠ [] → ao = some ⟨b, o, none⟩) ∧ ∀ i (h : i < l.length), w.cell? ⟨b, o + i, none⟩ = some (.string l[i])

theorem ne_of_lt {α : Type} {l : List α} {k : Nat} (h : k < l.length) : l ≠ [] := by intro e; simp [e] at h

theorem IntsAt.below {w w' : World} {ao : Option Addr} {b o : Nat} {l : List Int} (h : IntsAt w ao b o l) (hb : Below w.heap.size w w') : IntsAt w' ao b o l :=
  ⟨h.1, fun i hi => (hb.cell (World.block_lt_of_cell? w _ (h.2 i hi))).trans (h.2 i hi)⟩
theorem StrsAt.below {w w' : World} {ao : Option Addr} {b o : Nat} {l : List ByteArray} (h : StrsAt w ao b o l) (hb : Below w.heap.size w w') : StrsAt w' ao b o l :=
  ⟨h.1, fun i hi => (hb.cell (World.block_lt_of_cell? w _ (h.2 i hi))).trans (h.2 i hi)⟩

/-- Some bool; yes only if each string is short. -/
def ShortB (l : List ByteArray) (e : Ending) : Prop := ∃ b, e = .returned (.bool b) ∧ (b = true → ∀ s ∈ l, s.size ≤ 1048576)
theorem shortB_no (l : List ByteArray) : ShortB l (.returned (.bool false)) := ⟨_, rfl, fun h => by cases h⟩
theorem shortB_of {l : List ByteArray} (h : ∀ j (hj : j < l.length), l[j].size ≤ 1048576) (b : Bool) : ShortB l (.returned (.bool b)) := ⟨_, rfl, fun _ s hs => by
  obtain ⟨j, hj, rfl⟩ := List.getElem_of_mem hs
  exact h j hj⟩

/-! ### Strings as the walk compares them -/
theorem tl_beq (a b : ByteArray) : (a.toList == b.toList) = decide (a = b) := by
  rw [ByteArray.toList_eq, ByteArray.toList_eq, Bool.eq_iff_iff]
  simp only [beq_iff_eq, decide_eq_true_eq]
  exact ⟨fun h => ByteArray.ext (Array.toList_inj.mp h), fun h => by rw [h]⟩
theorem tl_ne {a b : ByteArray} (h : ¬ a = b) : (a.toList == b.toList) = false := by rw [tl_beq]; exact decide_eq_false h
theorem tl_eq {a b : ByteArray} (h : a = b) : (a.toList == b.toList) = true := by rw [tl_beq]; exact decide_eq_true h

set_option maxRecDepth 100000 in
set_option maxHeartbeats 1600000 in
theorem bytes5_any (to oo mo : Option Addr) (tn tc ob ooff oc mn mc : Nat) (l : List ByteArray) (w : World) (hr : StrsAt w oo ob ooff l) :
    Calls Try.prog 5 #[.slice to tn tc, .slice oo l.length oc, .slice mo mn mc] w fun e w' => ShortB l e ∧ w' = w := by
  by_cases htn : tn ≤ 1048576
  rotate_left
  · go_enter Try.func5, Try.ntmps5
    go_wp2
    go_ret
    exact ⟨shortB_no _, rfl⟩
  by_cases hl : l.length ≤ 1048576
  rotate_left
  · go_enter Try.func5, Try.ntmps5
    go_wp2
    go_ret
    exact ⟨shortB_no _, rfl⟩
  by_cases hs : tn + l.length ≤ 1048576
  rotate_left
  · go_enter Try.func5, Try.ntmps5
    go_wp2
    go_ret
    exact ⟨shortB_no _, rfl⟩
  go_enter Try.func5, Try.ntmps5
  go_wp2
  go_loop [7, 8] (fun z i => ∃ k t : Nat, k ≤ l.length ∧ i = .int .i64 k ∧ t ≤ 1048576 ∧ z = .int .i64 t ∧ ∀ j (hj : j < l.length), j < k → l[j].size ≤ 1048576) (fun _ i => l.length - (intOf i).toNat)
  case atStart => exact ⟨0, tn + l.length, Nat.zero_le _, rfl, hs, by go_num, fun j _ h => absurd h (by omega)⟩
  case round =>
    obtain ⟨k, t, hk, rfl, ht, rfl, hsm⟩ := hrel
    have HS : Hid (∀ j (hj : j < l.length), j < k → l[j].size ≤ 1048576) := hsm
    clear hsm
    by_cases hlt : k < l.length
    · obtain rfl := hr.1 (ne_of_lt hlt)
      have c0 := hr.2 k hlt
      go_wp2
      all_goals first
        | (go_ret; exact ⟨shortB_no _, rfl⟩)
        | (go_round
           case rel => exact ⟨k + 1, t + l[k].size, by omega, by go_num, by omega, by go_num, fun j hj hjk => by
             by_cases e : j = k
             · subst e; omega
             · exact HS.out j hj (by omega)⟩
           case measure => simp [intOf]; omega)
    · go_wp2
      all_goals (go_ret; exact ⟨shortB_of (fun j hj => HS.out j hj (by omega)) _, rfl⟩)

end Go.Proofs.Qxb6628846a
