import Derived.Test.Qxb6628846aArgs
import Derived.Test.Qxb6628846aPairs
import Derived.Deep.QuietTactic
import Derived.BigQuiet
namespace Go.Proofs.Qxb6628846a
open Go.RowKit

set_option maxRecDepth 100000 in
set_option maxHeartbeats 800000 in
theorem eqInts_any (g1 g2 c1 c2 : Nat) (l : List Int) (w : World) (hl : l.length ≤ 1000000) (h1 : ∀ i (h : i < l.length), w.cell? ⟨g1, i, none⟩ = some (.int .i64 l[i])) (h2 : ∀ i (h : i < l.length), w.cell? ⟨g2, i, none⟩ = some (.int .i64 l[i])) :
    Calls Try.prog 12 #[.slice (some ⟨g1, 0, none⟩) l.length c1, .slice (some ⟨g2, 0, none⟩) l.length c2] w fun e w' => e = .returned (.bool true) ∧ ∃ q, w' = w.drewN q := by
  have H1 : Hid (∀ i (h : i < l.length), w.cell? ⟨g1, i, none⟩ = some (.int .i64 l[i])) := h1
  have H2 : Hid (∀ i (h : i < l.length), w.cell? ⟨g2, i, none⟩ = some (.int .i64 l[i])) := h2
  clear h1 h2
  go_enter Try.func12, Try.ntmps12
  go_wp2
  go_loopw [5] (fun i wr => ∃ k q : Nat, k ≤ l.length ∧ i = .int .i64 k ∧ wr = w.drewN q) (fun i _ => l.length - (intOf i).toNat)
  case atStart => exact ⟨0, 0, Nat.zero_le _, rfl, rfl⟩
  case round =>
    obtain ⟨k, q, hk, rfl, rfl⟩ := hrel
    by_cases hlt : k < l.length
    · have d1 := H1.out k hlt
      have d2 := H2.out k hlt
      have i0 : (0 : Int) ≤ (k : Int) := Int.natCast_nonneg _
      have i1 : (k : Int) < (l.length : Int) := by omega
      go_wp2
      go_quiet (fail)
      go_wp2
      go_roundw
      case rel => exact ⟨k + 1, _, by omega, by go_num, rfl⟩
      case measure => simp [intOf]; omega
    · go_wp2
      go_ret
      exact ⟨rfl, _, rfl⟩

set_option maxRecDepth 100000 in
set_option maxHeartbeats 800000 in
theorem eqStrs_any (a1 a2 : Option Addr) (g1 g2 c1 c2 : Nat) (l : List ByteArray) (w : World) (hl : l.length ≤ 1000000) (e1 : l ≠ [] → a1 = some ⟨g1, 0, none⟩) (e2 : l ≠ [] → a2 = some ⟨g2, 0, none⟩)
    (h1 : ∀ i (h : i < l.length), w.cell? ⟨g1, i, none⟩ = some (.string l[i])) (h2 : ∀ i (h : i < l.length), w.cell? ⟨g2, i, none⟩ = some (.string l[i])) :
    Calls Try.prog 13 #[.slice a1 l.length c1, .slice a2 l.length c2] w fun e w' => e = .returned (.bool true) ∧ ∃ q, w' = w.drewN q := by
  have H1 : Hid (∀ i (h : i < l.length), w.cell? ⟨g1, i, none⟩ = some (.string l[i])) := h1
  have H2 : Hid (∀ i (h : i < l.length), w.cell? ⟨g2, i, none⟩ = some (.string l[i])) := h2
  clear h1 h2
  go_enter Try.func13, Try.ntmps13
  go_wp2
  go_loopw [5] (fun i wr => ∃ k q : Nat, k ≤ l.length ∧ i = .int .i64 k ∧ wr = w.drewN q) (fun i _ => l.length - (intOf i).toNat)
  case atStart => exact ⟨0, 0, Nat.zero_le _, rfl, rfl⟩
  case round =>
    obtain ⟨k, q, hk, rfl, rfl⟩ := hrel
    by_cases hlt : k < l.length
    · obtain rfl := e1 (ne_of_lt hlt)
      obtain rfl := e2 (ne_of_lt hlt)
      have d1 := H1.out k hlt
      have d2 := H2.out k hlt
      have i0 : (0 : Int) ≤ (k : Int) := Int.natCast_nonneg _
      have i1 : (k : Int) < (l.length : Int) := by omega
      go_wp2
      go_quiet (fail)
      go_wp2
      go_roundw
      case rel => exact ⟨k + 1, _, by omega, by go_num, rfl⟩
      case measure => simp [intOf]; omega
    · go_wp2
      go_ret
      exact ⟨rfl, _, rfl⟩

theorem ints_of_own {w : World} {N g n cap : Nat} {L : List (Int × Int)} {f : Int × Int → Int} (hn : n = L.length) (h : w.ownsRow N 3 1 (.slice (some ⟨g, 0, none⟩) n cap) n (L.map fun p => .int .i64 (f p))) : ∀ i (hi : i < (L.map f).length), w.cell? ⟨g, i, none⟩ = some (.int .i64 (L.map f)[i]) := fun i hi => by
  have hi' : i < L.length := by simpa using hi
  rw [h.cellAt i (by omega)]
  simp [hi']
theorem own_below {w w' : World} {N s n : Nat} {e : TypeId} {v : Value} {xs : List Value} (h : w.ownsRow N e s v n xs) (hb : Below w.heap.size w w') : w'.ownsRow N e s v n xs :=
  ownsRow_same h fun z hz => hb.block z (h.lt z hz).2
theorem strs_of_own {w : World} {N cap : Nat} {ao : Option Addr} {l : List ByteArray} (h : w.ownsRow N 9 1 (.slice ao l.length cap) l.length (l.map Value.string)) : ∃ g, (l ≠ [] → ao = some ⟨g, 0, none⟩) ∧ ∀ i (hi : i < l.length), w.cell? ⟨g, i, none⟩ = some (.string l[i]) := by
  by_cases h0 : l = []
  · exact ⟨0, fun hn => absurd h0 hn, fun i hi => by rw [h0] at hi; simp at hi⟩
  · obtain ⟨g, rfl⟩ := own_addr h (by intro e; exact h0 (List.length_eq_zero_iff.1 e))
    refine ⟨g, fun _ => rfl, fun i hi => ?_⟩
    rw [h.cellAt i (by omega)]
    simp [hi]
theorem eqInts_n {w : World} {g1 g2 c1 c2 n : Nat} {l : List Int} (hn : l.length = n) (hl : n ≤ 1000000) (h1 : ∀ i (h : i < l.length), w.cell? ⟨g1, i, none⟩ = some (.int .i64 l[i])) (h2 : ∀ i (h : i < l.length), w.cell? ⟨g2, i, none⟩ = some (.int .i64 l[i])) :
    Calls Try.prog 12 #[.slice (some ⟨g1, 0, none⟩) n c1, .slice (some ⟨g2, 0, none⟩) n c2] w fun e w' => e = .returned (.bool true) ∧ ∃ q, w' = w.drewN q := by
  subst hn
  exact eqInts_any g1 g2 c1 c2 l w hl h1 h2
end Go.Proofs.Qxb6628846a
