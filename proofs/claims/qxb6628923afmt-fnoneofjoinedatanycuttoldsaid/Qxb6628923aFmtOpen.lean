/-
  A slice of strings that came in, opened.
-/
import Derived.Test.Qxb6628923aFmtCopy
import Derived.ProofKit
import Derived.OpenShut
import Derived.ShutString
import Derived.ChangeOld
import Derived.Below
import Derived.Deep.Slices
namespace Go.Proofs.Qxb6628923aFmt
open Go.ChangeShapes Go.WideShapes Go.ChangeAt Go.RowKit Go.Deep

theorem cells9 : Tryf.prog.cellsOf 9 = 1 := by kernel_rfl

/-- From 'for every i < n there is one' to a list. -/
theorem listOf {α : Type} {p : Nat → α → Prop} : ∀ n, (∀ i, i < n → ∃ x, p i x) → ∃ l : List α, l.length = n ∧ ∀ i (h : i < l.length), p i l[i]
  | 0, _ => ⟨[], rfl, fun i h => by simp at h⟩
  | n + 1, h => by
    obtain ⟨l, hl, hp⟩ := listOf n fun i hi => h i (by omega)
    obtain ⟨x, hx⟩ := h n (by omega)
    refine ⟨l ++ [x], by simp [hl], fun i hi => ?_⟩
    by_cases hin : i < l.length
    · rw [List.getElem_append_left hin]; exact hp i hin
    · have : i = l.length := by simp at hi; omega
      subst this
      rw [List.getElem_append_right (Nat.le_refl _)]
      simpa [hl] using hx

theorem lt_of_cell {w : World} {b o : Nat} {v : Value} (h : w.cell? ⟨b, o, none⟩ = some v) : b < w.heap.size := by
  rcases Nat.lt_or_ge b w.heap.size with h1 | h1
  · exact h1
  · simp [World.cell?, Array.getElem?_eq_none h1] at h

section
variable {H : Type} {enc : TypeId × Value → H} {w : World}

theorem open_ss {a : Option Addr} {len cap : Nat} {d : DataW H} {ps : List MemPlace} (h : DataW.Trod enc Tryf.prog w 0 (fun _ => true) true 22 (.slice a len cap) d ps) :
    ∃ b o l, len = l.length ∧ SSl w a b o l ∧ len ≤ cap ∧ len ≤ maxLen := by
  obtain ⟨fuel, hf⟩ := h
  rcases open_slice1 Tryf.underlying22 cells9 hf with ⟨hcs, _⟩ | ⟨x, l, c, m, n, V, D, Pl, hcs, _, hl, hm, hmm, _, hx⟩
  · simp [Value.cells] at hcs
    obtain ⟨rfl, rfl, rfl⟩ := hcs
    exact ⟨0, 0, [], rfl, ⟨by simp, fun i h => by simp at h⟩, Nat.le_refl _, Nat.zero_le _⟩
  · simp [Value.cells] at hcs
    obtain ⟨rfl, rfl, rfl⟩ := hcs
    simp only [if_true] at hmm
    obtain ⟨l, hll, hp⟩ := listOf (p := fun i (z : ByteArray) => w.cell? (x.add i) = some (.string z) ∧ z.size ≤ maxLen) len (fun i hi => by
      obtain ⟨h1, h2⟩ := hx i (by omega)
      obtain ⟨z, h3, _, h4⟩ := DataW.trod_string Tryf.underlying9 h2
      simp at h3
      exact ⟨z, by rw [h1, h3], h4⟩)
    obtain ⟨b, o, spot⟩ := x
    have hsp : 0 < l.length → spot = none := fun hpos => by simpa [Addr.add] using World.cell?_spot (hp 0 hpos).1
    have hc : ∀ i (hi : i < l.length), w.cell? ⟨b, o + i, none⟩ = some (.string l[i]) := by
      intro i hi
      obtain rfl := hsp (by omega)
      have := (hp i hi).1
      rwa [Addr.add_lit] at this
    refine ⟨b, o, l, hll.symm, ⟨fun hne => ?_, hc⟩, hl, Nat.le_trans hl hm⟩
    have hpos := List.length_pos_iff.2 hne
    exact ⟨by rw [hsp hpos], lt_of_cell (hc 0 hpos)⟩
end
end Go.Proofs.Qxb6628923aFmt
