import Derived.Test.Qxb6628786aRows
import Derived.Test.Qxb6628786aBase
import Derived.ProofKit
import Derived.OpenShut
import Derived.ShutString
import Derived.ChangeOld
import Derived.Below
import Derived.Deep.Slices
namespace Go.Proofs.Qxb6628786a
open Go.ChangeShapes Go.WideShapes Go.ChangeAt Go.RowKit Go.Deep
open Go.ChangeMaps (open_string shut_string)

theorem Try.cells50 : Try.prog.cellsOf 50 = 7 := by kernel_rfl
theorem Try.cells51 : Try.prog.cellsOf 51 = 3 := by kernel_rfl
theorem Try.cells9 : Try.prog.cellsOf 9 = 1 := by kernel_rfl
theorem Try.cells24 : Try.prog.cellsOf 24 = 1 := by kernel_rfl
theorem Try.cells3 : Try.prog.cellsOf 3 = 1 := by kernel_rfl

theorem seven {α : Type} {l : List α} (h : l.length = 7) : ∃ a b c d e f g, l = [a, b, c, d, e, f, g] := by
  match l, h with
  | [a, b, c, d, e, f, g], _ => exact ⟨a, b, c, d, e, f, g, rfl⟩
theorem three {α : Type} {l : List α} (h : l.length = 3) : ∃ a b c, l = [a, b, c] := by
  match l, h with
  | [a, b, c], _ => exact ⟨a, b, c, rfl⟩

section
variable {H : Type} {enc : TypeId × Value → H} {w : World} {base : Nat} {spare : Nat → Bool} {held : Bool}

theorem str_of {fuel : Nat} {c : Value} {o : Option (DataW H × List MemPlace)} (h : DataW.trod enc Try.prog w base spare held fuel 9 [c] = o) (ho : o.isSome) : ∃ s, c = .string s := by
  obtain ⟨y, rfl⟩ := Option.isSome_iff_exists.1 ho
  obtain ⟨s, h1, _⟩ := DataW.trod_string Try.underlying9 h
  exact ⟨s, by simpa using h1⟩
theorem int_of {fuel : Nat} {c : Value} {o : Option (DataW H × List MemPlace)} (h : DataW.trod enc Try.prog w base spare held fuel 3 [c] = o) (ho : o.isSome) : ∃ s, c = .int .i64 s := by
  obtain ⟨y, rfl⟩ := Option.isSome_iff_exists.1 ho
  obtain ⟨s, h1, _⟩ := DataW.trod_int Try.underlying3 h
  exact ⟨s, by simpa using h1⟩
theorem slc_of {fuel : Nat} {c : Value} {o : Option (DataW H × List MemPlace)} (h : DataW.trod enc Try.prog w base spare held fuel 24 [c] = o) (ho : o.isSome) : ∃ a l k, c = .slice a l k := by
  obtain ⟨y, rfl⟩ := Option.isSome_iff_exists.1 ho
  rcases open_slice Try.underlying24 h with ⟨h1, _⟩ | ⟨a, l, k, _, _, _, _, h1, _⟩
  · exact ⟨_, _, _, by simpa using h1⟩
  · exact ⟨_, _, _, by simpa using h1⟩

theorem ru_of {fuel : Nat} {cs : List Value} {x : DataW H × List MemPlace} (h : DataW.trod enc Try.prog w base spare held fuel 50 cs = some x) : ∃ r : Ru, cs = r.cells := by
  obtain ⟨xs, n, _, _, hl, hx, hf⟩ := DataW.trod_struct Try.underlying50 h
  rw [Try.cells50] at hl
  obtain ⟨c0, c1, c2, c3, c4, c5, c6, rfl⟩ := seven hl
  have hs : ∀ i, i < 7 → (xs[i]?).isSome := fun i hi => by rw [List.getElem?_eq_getElem (by rw [hx]; exact hi)]; rfl
  have g0 : DataW.trod enc Try.prog w base spare held n 9 [c0] = xs[0]? := by simpa [Try.cells9] using hf 0 _ rfl
  have g1 : DataW.trod enc Try.prog w base spare held n 9 [c1] = xs[1]? := by simpa [Try.cells9] using hf 1 _ rfl
  have g2 : DataW.trod enc Try.prog w base spare held n 24 [c2] = xs[2]? := by simpa [Try.cells24] using hf 2 _ rfl
  have g3 : DataW.trod enc Try.prog w base spare held n 3 [c3] = xs[3]? := by simpa [Try.cells3] using hf 3 _ rfl
  have g4 : DataW.trod enc Try.prog w base spare held n 3 [c4] = xs[4]? := by simpa [Try.cells3] using hf 4 _ rfl
  have g5 : DataW.trod enc Try.prog w base spare held n 3 [c5] = xs[5]? := by simpa [Try.cells3] using hf 5 _ rfl
  have g6 : DataW.trod enc Try.prog w base spare held n 3 [c6] = xs[6]? := by simpa [Try.cells3] using hf 6 _ rfl
  obtain ⟨s0, rfl⟩ := str_of g0 (hs 0 (by omega))
  obtain ⟨s1, rfl⟩ := str_of g1 (hs 1 (by omega))
  obtain ⟨a, l, k, rfl⟩ := slc_of g2 (hs 2 (by omega))
  obtain ⟨s3, rfl⟩ := int_of g3 (hs 3 (by omega))
  obtain ⟨s4, rfl⟩ := int_of g4 (hs 4 (by omega))
  obtain ⟨s5, rfl⟩ := int_of g5 (hs 5 (by omega))
  obtain ⟨s6, rfl⟩ := int_of g6 (hs 6 (by omega))
  exact ⟨⟨s0, s1, a, l, k, s3, s4, s5, s6⟩, rfl⟩

theorem an_of {fuel : Nat} {cs : List Value} {x : DataW H × List MemPlace} (h : DataW.trod enc Try.prog w base spare held fuel 51 cs = some x) : ∃ r : An, cs = r.cells := by
  obtain ⟨xs, n, _, _, hl, hx, hf⟩ := DataW.trod_struct Try.underlying51 h
  rw [Try.cells51] at hl
  obtain ⟨c0, c1, c2, rfl⟩ := three hl
  have hs : ∀ i, i < 3 → (xs[i]?).isSome := fun i hi => by rw [List.getElem?_eq_getElem (by rw [hx]; exact hi)]; rfl
  have g0 : DataW.trod enc Try.prog w base spare held n 9 [c0] = xs[0]? := by simpa [Try.cells9] using hf 0 _ rfl
  have g1 : DataW.trod enc Try.prog w base spare held n 9 [c1] = xs[1]? := by simpa [Try.cells9] using hf 1 _ rfl
  have g2 : DataW.trod enc Try.prog w base spare held n 9 [c2] = xs[2]? := by simpa [Try.cells9] using hf 2 _ rfl
  obtain ⟨s0, rfl⟩ := str_of g0 (hs 0 (by omega))
  obtain ⟨s1, rfl⟩ := str_of g1 (hs 1 (by omega))
  obtain ⟨s2, rfl⟩ := str_of g2 (hs 2 (by omega))
  exact ⟨⟨s0, s1, s2⟩, rfl⟩

/-- From 'for every i < n there is one' to a list. -/
theorem list_of {α : Type} {p : Nat → α → Prop} : ∀ n, (∀ i, i < n → ∃ x, p i x) → ∃ l : List α, l.length = n ∧ ∀ i (h : i < l.length), p i l[i]
  | 0, _ => ⟨[], rfl, fun i h => by simp at h⟩
  | n + 1, h => by
    obtain ⟨l, hl, hp⟩ := list_of n fun i hi => h i (by omega)
    obtain ⟨x, hx⟩ := h n (by omega)
    refine ⟨l ++ [x], by simp [hl], fun i hi => ?_⟩
    by_cases hin : i < l.length
    · rw [List.getElem_append_left hin]; exact hp i hin
    · have : i = l.length := by simp at hi; omega
      subst this
      rw [List.getElem_append_right (Nat.le_refl _)]
      simpa [hl] using hx

theorem cells_at {a : Addr} {n : Nat} {cs : List Value} (h : w.cells? base a n = some cs) : ∀ i v, cs[i]? = some v → w.cell? (a.add i) = some v := fun i v hv => by
  obtain ⟨_, hl, hc⟩ := World.cells?_some h
  rw [hc i (by have := (List.getElem?_eq_some_iff.1 hv).1; omega), hv]

/-- The rules that came in. -/
theorem open_rules {a : Option Addr} {len cap : Nat} {d : DataW H} {ps : List MemPlace} (h : DataW.Trod enc Try.prog w 0 (fun _ => true) true 22 (.slice a len cap) d ps) :
    ∃ b o l, len = l.length ∧ l.length ≤ maxLen ∧ RSl w a b o l := by
  obtain ⟨fuel, hf⟩ := h
  rcases open_slice Try.underlying22 hf with ⟨hcs, _⟩ | ⟨x, l, c, m, n, D, Pl, hcs, _, hl, hm, hmm, _, hx⟩
  · simp [Value.cells] at hcs
    obtain ⟨rfl, rfl, rfl⟩ := hcs
    exact ⟨0, 0, [], rfl, by simp, by simp, fun i h => by simp at h⟩
  · simp [Value.cells] at hcs
    obtain ⟨rfl, rfl, rfl⟩ := hcs
    simp only [if_true] at hmm
    rw [Try.cells50] at hx
    obtain ⟨l, hll, hp⟩ := list_of (p := fun i (r : Ru) => w.cells? 0 (x.add (i * 7)) 7 = some r.cells) len (fun i hi => by
      obtain ⟨cs, h1, h2⟩ := hx i (by omega)
      obtain ⟨r, rfl⟩ := ru_of h2
      exact ⟨r, h1⟩)
    obtain ⟨b, o, spot⟩ := x
    have hsp : 0 < l.length → spot = none := fun hpos => by simpa [Addr.add] using World.cell?_spot (cells_at (hp 0 hpos) 0 _ rfl)
    refine ⟨b, o, l, hll.symm, by omega, fun hne => by rw [hsp (List.length_pos_iff.2 hne)], fun i hi => ?_⟩
    · have hc := cells_at (hp i hi)
      obtain rfl := hsp (by omega)
      simp only [Addr.add_lit] at hc
      exact ⟨hc 0 _ rfl, hc 1 _ rfl, hc 2 _ rfl, hc 3 _ rfl, hc 4 _ rfl, hc 5 _ rfl, hc 6 _ rfl⟩

theorem open_anns {a : Option Addr} {len cap : Nat} {d : DataW H} {ps : List MemPlace} (h : DataW.Trod enc Try.prog w 0 (fun _ => true) true 23 (.slice a len cap) d ps) :
    ∃ b o l, len = l.length ∧ l.length ≤ maxLen ∧ ASl w a b o l := by
  obtain ⟨fuel, hf⟩ := h
  rcases open_slice Try.underlying23 hf with ⟨hcs, _⟩ | ⟨x, l, c, m, n, D, Pl, hcs, _, hl, hm, hmm, _, hx⟩
  · simp [Value.cells] at hcs
    obtain ⟨rfl, rfl, rfl⟩ := hcs
    exact ⟨0, 0, [], rfl, by simp, by simp, fun i h => by simp at h⟩
  · simp [Value.cells] at hcs
    obtain ⟨rfl, rfl, rfl⟩ := hcs
    simp only [if_true] at hmm
    rw [Try.cells51] at hx
    obtain ⟨l, hll, hp⟩ := list_of (p := fun i (r : An) => w.cells? 0 (x.add (i * 3)) 3 = some r.cells) len (fun i hi => by
      obtain ⟨cs, h1, h2⟩ := hx i (by omega)
      obtain ⟨r, rfl⟩ := an_of h2
      exact ⟨r, h1⟩)
    obtain ⟨b, o, spot⟩ := x
    have hsp : 0 < l.length → spot = none := fun hpos => by simpa [Addr.add] using World.cell?_spot (cells_at (hp 0 hpos) 0 _ rfl)
    refine ⟨b, o, l, hll.symm, by omega, fun hne => by rw [hsp (List.length_pos_iff.2 hne)], fun i hi => ?_⟩
    · have hc := cells_at (hp i hi)
      obtain rfl := hsp (by omega)
      simp only [Addr.add_lit] at hc
      exact ⟨hc 0 _ rfl, hc 1 _ rfl, hc 2 _ rfl⟩

end
end Go.Proofs.Qxb6628786a
