import Derived.Test.Qxb6628846aArgs
import Derived.Test.Qxb6628846aHeld
import Derived.Test.Qxb6628846aPlain
namespace Go.Proofs.Qxb6628846a
open Go.RowKit

/-- The script in memory: the first of each of the three slices. -/
structure ScAt (w : World) (b0 o0 b1 o1 b2 o2 : Nat) (sc : List Gr) : Prop where
  t : ∀ i (h : i < sc.length), w.cell? ⟨b0, o0 + i, none⟩ = some (.int .i64 sc[i].t)
  o : ∀ i (h : i < sc.length), w.cell? ⟨b1, o1 + i, none⟩ = some (.string sc[i].o)
  m : ∀ i (h : i < sc.length), w.cell? ⟨b2, o2 + i, none⟩ = some (.int .i64 sc[i].m)

theorem ScAt.below {w w' : World} {b0 o0 b1 o1 b2 o2 : Nat} {sc : List Gr} (h : ScAt w b0 o0 b1 o1 b2 o2 sc) (hb : Below w.heap.size w w') : ScAt w' b0 o0 b1 o1 b2 o2 sc :=
  ⟨fun i hi => (hb.cell (World.block_lt_of_cell? w _ (h.t i hi))).trans (h.t i hi), fun i hi => (hb.cell (World.block_lt_of_cell? w _ (h.o i hi))).trans (h.o i hi), fun i hi => (hb.cell (World.block_lt_of_cell? w _ (h.m i hi))).trans (h.m i hi)⟩

theorem list_of {α : Type} {p : Nat → α → Prop} : ∀ n, (∀ i, i < n → ∃ x, p i x) → ∃ l : List α, l.length = n ∧ ∀ i (h : i < l.length), p i l[i]
  | 0, _ => ⟨[], rfl, fun i h => by simp at h⟩
  | n + 1, h => by
    obtain ⟨l, hl, hp⟩ := list_of n fun i hi => h i (by omega)
    obtain ⟨x, hx⟩ := h n (by omega)
    refine ⟨l ++ [x], by simp [hl], fun i hi => ?_⟩
    by_cases hin : i < l.length
    · rw [List.getElem_append_left hin]; exact hp i hin
    · have : i = l.length := by simp at hi; omega
      subst this
      rw [List.getElem_append_right (Nat.le_refl _)]
      simpa [hl] using hx

theorem script {w : World} {to oo mo : Option Addr} {b0 o0 b1 o1 b2 o2 : Nat} {ts : List Int} {os : List ByteArray} {ms : List Int} (ht : IntsAt w to b0 o0 ts) (ho : StrsAt w oo b1 o1 os) (hm : IntsAt w mo b2 o2 ms)
    (wt : ∀ x ∈ ts, (Lit.int .i64 x).wf = true) (wo : ∀ x ∈ os, x.size ≤ maxLen) :
    ∃ sc : List Gr, sc.length = min ts.length (min os.length ms.length) ∧ ScAt w b0 o0 b1 o1 b2 o2 sc ∧ (∀ e ∈ sc, (Lit.int .i64 e.t).wf = true ∧ e.o.size ≤ maxLen) := by
  obtain ⟨sc, hl, hp⟩ := list_of (p := fun i (e : Gr) => w.cell? ⟨b0, o0 + i, none⟩ = some (.int .i64 e.t) ∧ w.cell? ⟨b1, o1 + i, none⟩ = some (.string e.o) ∧ w.cell? ⟨b2, o2 + i, none⟩ = some (.int .i64 e.m) ∧ (Lit.int .i64 e.t).wf = true ∧ e.o.size ≤ maxLen)
    (min ts.length (min os.length ms.length)) (fun i hi => ⟨⟨ts[i]'(by omega), os[i]'(by omega), ms[i]'(by omega)⟩, ht.2 i (by omega), ho.2 i (by omega), hm.2 i (by omega), wt _ (List.getElem_mem _), wo _ (List.getElem_mem _)⟩)
  refine ⟨sc, hl, ⟨fun i hi => (hp i hi).1, fun i hi => (hp i hi).2.1, fun i hi => (hp i hi).2.2.1⟩, fun e he => ?_⟩
  obtain ⟨i, hi, rfl⟩ := List.getElem_of_mem he
  exact (hp i hi).2.2.2

theorem below_drewN (B : Nat) (w : World) (q : Nat) : Below B w (w.drewN q) := ⟨rfl, rfl, rfl, Nat.le_refl _, fun _ _ => rfl⟩

end Go.Proofs.Qxb6628846a
