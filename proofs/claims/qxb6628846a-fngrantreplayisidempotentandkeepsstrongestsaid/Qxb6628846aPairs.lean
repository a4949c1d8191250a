/-
  The flat list of pairs in memory: three slices side by side.
-/
import Derived.Test.Qxb6628846aHeld
import Derived.Test.Qxb6628846aPlain
namespace Go.Proofs.Qxb6628846a
open Go.RowKit

structure PairAt (w : World) (N g1 g2 g3 n : Nat) (P : List Gr) : Prop where
  a : w.ownsRow N 3 1 (.slice (some ⟨g1, 0, none⟩) P.length n) P.length (P.map fun e => .int .i64 e.t)
  b : w.ownsRow N 9 1 (.slice (some ⟨g2, 0, none⟩) P.length n) P.length (P.map fun e => .string e.o)
  c : w.ownsRow N 3 1 (.slice (some ⟨g3, 0, none⟩) P.length n) P.length (P.map fun e => .int .i64 e.m)

section
variable {w w' : World} {N g1 g2 g3 n : Nat} {P : List Gr}

theorem PairAt.t (h : PairAt w N g1 g2 g3 n P) (j : Nat) (hj : j < P.length) : w.cell? ⟨g1, j, none⟩ = some (.int .i64 P[j].t) := by
  rw [h.a.cellAt j (by omega)]; simp [hj]
theorem PairAt.o (h : PairAt w N g1 g2 g3 n P) (j : Nat) (hj : j < P.length) : w.cell? ⟨g2, j, none⟩ = some (.string P[j].o) := by
  rw [h.b.cellAt j (by omega)]; simp [hj]
theorem PairAt.m (h : PairAt w N g1 g2 g3 n P) (j : Nat) (hj : j < P.length) : w.cell? ⟨g3, j, none⟩ = some (.int .i64 P[j].m) := by
  rw [h.c.cellAt j (by omega)]; simp [hj]

theorem PairAt.same (h : PairAt w N g1 g2 g3 n P) (e1 : w'.heap[g1]? = w.heap[g1]?) (e2 : w'.heap[g2]? = w.heap[g2]?) (e3 : w'.heap[g3]? = w.heap[g3]?) : PairAt w' N g1 g2 g3 n P :=
  ⟨ownsRow_same h.a fun g hg => by simp [Value.ownBlock] at hg; subst hg; exact e1, ownsRow_same h.b fun g hg => by simp [Value.ownBlock] at hg; subst hg; exact e2, ownsRow_same h.c fun g hg => by simp [Value.ownBlock] at hg; subst hg; exact e3⟩
theorem PairAt.drewN (h : PairAt w N g1 g2 g3 n P) (q : Nat) : PairAt (w.drewN q) N g1 g2 g3 n P := h.same rfl rfl rfl
theorem PairAt.below (h : PairAt w N g1 g2 g3 n P) (hb : Below w.heap.size w w') : PairAt w' N g1 g2 g3 n P :=
  h.same (hb.block _ (h.a.lt _ rfl).2) (hb.block _ (h.b.lt _ rfl).2) (hb.block _ (h.c.lt _ rfl).2)

theorem pairAt_made {W0 w1 w2 w3 : World} (own1 : w1.ownsRow W0.heap.size 3 1 (.slice (some ⟨W0.heap.size, 0, none⟩) 0 n) 0 []) (own2 : w2.ownsRow W0.heap.size 9 1 (.slice (some ⟨w1.heap.size, 0, none⟩) 0 n) 0 [])
    (own3 : w3.ownsRow W0.heap.size 3 1 (.slice (some ⟨w2.heap.size, 0, none⟩) 0 n) 0 []) (gr2 : w1.grownBy w2 none) (gr3 : w2.grownBy w3 none) : PairAt w3 W0.heap.size W0.heap.size w1.heap.size w2.heap.size n [] :=
  ⟨(own1.kept gr2 (.inr (by simp [Value.ownBlock]))).kept gr3 (.inr (by simp [Value.ownBlock])), own2.kept gr3 (.inr (by simp [Value.ownBlock])), own3⟩

/-- Three appends. -/
theorem pairAt_push (h12 : g1 ≠ g2) (h13 : g1 ≠ g3) (h23 : g2 ≠ g3) {e : Gr} {w1 w2 w3 : World} {X2 X3 : Obj}
    (oa : w1.ownsRow N 3 1 (.slice (some ⟨g1, 0, none⟩) (P.length + 1) n) (P.length + 1) ((P.map fun e => .int .i64 e.t) ++ [.int .i64 e.t]))
    (ob : w2.ownsRow N 9 1 (.slice (some ⟨g2, 0, none⟩) (P.length + 1) n) (P.length + 1) ((P.map fun e => .string e.o) ++ [.string e.o])) (gb : (w1.alloc X2).grownBy w2 (some g2))
    (oc : w3.ownsRow N 3 1 (.slice (some ⟨g3, 0, none⟩) (P.length + 1) n) (P.length + 1) ((P.map fun e => .int .i64 e.m) ++ [.int .i64 e.m])) (gc : (w2.alloc X3).grownBy w3 (some g3)) : PairAt w3 N g1 g2 g3 n (P ++ [e]) := by
  have a2 := ((oa.alloc X2).kept gb (.inr (by simpa [Value.ownBlock] using h12))).alloc X3
  have a3 := a2.kept gc (.inr (by simpa [Value.ownBlock] using h13))
  have b3 := (ob.alloc X3).kept gc (.inr (by simpa [Value.ownBlock] using h23))
  refine ⟨?_, ?_, ?_⟩
  · rw [List.length_append, List.map_append]; exact a3
  · rw [List.length_append, List.map_append]; exact b3
  · rw [List.length_append, List.map_append]; exact oc

/-- A mode set in place. -/
theorem PairAt.setM (h : PairAt w N g1 g2 g3 n P) (h13 : g1 ≠ g3) (h23 : g2 ≠ g3) {c : Nat} (hc : c < P.length) (m : Int) : PairAt (w.setCell ⟨g3, c, none⟩ (.int .i64 m)) N g1 g2 g3 n (P.set c ⟨P[c].t, P[c].o, m⟩) := by
  obtain ⟨s, gr⟩ := h.c.stored c (.int .i64 m)
  have a := h.a.kept gr (.inr (by simpa [Value.ownBlock] using h13))
  have b := h.b.kept gr (.inr (by simpa [Value.ownBlock] using h23))
  have ea : (P.set c ⟨P[c].t, P[c].o, m⟩).map (fun e => (.int .i64 e.t : Value)) = P.map fun e => .int .i64 e.t := by
    rw [List.map_set]
    have : (P.map fun e => (.int .i64 e.t : Value))[c]'(by simpa using hc) = .int .i64 P[c].t := by simp
    rw [← this, List.set_getElem_self]
  have eb : (P.set c ⟨P[c].t, P[c].o, m⟩).map (fun e => (.string e.o : Value)) = P.map fun e => .string e.o := by
    rw [List.map_set]
    have : (P.map fun e => (.string e.o : Value))[c]'(by simpa using hc) = .string P[c].o := by simp
    rw [← this, List.set_getElem_self]
  have ec : (P.set c ⟨P[c].t, P[c].o, m⟩).map (fun e => (.int .i64 e.m : Value)) = (P.map fun e => (.int .i64 e.m : Value)).set c (.int .i64 m) := by rw [List.map_set]
  refine ⟨?_, ?_, ?_⟩
  · rw [List.length_set, ea]; exact a
  · rw [List.length_set, eb]; exact b
  · rw [List.length_set, ec]; exact s

/-- Nothing to set: the mode was the stronger already. -/
theorem set_self_m {c : Nat} (hc : c < P.length) {m : Int} (hm : m ≤ P[c].m) : P.set c ⟨P[c].t, P[c].o, max P[c].m m⟩ = P := by
  rw [Int.max_eq_left hm]
  exact List.set_getElem_self hc

theorem pgrant_hit {t : Int} {o : ByteArray} {m : Int} {c : Nat} (hc : c < P.length) (he : hit P[c] t o = true) (hno : ∀ j (hj : j < P.length), j < c → hit P[j] t o = false) : pgrant P t o m = P.set c ⟨P[c].t, P[c].o, max P[c].m m⟩ := by
  unfold pgrant
  rw [if_pos (pholds_at hc he), praise_at P t o m c hc he hno]
theorem pgrant_miss {t : Int} {o : ByteArray} {m : Int} (hno : ∀ j (hj : j < P.length), hit P[j] t o = false) : pgrant P t o m = P ++ [⟨t, o, m⟩] := by
  unfold pgrant
  rw [pholds_none hno]
  simp

/-- The holders that the list says: the cells of the two rows handed out. -/
theorem got_at {S : St} (hA : Agree S P) {o : ByteArray} {g n' cap : Nat} (hn : n' = (S.H o).length) (h : w.ownsRow N 3 1 (.slice (some ⟨g, 0, none⟩) n' cap) n' ((S.H o).map fun p => .int .i64 p.1)) {j : Nat} (hj : j < P.length) (ho : P[j].o = o) :
    w.cell? ⟨g, ((P.take j).filter (atO o)).length, none⟩ = some (.int .i64 P[j].t) ∧ ((P.take j).filter (atO o)).length < n' := by
  have hp : atO o P[j] = true := by simp [atO, ho]
  have h1 := filter_at (atO o) P j hj hp
  have h2 := count_lt (atO o) P j hj hp
  have hl : n' = (P.filter (atO o)).length := by rw [hn, hA.H o, List.length_map]
  refine ⟨?_, by omega⟩
  rw [h.cellAt _ (by omega), hA.H o, List.map_map, List.getElem?_map, h1]
  rfl
theorem gotM_at {S : St} (hA : Agree S P) {o : ByteArray} {g n' cap : Nat} (hn : n' = (S.H o).length) (h : w.ownsRow N 3 1 (.slice (some ⟨g, 0, none⟩) n' cap) n' ((S.H o).map fun p => .int .i64 p.2)) {j : Nat} (hj : j < P.length) (ho : P[j].o = o) :
    w.cell? ⟨g, ((P.take j).filter (atO o)).length, none⟩ = some (.int .i64 P[j].m) := by
  have hp : atO o P[j] = true := by simp [atO, ho]
  have h1 := filter_at (atO o) P j hj hp
  have h2 := count_lt (atO o) P j hj hp
  have hl : n' = (P.filter (atO o)).length := by rw [hn, hA.H o, List.length_map]
  rw [h.cellAt _ (by omega), hA.H o, List.map_map, List.getElem?_map, h1]
  rfl
theorem got_end {S : St} (hA : Agree S P) (o : ByteArray) : ((P.take P.length).filter (atO o)).length = (S.H o).length := by
  rw [List.take_length, hA.H o, List.length_map]
theorem held_at {S : St} (hA : Agree S P) {t : Int} {g n' cap : Nat} (hn : n' = (S.G t).length) (h : w.ownsRow N 9 1 (.slice (some ⟨g, 0, none⟩) n' cap) n' ((S.G t).map Value.string)) {j : Nat} (hj : j < P.length) (ht : P[j].t = t) :
    w.cell? ⟨g, ((P.take j).filter (atT t)).length, none⟩ = some (.string P[j].o) := by
  have hp : atT t P[j] = true := by simp [atT, ht]
  have h1 := filter_at (atT t) P j hj hp
  have h2 := count_lt (atT t) P j hj hp
  have hl : n' = (P.filter (atT t)).length := by rw [hn, hA.G t, List.length_map]
  rw [h.cellAt _ (by omega), hA.G t, List.map_map, List.getElem?_map, h1]
  rfl
theorem held_lt {S : St} (hA : Agree S P) {t : Int} {j : Nat} (hj : j < P.length) (ht : P[j].t = t) : ((P.take j).filter (atT t)).length < (S.G t).length := by
  have hp : atT t P[j] = true := by simp [atT, ht]
  have h2 := count_lt (atT t) P j hj hp
  rw [hA.G t, List.length_map]
  exact h2
theorem held_end {S : St} (hA : Agree S P) (t : Int) : ((P.take P.length).filter (atT t)).length = (S.G t).length := by
  rw [List.take_length, hA.G t, List.length_map]

theorem own_addr {w : World} {base : Nat} {e : TypeId} {size : Nat} {ao : Option Addr} {n cap : Nat} {xs : List Value} (h : w.ownsRow base e size (.slice ao n cap) n xs) : n ≠ 0 → ∃ g, ao = some ⟨g, 0, none⟩ := fun hn => by
  rcases h.2 with ⟨e1, e2⟩ | ⟨g, c, cur, hv, _⟩
  · exact absurd e2 hn
  · simp only [Value.slice.injEq] at hv
    exact ⟨g, hv.1⟩
end
end Go.Proofs.Qxb6628846a
