/-
  The snapshots of the first pass, in memory: five slices side by side, and the rows that they lead to.
-/
import Derived.Test.Qxb6628846aHeld
import Derived.Test.Qxb6628846aPlainD
namespace Go.Proofs.Qxb6628846a
open Go.RowKit

theorem own_base {w : World} {base base' : Nat} {e : TypeId} {size : Nat} {v : Value} {n : Nat} {xs : List Value} (h : w.ownsRow base e size v n xs) (hb : base' ≤ base) : w.ownsRow base' e size v n xs := by
  obtain ⟨h1, h2⟩ := h
  refine ⟨h1, ?_⟩
  rcases h2 with h2 | ⟨g, cap, cur, hv, hg, r⟩
  · exact .inl h2
  · exact .inr ⟨g, cap, cur, hv, by omega, r⟩

/-- A row of n one-cell elements at the head of block g, whatever it holds. -/
def Arr (w : World) (N : Nat) (e : TypeId) (g n : Nat) : Prop := ∃ xs, w.ownsRow N e 1 (.slice (some ⟨g, 0, none⟩) n n) n xs

theorem Arr.block {w : World} {N g n : Nat} {e : TypeId} (h : Arr w N e g n) : ∃ cur, w.heap[g]? = some (.cells cur e (0, 0)) := by
  obtain ⟨xs, h⟩ := h
  exact own_block h rfl
theorem Arr.lt {w : World} {N g n : Nat} {e : TypeId} (h : Arr w N e g n) : g < w.heap.size := by
  obtain ⟨xs, h⟩ := h; exact (h.lt g rfl).2
theorem Arr.frozen {w : World} {N g n : Nat} {e : TypeId} (h : Arr w N e g n) (k : Nat) : w.frozen? ⟨g, k, none⟩ = false := by
  obtain ⟨xs, h⟩ := h; exact h.frozenAt k
theorem Arr.there {w : World} {N g n : Nat} {e : TypeId} (h : Arr w N e g n) {k : Nat} (hk : k < n) : ∃ u, w.cell? ⟨g, k, none⟩ = some u := by
  obtain ⟨xs, h⟩ := h; exact cell_ex h hk (by have := h.1; omega)
theorem Arr.same {w w' : World} {N g n : Nat} {e : TypeId} (h : Arr w N e g n) (hb : w'.heap[g]? = w.heap[g]?) : Arr w' N e g n := by
  obtain ⟨xs, h⟩ := h
  exact ⟨xs, ownsRow_same h fun g' hg' => by simp [Value.ownBlock] at hg'; subst hg'; exact hb⟩
theorem Arr.set {w : World} {N g n : Nat} {e : TypeId} (h : Arr w N e g n) (k : Nat) (v : Value) : Arr (w.setCell ⟨g, k, none⟩ v) N e g n := by
  obtain ⟨xs, h⟩ := h; exact ⟨_, (h.stored k v).1⟩

theorem cell_set_ne {w : World} {b o b' o' : Nat} {v : Value} (h : ¬ (b' = b ∧ o' = o)) : (w.setCell ⟨b', o', none⟩ v).cell? ⟨b, o, none⟩ = w.cell? ⟨b, o, none⟩ :=
  World.cell?_setCell_other w _ _ _ (fun e => h (by simp only [Addr.mk.injEq, and_true] at e; exact e))
theorem cell_set_eq {w : World} {b o : Nat} {v u : Value} (h : w.cell? ⟨b, o, none⟩ = some u) : (w.setCell ⟨b, o, none⟩ v).cell? ⟨b, o, none⟩ = some v := World.cell?_setCell_same w _ _ h

section
variable (N gT gM gH gO gX n : Nat) (S : St) (sc : List Gr)

structure Five (w : World) : Prop where
  T : Arr w N 22 gT n
  M : Arr w N 22 gM n
  Y : Arr w N 23 gH n
  O : Arr w N 4 gO n
  X : Arr w N 4 gX n

def TM (w : World) (o : ByteArray) (i : Nat) : Prop := ∃ g g', w.cell? ⟨gT, i, none⟩ = some (.slice (some ⟨g, 0, none⟩) (S.H o).length (S.H o).length) ∧ w.cell? ⟨gM, i, none⟩ = some (.slice (some ⟨g', 0, none⟩) (S.H o).length (S.H o).length) ∧
  w.ownsRow N 3 1 (.slice (some ⟨g, 0, none⟩) (S.H o).length (S.H o).length) (S.H o).length ((S.H o).map fun p => .int .i64 p.1) ∧ w.ownsRow N 3 1 (.slice (some ⟨g', 0, none⟩) (S.H o).length (S.H o).length) (S.H o).length ((S.H o).map fun p => .int .i64 p.2)
def HH (w : World) (t : Int) (i : Nat) : Prop := ∃ ao cap, w.cell? ⟨gH, i, none⟩ = some (.slice ao (S.G t).length cap) ∧ w.ownsRow N 9 1 (.slice ao (S.G t).length cap) (S.G t).length ((S.G t).map Value.string)
def Item (w : World) (e : Gr) (i : Nat) : Prop := (∃ b, w.cell? ⟨gO, i, none⟩ = some (.bool b) ∧ (b = true → TM N gT gM S w e.o i)) ∧ (∃ b, w.cell? ⟨gX, i, none⟩ = some (.bool b) ∧ (b = true → HH N gH S w e.t i))

/-- The rows are left alone. -/
def RowsKept (w w' : World) : Prop := ∀ (g : Nat) (cur : Array Value) (e : TypeId), (e = 3 ∨ e = 9) → w.heap[g]? = some (Obj.cells cur e (0, 0)) → w'.heap[g]? = w.heap[g]?
end

section
variable {N gT gM gH gO gX n : Nat} {S : St} {sc : List Gr} {w w' : World}

theorem rowsKept_set {g k : Nat} {v : Value} {cur : Array Value} {e : TypeId} (hg : w.heap[g]? = some (.cells cur e (0, 0))) (he : e ≠ 3 ∧ e ≠ 9) : RowsKept w (w.setCell ⟨g, k, none⟩ v) := fun g' cur' e' he' hg' =>
  heap_setCell_other w _ g' v (fun h => by
    simp only at h
    subst h
    rw [hg] at hg'
    simp only [Option.some.injEq, Obj.cells.injEq] at hg'
    rcases he' with rfl | rfl
    · exact he.1 hg'.2.1
    · exact he.2 hg'.2.1)
theorem rowsKept_below (h : Below w.heap.size w w') : RowsKept w w' := fun g _ _ _ hg => h.block g (Array.getElem?_eq_some_iff.1 hg).1
theorem RowsKept.trans {w'' : World} (h : RowsKept w w') (k : RowsKept w' w'') : RowsKept w w'' := fun g cur e he hg => by
  have h1 := h g cur e he hg
  exact (k g cur e he (h1.trans hg)).trans h1

theorem TM.keep {o : ByteArray} {i : Nat} (h : TM N gT gM S w o i) (hT : w'.cell? ⟨gT, i, none⟩ = w.cell? ⟨gT, i, none⟩) (hM : w'.cell? ⟨gM, i, none⟩ = w.cell? ⟨gM, i, none⟩) (hr : RowsKept w w') : TM N gT gM S w' o i := by
  obtain ⟨g, g', h1, h2, h3, h4⟩ := h
  refine ⟨g, g', hT.trans h1, hM.trans h2, ownsRow_same h3 fun z hz => ?_, ownsRow_same h4 fun z hz => ?_⟩
  · obtain ⟨cur, hc⟩ := own_block h3 hz
    exact hr z cur 3 (.inl rfl) hc
  · obtain ⟨cur, hc⟩ := own_block h4 hz
    exact hr z cur 3 (.inl rfl) hc
theorem HH.keep {t : Int} {i : Nat} (h : HH N gH S w t i) (hH : w'.cell? ⟨gH, i, none⟩ = w.cell? ⟨gH, i, none⟩) (hr : RowsKept w w') : HH N gH S w' t i := by
  obtain ⟨ao, cap, h1, h3⟩ := h
  refine ⟨ao, cap, hH.trans h1, ownsRow_same h3 fun z hz => ?_⟩
  obtain ⟨cur, hc⟩ := own_block h3 hz
  exact hr z cur 9 (.inr rfl) hc
theorem Item.keep {e : Gr} {i : Nat} (h : Item N gT gM gH gO gX S w e i) (hc : ∀ g, g = gT ∨ g = gM ∨ g = gH ∨ g = gO ∨ g = gX → w'.cell? ⟨g, i, none⟩ = w.cell? ⟨g, i, none⟩) (hr : RowsKept w w') : Item N gT gM gH gO gX S w' e i := by
  obtain ⟨⟨b, h1, h2⟩, ⟨b', h3, h4⟩⟩ := h
  exact ⟨⟨b, (hc gO (by simp)).trans h1, fun hb => (h2 hb).keep (hc gT (by simp)) (hc gM (by simp)) hr⟩, ⟨b', (hc gX (by simp)).trans h3, fun hb => (h4 hb).keep (hc gH (by simp)) hr⟩⟩

/-- All items below k; the five slices; the two flags of item k. -/
structure Stg (N gT gM gH gO gX n : Nat) (S : St) (sc : List Gr) (w : World) (k : Nat) (b1 b2 : Bool) : Prop where
  five : Five N gT gM gH gO gX n w
  items : ∀ i (h : i < sc.length), i < k → Item N gT gM gH gO gX S w sc[i] i
  fo : w.cell? ⟨gO, k, none⟩ = some (.bool b1)
  fx : w.cell? ⟨gX, k, none⟩ = some (.bool b2)

theorem Five.below (h : Five N gT gM gH gO gX n w) (hb : Below w.heap.size w w') : Five N gT gM gH gO gX n w' :=
  ⟨h.T.same (hb.block _ h.T.lt), h.M.same (hb.block _ h.M.lt), h.Y.same (hb.block _ h.Y.lt), h.O.same (hb.block _ h.O.lt), h.X.same (hb.block _ h.X.lt)⟩
theorem Five.cell_below (h : Five N gT gM gH gO gX n w) (hb : Below w.heap.size w w') (i : Nat) : ∀ g, g = gT ∨ g = gM ∨ g = gH ∨ g = gO ∨ g = gX → w'.cell? ⟨g, i, none⟩ = w.cell? ⟨g, i, none⟩ := by
  intro g hg
  rcases hg with rfl | rfl | rfl | rfl | rfl
  · exact hb.cell h.T.lt
  · exact hb.cell h.M.lt
  · exact hb.cell h.Y.lt
  · exact hb.cell h.O.lt
  · exact hb.cell h.X.lt
theorem Item.below (hf : Five N gT gM gH gO gX n w) {e : Gr} {i : Nat} (h : Item N gT gM gH gO gX S w e i) (hb : Below w.heap.size w w') : Item N gT gM gH gO gX S w' e i := h.keep (hf.cell_below hb i) (rowsKept_below hb)

/-- The flags of item k are stored. -/
theorem stg_flags (hord : gT < gM ∧ gM < gH ∧ gH < gO ∧ gO < gX) (hf : Five N gT gM gH gO gX n w) {k : Nat} (hk : k < n) (hi : ∀ i (h : i < sc.length), i < k → Item N gT gM gH gO gX S w sc[i] i) (b1 b2 : Bool) :
    Stg N gT gM gH gO gX n S sc ((w.setCell ⟨gO, k, none⟩ (.bool b1)).setCell ⟨gX, k, none⟩ (.bool b2)) k b1 b2 := by
  have oth : ∀ g, g ≠ gO → g ≠ gX → ((w.setCell ⟨gO, k, none⟩ (.bool b1)).setCell ⟨gX, k, none⟩ (.bool b2)).heap[g]? = w.heap[g]? := fun g h1 h2 => (heap_setCell_other _ _ g _ (by simpa using h2)).trans (heap_setCell_other _ _ g _ (by simpa using h1))
  obtain ⟨curO, hO⟩ := hf.O.block
  obtain ⟨curX, hX⟩ := hf.X.block
  have hX1 : (w.setCell ⟨gO, k, none⟩ (.bool b1)).heap[gX]? = some (.cells curX 4 (0, 0)) := (heap_setCell_other _ _ gX _ (by simp; omega)).trans hX
  obtain ⟨uO, cO⟩ := hf.O.there hk
  obtain ⟨uX, cX⟩ := hf.X.there hk
  refine ⟨⟨hf.T.same (oth _ (by omega) (by omega)), hf.M.same (oth _ (by omega) (by omega)), hf.Y.same (oth _ (by omega) (by omega)), ?_, ?_⟩, fun i h hik => (hi i h hik).keep ?_ ?_, ?_, ?_⟩
  · exact (hf.O.set k (.bool b1)).same (heap_setCell_other _ _ gO _ (by simp; omega))
  · exact (hf.X.same (heap_setCell_other _ _ gX _ (by simp; omega))).set k (.bool b2)
  · intro g hg
    rw [cell_set_ne (by omega), cell_set_ne (by omega)]
  · exact (rowsKept_set hO (by decide)).trans (rowsKept_set hX1 (by decide))
  · rw [cell_set_ne (by omega)]; exact cell_set_eq cO
  · exact cell_set_eq (u := uX) (by rw [cell_set_ne (by omega)]; exact cX)

theorem Stg.below {k : Nat} {b1 b2 : Bool} (h : Stg N gT gM gH gO gX n S sc w k b1 b2) (hb : Below w.heap.size w w') : Stg N gT gM gH gO gX n S sc w' k b1 b2 :=
  ⟨h.five.below hb, fun i hi hik => Item.below h.five (h.items i hi hik) hb, (hb.cell h.five.O.lt).trans h.fo, (hb.cell h.five.X.lt).trans h.fx⟩

/-- The two slices of item k are stored. -/
theorem stg_TM (hord : gT < gM ∧ gM < gH ∧ gH < gO ∧ gO < gX) {k : Nat} (hk : k < n) {b1 b2 : Bool} (h : Stg N gT gM gH gO gX n S sc w k b1 b2) {o : ByteArray} {ga gb : Nat} {vT vM : Value} (hvT : vT = .slice (some ⟨ga, 0, none⟩) (S.H o).length (S.H o).length) (hvM : vM = .slice (some ⟨gb, 0, none⟩) (S.H o).length (S.H o).length)
    (ra : w.ownsRow N 3 1 (.slice (some ⟨ga, 0, none⟩) (S.H o).length (S.H o).length) (S.H o).length ((S.H o).map fun p => .int .i64 p.1)) (rb : w.ownsRow N 3 1 (.slice (some ⟨gb, 0, none⟩) (S.H o).length (S.H o).length) (S.H o).length ((S.H o).map fun p => .int .i64 p.2)) :
    Stg N gT gM gH gO gX n S sc ((w.setCell ⟨gT, k, none⟩ vT).setCell ⟨gM, k, none⟩ vM) k b1 b2 ∧
      TM N gT gM S ((w.setCell ⟨gT, k, none⟩ vT).setCell ⟨gM, k, none⟩ vM) o k := by
  have hf := h.five
  have oth : ∀ g, g ≠ gT → g ≠ gM → ((w.setCell ⟨gT, k, none⟩ vT).setCell ⟨gM, k, none⟩ vM).heap[g]? = w.heap[g]? := fun g h1 h2 => (heap_setCell_other _ _ g _ (by simpa using h2)).trans (heap_setCell_other _ _ g _ (by simpa using h1))
  obtain ⟨curT, hT⟩ := hf.T.block
  obtain ⟨curM, hM⟩ := hf.M.block
  have hM1 : (w.setCell ⟨gT, k, none⟩ vT).heap[gM]? = some (.cells curM 22 (0, 0)) := (heap_setCell_other _ _ gM _ (by simp; omega)).trans hM
  obtain ⟨uT, cT⟩ := hf.T.there hk
  obtain ⟨uM, cM⟩ := hf.M.there hk
  have rk : RowsKept w ((w.setCell ⟨gT, k, none⟩ vT).setCell ⟨gM, k, none⟩ vM) := (rowsKept_set hT (by decide)).trans (rowsKept_set hM1 (by decide))
  refine ⟨⟨⟨?_, ?_, hf.Y.same (oth _ (by omega) (by omega)), hf.O.same (oth _ (by omega) (by omega)), hf.X.same (oth _ (by omega) (by omega))⟩, fun i hi hik => (h.items i hi hik).keep ?_ rk, ?_, ?_⟩, ga, gb, ?_, ?_, ?_, ?_⟩
  · exact (hf.T.set k vT).same (heap_setCell_other _ _ gT _ (by simp; omega))
  · exact (hf.M.same (heap_setCell_other _ _ gM _ (by simp; omega))).set k vM
  · intro g hg
    rw [cell_set_ne (by omega), cell_set_ne (by omega)]
  · rw [cell_set_ne (by omega), cell_set_ne (by omega)]; exact h.fo
  · rw [cell_set_ne (by omega), cell_set_ne (by omega)]; exact h.fx
  · rw [cell_set_ne (by omega)]; exact (cell_set_eq cT).trans (by rw [hvT])
  · exact (cell_set_eq (u := uM) (by rw [cell_set_ne (by omega)]; exact cM)).trans (by rw [hvM])
  · exact ownsRow_same ra fun z hz => by
      obtain ⟨cur, hc⟩ := own_block ra hz
      exact rk z cur 3 (.inl rfl) hc
  · exact ownsRow_same rb fun z hz => by
      obtain ⟨cur, hc⟩ := own_block rb hz
      exact rk z cur 3 (.inl rfl) hc

/-- The held objects of item k are stored. -/
theorem stg_HH (hord : gT < gM ∧ gM < gH ∧ gH < gO ∧ gO < gX) {k : Nat} (hk : k < n) {b1 b2 : Bool} (h : Stg N gT gM gH gO gX n S sc w k b1 b2) {t : Int} {ao : Option Addr} {cap : Nat} {vH : Value} (hvH : vH = .slice ao (S.G t).length cap)
    (rh : w.ownsRow N 9 1 (.slice ao (S.G t).length cap) (S.G t).length ((S.G t).map Value.string)) :
    Stg N gT gM gH gO gX n S sc (w.setCell ⟨gH, k, none⟩ vH) k b1 b2 ∧ HH N gH S (w.setCell ⟨gH, k, none⟩ vH) t k ∧
      ∀ o, TM N gT gM S w o k → TM N gT gM S (w.setCell ⟨gH, k, none⟩ vH) o k := by
  have hf := h.five
  have oth : ∀ g, g ≠ gH → (w.setCell ⟨gH, k, none⟩ vH).heap[g]? = w.heap[g]? := fun g h1 => heap_setCell_other _ _ g _ (by simpa using h1)
  obtain ⟨curH, hH⟩ := hf.Y.block
  obtain ⟨uH, cH⟩ := hf.Y.there hk
  have rk : RowsKept w (w.setCell ⟨gH, k, none⟩ vH) := rowsKept_set hH (by decide)
  refine ⟨⟨⟨hf.T.same (oth _ (by omega)), hf.M.same (oth _ (by omega)), hf.Y.set k vH, hf.O.same (oth _ (by omega)), hf.X.same (oth _ (by omega))⟩, fun i hi hik => (h.items i hi hik).keep ?_ rk, ?_, ?_⟩, ⟨ao, cap, ?_, ?_⟩, fun o ht => ht.keep ?_ ?_ rk⟩
  · intro g hg
    rw [cell_set_ne (by omega)]
  · rw [cell_set_ne (by omega)]; exact h.fo
  · rw [cell_set_ne (by omega)]; exact h.fx
  · exact (cell_set_eq cH).trans (by rw [hvH])
  · exact ownsRow_same rh fun z hz => by
      obtain ⟨cur, hc⟩ := own_block rh hz
      exact rk z cur 9 (.inr rfl) hc
  · rw [cell_set_ne (by omega)]
  · rw [cell_set_ne (by omega)]

/-- Item k is whole. -/
theorem Stg.done {k : Nat} {b1 b2 : Bool} (h : Stg N gT gM gH gO gX n S sc w k b1 b2) (hk : k < sc.length) (h1 : b1 = true → TM N gT gM S w sc[k].o k) (h2 : b2 = true → HH N gH S w sc[k].t k) :
    ∀ i (hi : i < sc.length), i < k + 1 → Item N gT gM gH gO gX S w sc[i] i := by
  intro i hi hik
  by_cases e : i = k
  · subst e
    exact ⟨⟨b1, h.fo, h1⟩, ⟨b2, h.fx, h2⟩⟩
  · exact h.items i hi (by omega)

/-- What lies from N up to M is left alone: items and slices stay. -/
theorem five_range {M : Nat} (hf : Five N gT gM gH gO gX n w) (hM : w.heap.size ≤ M) (hN : N ≤ gT ∧ gT < gM ∧ gM < gH ∧ gH < gO ∧ gO < gX) (hb : ∀ k, N ≤ k → k < M → w'.heap[k]? = w.heap[k]?) : Five N gT gM gH gO gX n w' :=
  ⟨hf.T.same (hb _ (by omega) (Nat.lt_of_lt_of_le hf.T.lt hM)), hf.M.same (hb _ (by omega) (Nat.lt_of_lt_of_le hf.M.lt hM)), hf.Y.same (hb _ (by omega) (Nat.lt_of_lt_of_le hf.Y.lt hM)), hf.O.same (hb _ (by omega) (Nat.lt_of_lt_of_le hf.O.lt hM)), hf.X.same (hb _ (by omega) (Nat.lt_of_lt_of_le hf.X.lt hM))⟩

theorem own_range {M : Nat} {e : TypeId} {v : Value} {m : Nat} {xs : List Value} (h : w.ownsRow N e 1 v m xs) (hM : w.heap.size ≤ M) (hb : ∀ k, N ≤ k → k < M → w'.heap[k]? = w.heap[k]?) : w'.ownsRow N e 1 v m xs :=
  ownsRow_same h fun g hg => hb g (h.lt g hg).1 (Nat.lt_of_lt_of_le (h.lt g hg).2 hM)

theorem item_range {M : Nat} {e : Gr} {i : Nat} (hf : Five N gT gM gH gO gX n w) (h : Item N gT gM gH gO gX S w e i) (hM : w.heap.size ≤ M) (hN : N ≤ gT ∧ gT < gM ∧ gM < gH ∧ gH < gO ∧ gO < gX) (hb : ∀ k, N ≤ k → k < M → w'.heap[k]? = w.heap[k]?) : Item N gT gM gH gO gX S w' e i := by
  have cs : ∀ g, N ≤ g → g < w.heap.size → w'.cell? ⟨g, i, none⟩ = w.cell? ⟨g, i, none⟩ := fun g h1 h2 => World.cell?_of_block (w := w) (a := ⟨g, i, none⟩) (hb g h1 (Nat.lt_of_lt_of_le h2 hM))
  obtain ⟨⟨b, h1, h2⟩, ⟨b', h3, h4⟩⟩ := h
  refine ⟨⟨b, (cs gO (by omega) hf.O.lt).trans h1, fun hb1 => ?_⟩, ⟨b', (cs gX (by omega) hf.X.lt).trans h3, fun hb1 => ?_⟩⟩
  · obtain ⟨g, g', q1, q2, q3, q4⟩ := h2 hb1
    exact ⟨g, g', (cs gT (by omega) hf.T.lt).trans q1, (cs gM (by omega) hf.M.lt).trans q2, own_range q3 hM hb, own_range q4 hM hb⟩
  · obtain ⟨ao, cap, q1, q2⟩ := h4 hb1
    exact ⟨ao, cap, (cs gH (by omega) hf.Y.lt).trans q1, own_range q2 hM hb⟩
end
end Go.Proofs.Qxb6628846a
