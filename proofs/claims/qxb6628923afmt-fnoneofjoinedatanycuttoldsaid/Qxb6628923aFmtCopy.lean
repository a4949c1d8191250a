/-
  A slice of strings copied into a row of the call's own make.
-/
import Derived.Test.Qxb6628923aFmtArgs
import Derived.Laws.CopyOwn
import Derived.OwnWalk
namespace Go.Proofs.Qxb6628923aFmt
open Go.RowKit

theorem info9 : (Tryf.prog.info? 9).map (fun i => (i.zero, i.size, i.bytes)) = some (some (.string ByteArray.empty), 1, 16) := by kernel_rfl
theorem size9 : (Tryf.prog.info? 9).map (·.size) = some 1 := by kernel_rfl
theorem info_parts {P : Program} {t : TypeId} {z : Option Value} {s b : Nat} (h : (P.info? t).map (fun i => (i.zero, i.size, i.bytes)) = some (z, s, b)) : ∃ i, P.info? t = some i ∧ i.zero = z ∧ i.size = s ∧ i.bytes = b := by
  cases hi : P.info? t with
  | none => rw [hi] at h; cases h
  | some i => rw [hi] at h; simp at h; exact ⟨i, rfl, h.1, h.2.1, h.2.2⟩

def strs (l : List ByteArray) : List Value := l.map .string
theorem strs_length (l : List ByteArray) : (strs l).length = l.length := by simp [strs]
theorem strs_one (l : List ByteArray) : ∀ v ∈ strs l, v.oneCell' = true := by
  intro v hv
  simp only [strs, List.mem_map] at hv
  obtain ⟨x, _, rfl⟩ := hv
  rfl

theorem own_row {w : World} {base n g : Nat} {e : TypeId} {xs : List Value} (h : w.ownsRow base e 1 (.slice (some ⟨g, 0, none⟩) n n) n xs) : ∃ Z : List Value, Z.length = n ∧ w.heap[g]? = some (.cells Z.toArray e (0, 0)) := by
  obtain ⟨_, h | ⟨g', cap, cur, hv, _, hh, _, _, hs, _⟩⟩ := h
  · cases h.1
  · simp only [Value.slice.injEq, Option.some.injEq, Addr.mk.injEq] at hv
    obtain ⟨⟨rfl, _, _⟩, _, rfl⟩ := hv
    exact ⟨cur.toList, by simp [hs], by simpa using hh⟩

theorem own_rowH {w : World} {base n g : Nat} {e : TypeId} {xs : List Value} (h : w.ownsRow base e 1 (.slice (some ⟨g, 0, none⟩) n n) n xs) : ∃ Z : List Value, Z.length = n ∧ Hid (w.heap[g]? = some (.cells Z.toArray e (0, 0))) := own_row h
theorem splice_all {α : Type} (Z cs : List α) (h : Z.length = cs.length) : splice Z 0 cs = cs := by
  simp [splice, ← h]

theorem cell_heap {w : World} {g : Nat} {t : TypeId} {fz : Nat × Nat} {cs : List Value} (h : w.heap[g]? = some (.cells cs.toArray t fz)) (j : Nat) (hj : j < cs.length) : w.cell? ⟨g, j, none⟩ = some cs[j] := by
  simp [World.cell?, h, hj]

theorem ssl_heap {w : World} {g : Nat} {t : TypeId} {l : List ByteArray} (h : w.heap[g]? = some (.cells (strs l).toArray t (0, 0))) : SSl w (some ⟨g, 0, none⟩) g 0 l := by
  refine ⟨fun _ => ⟨rfl, ?_⟩, fun j hj => ?_⟩
  · rcases Nat.lt_or_ge g w.heap.size with h1 | h1
    · exact h1
    · rw [Array.getElem?_eq_none h1] at h; cases h
  · have := cell_heap h j (by simpa [strs] using hj)
    rw [Nat.zero_add]
    simpa [strs] using this

/-- What the copy's law asks of the source. -/
theorem src_of {w w1 : World} {ad : Addr} {bk o : Nat} {l : List ByteArray} (hl : SSl w (some ad) bk o l) (hB : Below w.heap.size w w1) :
    0 < (strs l).length → ∃ ad', (some ad : Option Addr) = some ad' ∧ ∀ j v, (strs l)[j]? = some v → w1.cell? (ad'.add j) = some v := by
  intro h
  rw [strs_length] at h
  obtain ⟨ha, hbk⟩ := hl.1 (by intro e; subst e; simp at h)
  cases ha
  refine ⟨_, rfl, fun j v hv => ?_⟩
  simp only [strs, List.getElem?_map, Option.map_eq_some_iff] at hv
  obtain ⟨x, hx, rfl⟩ := hv
  obtain ⟨hj, rfl⟩ := List.getElem?_eq_some_iff.mp hx
  have h1 := (hB.cell (p := ⟨bk, o + j, none⟩) hbk).trans (hl.2 j hj)
  rcases Nat.eq_zero_or_pos j with h0 | h0
  · subst h0; simpa [Addr.add] using h1
  · have : j ≠ 0 := by omega
    simpa [Addr.add, this] using h1

/-- What the law's own bound counts: 16 and the length, a name. -/
def cnt (l : List ByteArray) : Nat := (l.map fun x => 16 + x.size).sum
theorem cnt_succ (l : List ByteArray) (k : Nat) (h : k < l.length) : cnt (l.take (k + 1)) = cnt (l.take k) + (16 + l[k].size) := by
  rw [List.take_succ_eq_append_getElem h]
  simp only [cnt, List.map_append, List.sum_append, List.map_cons, List.map_nil, List.sum_cons, List.sum_nil, Nat.add_zero]
theorem cnt_all (l : List ByteArray) (k : Nat) (h : ¬ k < l.length) : cnt (l.take k) = cnt l := by rw [List.take_of_length_le (by omega)]

theorem cnt_cons (x : ByteArray) (r : List ByteArray) : cnt (x :: r) = 16 + x.size + cnt r := by simp [cnt]
theorem joinTail_cnt (r : List ByteArray) : (Lib.joinTail [44, 32] (r.map (·.data.toList))).length ≤ cnt r := by
  rw [Lib.joinTail_length]
  induction r with
  | nil => simp [Lib.lens, cnt]
  | cons x r ih =>
    rw [cnt_cons]
    simp only [List.map_cons, List.length_cons, Lib.lens, List.sum_cons, List.length_map, List.map_map, List.length_nil] at ih ⊢
    have h : x.data.toList.length = x.size := by simp
    omega
theorem join_len (l : List ByteArray) : (Lib.join (l.map (·.data.toList)) [44, 32]).length ≤ cnt l := by
  cases l with
  | nil => simp [Lib.join_nil]
  | cons x r =>
    have h := joinTail_cnt r
    have h2 : x.data.toList.length = x.size := by simp
    rw [List.map_cons, Lib.join_cons, List.length_append, cnt_cons]
    omega

theorem first_or (l : List ByteArray) (v : ByteArray) : (∃ i, ∃ hi : i < l.length, l[i] = v ∧ ∀ j (hj : j < l.length), j < i → l[j] ≠ v) ∨ ∀ j (hj : j < l.length), l[j] ≠ v := by
  induction l with
  | nil => right; intro j hj; simp at hj
  | cons x r ih =>
    by_cases h : x = v
    · left; exact ⟨0, by simp, by simpa using h, fun j _ hj => by omega⟩
    · rcases ih with ⟨i, hi, h1, h2⟩ | h1
      · left
        refine ⟨i + 1, by simpa using hi, by simpa using h1, fun j hj hlt => ?_⟩
        cases j with
        | zero => simpa using h
        | succ j => simpa using h2 j (by simpa using hj) (by omega)
      · right
        intro j hj
        cases j with
        | zero => simpa using h
        | succ j => simpa using h1 j (by simpa using hj)

end Go.Proofs.Qxb6628923aFmt
