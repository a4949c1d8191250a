/-
  OneOf once more, its answer as one function of the names; and rows of strings that the call itself makes.
-/
import Derived.Test.Qxb6628923aFmtCopy
import Derived.Laws.AppendOwn
namespace Go.Proofs.Qxb6628923aFmt
open Go.RowKit Go.Extern.Stop Go.Stop Go.Extern

def firstIdx (l : List ByteArray) (v : ByteArray) : Option Nat := l.findIdx? (fun x => decide (x = v))
theorem firstIdx_some {l : List ByteArray} {v : ByteArray} {i : Nat} (h : firstIdx l v = some i) : ∃ hi : i < l.length, l[i] = v ∧ ∀ j (hj : j < l.length), j < i → l[j] ≠ v := by
  obtain ⟨hi, h1, h2⟩ := List.findIdx?_eq_some_iff_getElem.mp h
  exact ⟨hi, by simpa using h1, fun j hj hlt => by simpa using h2 j hlt⟩
theorem firstIdx_none {l : List ByteArray} {v : ByteArray} (h : firstIdx l v = none) : ∀ j (hj : j < l.length), l[j] ≠ v := by
  intro j hj
  have := List.findIdx?_eq_none_iff.mp h l[j] (List.getElem_mem hj)
  simpa using this
theorem firstIdx_append (l m : List ByteArray) (v : ByteArray) : firstIdx (l ++ m) v = (firstIdx l v).or ((firstIdx m v).map (· + l.length)) := by
  simp [firstIdx, List.findIdx?_append]

/-- The index that OneOf answers, or none where it refuses. -/
def ans (kd : Int) (l : List ByteArray) (v : ByteArray) : Option Nat := if kd = 1 then firstIdx l v else none
theorem ans_append (kd : Int) (l m : List ByteArray) (v : ByteArray) : ans kd (l ++ m) v = (ans kd l v).or ((ans kd m v).map (· + l.length)) := by
  unfold ans
  split
  · exact firstIdx_append l m v
  · rfl
theorem ans_at {kd : Int} {l : List ByteArray} {v : ByteArray} {i : Nat} (h : ans kd l v = some i) : ∃ hi : i < l.length, l[i] = v := by
  unfold ans at h
  split at h
  · obtain ⟨hi, h1, _⟩ := firstIdx_some h
    exact ⟨hi, h1⟩
  · cases h

def OneR (r : Option Nat) (w w' : World) (e : Ending) : Prop :=
  ∃ er, e = .returned (.tuple #[.int .i64 (r.getD 0 : Nat), er]) ∧ Below w.heap.size w w' ∧ ((r ≠ none ∧ er = .nilIface) ∨ (r = none ∧ ∃ b, er = .iface 40 (.pointer (some ⟨b, 0, none⟩))))

theorem oneOf_any (F : Interp) (nb : Nat) (kd line : Int) (v p wh pl : ByteArray) (a : Option Addr) (bk o c : Nat) (l : List ByteArray) (w : World) (hF : F.answers w.tape) (hn : NodeAt w nb kd line v) (hl : SSl w a bk o l) (hs : l.length ≤ 1048576) (hcap : l.length ≤ c)
    (hlen : cnt l ≤ 1048576) :
    Calls Tryf.prog 6 #[.pointer (some ⟨nb, 0, none⟩), .string p, .slice a l.length c, .string wh, .string pl] w fun e w' => OneR (ans kd l v) w w' e := by
  by_cases hk : kd = 1
  · subst hk
    cases h : firstIdx l v with
    | some i =>
      obtain ⟨hi, hv, hb⟩ := firstIdx_some h
      have e1 : ans 1 l v = some i := by simp [ans, h]
      rw [e1]
      refine (oneOf_hit nb line v p wh pl a bk o c l w hn hl hs i hi hv hb).mono ?_
      rintro e w' ⟨rfl, rfl⟩
      exact ⟨_, rfl, Below.refl _ _, Or.inl ⟨by simp, rfl⟩⟩
    | none =>
      have e1 : ans 1 l v = none := by simp [ans, h]
      rw [e1]
      refine (oneOf_miss F nb line v p wh pl a bk o c l w hF hn hl hs hcap (Nat.le_trans (join_len l) (by omega)) (firstIdx_none h)).mono ?_
      rintro e w' ⟨er, rfl, b, rfl, _, _, _, _, hB⟩
      exact ⟨_, rfl, hB, Or.inr ⟨rfl, b, rfl⟩⟩
  · have e1 : ans kd l v = none := by simp [ans, hk]
    rw [e1]
    refine (oneOf_kind F nb kd line v p wh pl a l.length c w hF hn hk).mono ?_
    rintro e w' ⟨er, rfl, b, rfl, _, _, _, _, hB⟩
    exact ⟨_, rfl, hB, Or.inr ⟨rfl, b, rfl⟩⟩

theorem own_exact {w : World} {base n g : Nat} {e : TypeId} {xs : List Value} (h : w.ownsRow base e 1 (.slice (some ⟨g, 0, none⟩) n n) n xs) : w.heap[g]? = some (.cells xs.toArray e (0, 0)) := by
  obtain ⟨_, h | ⟨g', cap, cur, hv, _, hh, _, _, hs, hx⟩⟩ := h
  · cases h.1
  · simp only [Value.slice.injEq, Option.some.injEq, Addr.mk.injEq] at hv
    obtain ⟨⟨rfl, _, _⟩, _, rfl⟩ := hv
    rw [← hx, List.take_of_length_le (by simp [hs])]
    simpa using hh

theorem strs_succ (l : List ByteArray) (k : Nat) (h : k < l.length) : strs (l.take (k + 1)) = strs (l.take k) ++ [.string l[k]] := by
  rw [List.take_succ_eq_append_getElem h]; simp only [strs, List.map_append, List.map_cons, List.map_nil]
theorem strs_append (l m : List ByteArray) : strs (l ++ m) = strs l ++ strs m := by simp [strs]
theorem cnt_append (l m : List ByteArray) : cnt (l ++ m) = cnt l + cnt m := by simp [cnt]

end Go.Proofs.Qxb6628923aFmt
