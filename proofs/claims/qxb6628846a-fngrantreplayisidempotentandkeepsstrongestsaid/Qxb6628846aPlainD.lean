/-
  The plain laws for the replay: a second pass turns nothing; each pair stands once, with the greatest mode that the script granted to it.
-/
import Derived.Test.Qxb6628846aPlain
namespace Go.Proofs.Qxb6628846a

/-- The mode of the first holder that is t. -/
def look : List (Int × Int) → Int → Option Int
  | [], _ => none
  | p :: r, t => if p.1 = t then some p.2 else look r t

theorem look_raise_same (l : List (Int × Int)) (t m : Int) : look (raise l t m) t = (look l t).map (max · m) := by
  induction l with
  | nil => rfl
  | cons p r ih =>
    unfold raise look
    by_cases h : p.1 = t
    · simp [h]
    · simp [h, ih]
theorem look_raise_other (l : List (Int × Int)) {t t' : Int} (m : Int) (hne : t' ≠ t) : look (raise l t m) t' = look l t' := by
  induction l with
  | nil => rfl
  | cons p r ih =>
    unfold raise
    by_cases h : p.1 = t
    · have : ¬ p.1 = t' := fun e => hne (by rw [← e, h])
      rw [if_pos h]
      simp only [look, this, if_false]
    · rw [if_neg h]
      simp only [look, ih]
theorem look_snoc_same {l : List (Int × Int)} {t : Int} (m : Int) (h : look l t = none) : look (l ++ [(t, m)]) t = some m := by
  induction l with
  | nil => simp [look]
  | cons p r ih =>
    unfold look at h
    split at h
    · cases h
    · rename_i hp
      simp only [List.cons_append, look, hp, if_false]
      exact ih h
theorem look_snoc_other (l : List (Int × Int)) {t t' : Int} (m : Int) (hne : t' ≠ t) : look (l ++ [(t, m)]) t' = look l t' := by
  induction l with
  | nil => simp [look, Ne.symm hne]
  | cons p r ih => simp only [List.cons_append, look, ih]
theorem holds_look (l : List (Int × Int)) (t : Int) : holds l t = (look l t).isSome := by
  induction l with
  | nil => rfl
  | cons p r ih =>
    unfold holds at ih ⊢
    rw [List.any_cons, ih]
    by_cases h : p.1 = t
    · simp [look, h]
    · simp [look, h]
theorem raise_id {l : List (Int × Int)} {t m x : Int} (h : look l t = some x) (hm : m ≤ x) : raise l t m = l := by
  induction l with
  | nil => rfl
  | cons p r ih =>
    unfold look at h
    unfold raise
    by_cases hp : p.1 = t
    · rw [if_pos hp] at h ⊢
      have : p.2 = x := by simpa using h
      rw [this, Int.max_eq_left hm, ← this]
    · rw [if_neg hp] at h ⊢
      rw [ih h]

/-- The greatest mode that the script granted to the pair. -/
def bestStep (t : Int) (o : ByteArray) (b : Option Int) (e : Gr) : Option Int := if hit e t o then some (match b with | none => e.m | some x => max x e.m) else b
def bestOf (sc : List Gr) (t : Int) (o : ByteArray) : Option Int := sc.foldl (bestStep t o) none

theorem best_take (sc : List Gr) (t : Int) (o : ByteArray) (k : Nat) (h : k < sc.length) : bestOf (sc.take (k + 1)) t o = bestStep t o (bestOf (sc.take k) t o) sc[k] := by
  unfold bestOf; rw [List.take_succ_eq_append_getElem h, List.foldl_append]; rfl

theorem look_grant (S : St) (t : Int) (o : ByteArray) (m : Int) (t' : Int) (o' : ByteArray) : look ((S.grant t o m).H o') t' = bestStep t' o' (look (S.H o') t') ⟨t, o, m⟩ := by
  unfold St.grant bestStep
  by_cases ho : o' = o
  · subst ho
    by_cases ht : t' = t
    · subst ht
      have hh : hit ⟨t', o', m⟩ t' o' = true := by simp [hit]
      rw [if_pos hh]
      by_cases hl : holds (S.H o') t' = true
      · rw [if_pos hl]
        simp only [upd_same]
        rw [look_raise_same]
        rw [holds_look] at hl
        obtain ⟨x, hx⟩ := Option.isSome_iff_exists.1 hl
        rw [hx]; rfl
      · rw [if_neg hl]
        simp only [upd_same]
        have hn : look (S.H o') t' = none := by rw [holds_look] at hl; simpa using hl
        rw [look_snoc_same m hn, hn]
    · have hh : ¬ hit ⟨t, o', m⟩ t' o' = true := by simp [hit, Ne.symm ht]
      rw [if_neg hh]
      by_cases hl : holds (S.H o') t = true
      · rw [if_pos hl]
        simp only [upd_same]
        rw [look_raise_other _ _ ht]
      · rw [if_neg hl]
        simp only [upd_same]
        rw [look_snoc_other _ _ ht]
  · have hh : ¬ hit ⟨t, o, m⟩ t' o' = true := by simp [hit, Ne.symm ho]
    rw [if_neg hh]
    by_cases hl : holds (S.H o) t = true
    · rw [if_pos hl]
      simp only [upd_other _ _ ho]
    · rw [if_neg hl]
      simp only [upd_other _ _ ho]

theorem look_run (sc : List Gr) (t : Int) (o : ByteArray) (k : Nat) : look ((St.empty.run (sc.take k)).H o) t = bestOf (sc.take k) t o := by
  induction k with
  | zero => rfl
  | succ k ih =>
    by_cases h : k < sc.length
    · rw [run_take _ _ _ h, best_take _ _ _ _ h, look_grant, ih]
    · rw [List.take_of_length_le (by omega)]
      rwa [List.take_of_length_le (by omega)] at ih

theorem best_mono (sc : List Gr) (t : Int) (o : ByteArray) (b : Option Int) (x : Int) (h : b = some x) : ∃ y, sc.foldl (bestStep t o) b = some y ∧ x ≤ y := by
  induction sc generalizing b x with
  | nil => exact ⟨x, h, by omega⟩
  | cons e r ih =>
    rw [List.foldl_cons]
    by_cases he : hit e t o = true
    · obtain ⟨y, h1, h2⟩ := ih (bestStep t o b e) (max x e.m) (by simp [bestStep, he, h])
      exact ⟨y, h1, by omega⟩
    · exact ih (bestStep t o b e) x (by simp [bestStep, he, h])
theorem best_ge (sc : List Gr) (t : Int) (o : ByteArray) (b : Option Int) (i : Nat) (hi : i < sc.length) (hh : hit sc[i] t o = true) : ∃ x, sc.foldl (bestStep t o) b = some x ∧ sc[i].m ≤ x := by
  induction sc generalizing b i with
  | nil => simp at hi
  | cons e r ih =>
    rw [List.foldl_cons]
    cases i with
    | zero =>
      have he : hit e t o = true := hh
      cases b with
      | none => exact best_mono r t o _ e.m (by simp [bestStep, he])
      | some y =>
        obtain ⟨z, h1, h2⟩ := best_mono r t o (bestStep t o (some y) e) (max y e.m) (by simp [bestStep, he])
        exact ⟨z, h1, by show e.m ≤ z; omega⟩
    | succ i => exact ih _ i (by simpa using hi) (by simpa using hh)

/-- What the whole script has made of a pair of its own. -/
theorem own_best (sc : List Gr) (i : Nat) (hi : i < sc.length) : ∃ x, look ((St.empty.run sc).H sc[i].o) sc[i].t = some x ∧ bestOf sc sc[i].t sc[i].o = some x ∧ sc[i].m ≤ x := by
  obtain ⟨x, h1, h2⟩ := best_ge sc sc[i].t sc[i].o none i hi (by simp [hit])
  have := look_run sc sc[i].t sc[i].o sc.length
  rw [List.take_length] at this
  exact ⟨x, by rw [this]; exact h1, h1, h2⟩

theorem grant_id (sc : List Gr) (i : Nat) (hi : i < sc.length) : (St.empty.run sc).grant sc[i].t sc[i].o sc[i].m = St.empty.run sc := by
  obtain ⟨x, h1, _, h3⟩ := own_best sc i hi
  unfold St.grant
  rw [if_pos (by rw [holds_look, h1]; rfl), raise_id h1 h3]
  have : upd (St.empty.run sc).H sc[i].o ((St.empty.run sc).H sc[i].o) = (St.empty.run sc).H := by
    funext y
    by_cases e : y = sc[i].o
    · subst e; rw [upd_same]
    · rw [upd_other _ _ e]
  rw [this]

/-- A second pass turns nothing. -/
theorem replay (sc : List Gr) (k : Nat) : (St.empty.run sc).run (sc.take k) = St.empty.run sc := by
  induction k with
  | zero => rfl
  | succ k ih =>
    by_cases h : k < sc.length
    · rw [run_take _ _ _ h, ih, grant_id sc k h]
    · rw [List.take_of_length_le (by omega)]
      rwa [List.take_of_length_le (by omega)] at ih

/-! ### Each transaction stands at most once among an object's holders -/
def isT (t : Int) (p : Int × Int) : Bool := decide (p.1 = t)
theorem count_raise (l : List (Int × Int)) (t m t' : Int) : (raise l t m).countP (isT t') = l.countP (isT t') := by
  induction l with
  | nil => rfl
  | cons p r ih =>
    unfold raise
    by_cases h : p.1 = t
    · rw [if_pos h, List.countP_cons, List.countP_cons]
      simp [isT]
    · rw [if_neg h, List.countP_cons, List.countP_cons, ih]
theorem count_none {l : List (Int × Int)} {t : Int} (h : holds l t = false) : l.countP (isT t) = 0 := by
  rw [List.countP_eq_zero]
  intro p hp
  unfold holds at h
  rw [List.any_eq_false] at h
  simpa [isT] using h p hp
theorem once_grant {S : St} (h : ∀ o t, (S.H o).countP (isT t) ≤ 1) (t : Int) (o : ByteArray) (m : Int) : ∀ o' t', ((S.grant t o m).H o').countP (isT t') ≤ 1 := by
  intro o' t'
  unfold St.grant
  by_cases hl : holds (S.H o) t = true
  · rw [if_pos hl]
    by_cases e : o' = o
    · subst e
      simp only [upd_same]
      rw [count_raise]
      exact h _ _
    · simp only [upd_other _ _ e]
      exact h _ _
  · rw [if_neg hl]
    by_cases e : o' = o
    · subst e
      simp only [upd_same]
      rw [List.countP_append]
      by_cases et : t' = t
      · subst et
        have := count_none (by simpa using hl : holds (S.H o') t' = false)
        rw [this]
        simp [isT]
      · have h1 := h o' t'
        have h2 : [(t, m)].countP (isT t') = 0 := by simp [isT, Ne.symm et]
        omega
    · simp only [upd_other _ _ e]
      exact h _ _
theorem once_run (sc : List Gr) (k : Nat) : ∀ o t, ((St.empty.run (sc.take k)).H o).countP (isT t) ≤ 1 := by
  induction k with
  | zero => intro o t; simp [St.run, St.empty]
  | succ k ih =>
    by_cases h : k < sc.length
    · rw [run_take _ _ _ h]
      exact once_grant ih _ _ _
    · rw [List.take_of_length_le (by omega)]
      rwa [List.take_of_length_le (by omega)] at ih

theorem once_look {l : List (Int × Int)} {t x : Int} (h : look l t = some x) (h1 : l.countP (isT t) ≤ 1) : l.countP (isT t) = 1 ∧ ∀ p ∈ l, p.1 = t → p.2 = x := by
  induction l with
  | nil => simp [look] at h
  | cons p r ih =>
    unfold look at h
    rw [List.countP_cons] at h1 ⊢
    by_cases hp : p.1 = t
    · rw [if_pos hp] at h
      have hx : p.2 = x := by simpa using h
      have hpt : isT t p = true := by simp [isT, hp]
      rw [hpt] at h1 ⊢
      simp only [if_true] at h1 ⊢
      have h0 : r.countP (isT t) = 0 := by omega
      refine ⟨by omega, fun q hq hqt => ?_⟩
      rcases List.mem_cons.1 hq with rfl | hq
      · exact hx
      · rw [List.countP_eq_zero] at h0
        exact absurd (by simpa [isT] using hqt) (h0 q hq)
    · rw [if_neg hp] at h
      have hpt : isT t p = false := by simp [isT, hp]
      rw [hpt] at h1 ⊢
      simp only [Bool.false_eq_true, if_false, Nat.add_zero] at h1 ⊢
      obtain ⟨g1, g2⟩ := ih h h1
      refine ⟨g1, fun q hq hqt => ?_⟩
      rcases List.mem_cons.1 hq with rfl | hq
      · exact absurd hqt hp
      · exact g2 q hq hqt

theorem own_once (sc : List Gr) (i : Nat) (hi : i < sc.length) {x : Int} (h : look ((St.empty.run sc).H sc[i].o) sc[i].t = some x) :
    ((St.empty.run sc).H sc[i].o).countP (isT sc[i].t) = 1 ∧ ∀ p ∈ (St.empty.run sc).H sc[i].o, p.1 = sc[i].t → p.2 = x := by
  have := once_run sc sc.length sc[i].o sc[i].t
  rw [List.take_length] at this
  exact once_look h this

/-! ### The loop that seeks the greatest mode -/
def seek (b : Int) (sc : List Gr) (t : Int) (o : ByteArray) : Int := sc.foldl (fun b e => if hit e t o = true ∧ b < e.m then e.m else b) b
theorem seek_take (b : Int) (sc : List Gr) (t : Int) (o : ByteArray) (k : Nat) (h : k < sc.length) : seek b (sc.take (k + 1)) t o = if hit sc[k] t o = true ∧ seek b (sc.take k) t o < sc[k].m then sc[k].m else seek b (sc.take k) t o := by
  unfold seek; rw [List.take_succ_eq_append_getElem h, List.foldl_append]; rfl
theorem seek_int (b x m : Int) : (if max b x < m then m else max b x) = max b (max x m) := by
  split <;> omega
theorem seek_int0 (b m : Int) : (if b < m then m else b) = max b m := by
  split <;> omega
theorem seek_best (b : Int) (sc : List Gr) (t : Int) (o : ByteArray) (k : Nat) : seek b (sc.take k) t o = match bestOf (sc.take k) t o with | none => b | some x => max b x := by
  induction k with
  | zero => rfl
  | succ k ih =>
    by_cases h : k < sc.length
    · rw [seek_take _ _ _ _ _ h, best_take _ _ _ _ h, ih]
      by_cases hh : hit sc[k] t o = true
      · cases hb : bestOf (sc.take k) t o with
        | none =>
          simp only [bestStep, hh, if_true, true_and]
          exact seek_int0 _ _
        | some x =>
          simp only [bestStep, hh, if_true, true_and]
          exact seek_int _ _ _
      · simp [bestStep, hh]
    · rw [List.take_of_length_le (by omega)]
      rwa [List.take_of_length_le (by omega)] at ih
theorem seek_end (sc : List Gr) (i : Nat) (hi : i < sc.length) {x : Int} (h : bestOf sc sc[i].t sc[i].o = some x) (hm : sc[i].m ≤ x) : seek sc[i].m sc sc[i].t sc[i].o = x := by
  have := seek_best sc[i].m sc sc[i].t sc[i].o sc.length
  rw [List.take_length, h] at this
  rw [this]
  exact Int.max_eq_right hm

theorem cnt_hit {l : List (Int × Int)} {t : Int} {j : Nat} (h : j < l.length) (e : l[j].1 = t) : (l.take (j + 1)).countP (isT t) = (l.take j).countP (isT t) + 1 := by
  rw [List.take_succ_eq_append_getElem h, List.countP_append]; simp [isT, e]
theorem cnt_miss {l : List (Int × Int)} {t : Int} {j : Nat} (h : j < l.length) (e : ¬ l[j].1 = t) : (l.take (j + 1)).countP (isT t) = (l.take j).countP (isT t) := by
  rw [List.take_succ_eq_append_getElem h, List.countP_append]; simp [isT, e]
theorem seek_hit {b : Int} {sc : List Gr} {t : Int} {o : ByteArray} {k : Nat} (h : k < sc.length) (e1 : sc[k].t = t) (e2 : sc[k].o = o) (e3 : seek b (sc.take k) t o < sc[k].m) : seek b (sc.take (k + 1)) t o = sc[k].m := by
  rw [seek_take _ _ _ _ _ h, if_pos ⟨by simp [hit, e1, e2], e3⟩]
theorem seek_miss {b : Int} {sc : List Gr} {t : Int} {o : ByteArray} {k : Nat} (h : k < sc.length) (e : ¬ (sc[k].t = t ∧ sc[k].o = o ∧ seek b (sc.take k) t o < sc[k].m)) : seek b (sc.take (k + 1)) t o = seek b (sc.take k) t o := by
  rw [seek_take _ _ _ _ _ h, if_neg]
  intro h1
  apply e
  have := h1.1
  simp [hit] at this
  exact ⟨this.1, this.2, h1.2⟩
end Go.Proofs.Qxb6628846a
