/-
  The plain laws on the lock table: a flat list of pairs agrees with it; a second pass turns nothing; the strongest mode is kept.
-/
import Derived.Test.Qxb6628846aTab
namespace Go.Proofs.Qxb6628846a

/-- One grant of the script: transaction, object, mode. -/
structure Gr where
  t : Int
  o : ByteArray
  m : Int

def St.run (S : St) (sc : List Gr) : St := sc.foldl (fun S e => S.grant e.t e.o e.m) S

theorem run_snoc (S : St) (sc : List Gr) (e : Gr) : S.run (sc ++ [e]) = (S.run sc).grant e.t e.o e.m := by simp [St.run]
theorem run_take (S : St) (sc : List Gr) (k : Nat) (h : k < sc.length) : S.run (sc.take (k + 1)) = (S.run (sc.take k)).grant sc[k].t sc[k].o sc[k].m := by
  rw [List.take_succ_eq_append_getElem h, run_snoc]

/-! ### The flat list of pairs -/
def hit (e : Gr) (t : Int) (o : ByteArray) : Bool := decide (e.t = t) && decide (e.o = o)
def praise : List Gr → Int → ByteArray → Int → List Gr
  | [], _, _, _ => []
  | e :: r, t, o, m => if hit e t o then ⟨e.t, e.o, max e.m m⟩ :: r else e :: praise r t o m
def pholds (P : List Gr) (t : Int) (o : ByteArray) : Bool := P.any fun e => hit e t o
def pgrant (P : List Gr) (t : Int) (o : ByteArray) (m : Int) : List Gr := if pholds P t o then praise P t o m else P ++ [⟨t, o, m⟩]
def prun (sc : List Gr) : List Gr := sc.foldl (fun P e => pgrant P e.t e.o e.m) []
theorem prun_take (sc : List Gr) (k : Nat) (h : k < sc.length) : prun (sc.take (k + 1)) = pgrant (prun (sc.take k)) sc[k].t sc[k].o sc[k].m := by
  unfold prun; rw [List.take_succ_eq_append_getElem h, List.foldl_append]; rfl

theorem praise_at : ∀ (P : List Gr) (t : Int) (o : ByteArray) (m : Int) (i : Nat) (h : i < P.length), hit P[i] t o = true → (∀ j (hj : j < P.length), j < i → hit P[j] t o = false) → praise P t o m = P.set i ⟨P[i].t, P[i].o, max P[i].m m⟩
  | p :: r, t, o, m, 0, _, e, _ => by
    have e' : hit p t o = true := e
    simp [praise, e']
  | p :: r, t, o, m, i + 1, h, e, hn => by
    have h0 : hit p t o = false := hn 0 (by simp) (by omega)
    have ih := praise_at r t o m i (by simpa using h) e (fun j hj hji => hn (j + 1) (by simpa using hj) (by omega))
    simp [praise, h0, ih]
theorem pholds_at {P : List Gr} {t : Int} {o : ByteArray} {i : Nat} (h : i < P.length) (e : hit P[i] t o = true) : pholds P t o = true := by
  unfold pholds; rw [List.any_eq_true]; exact ⟨P[i], List.getElem_mem h, e⟩
theorem pholds_none {P : List Gr} {t : Int} {o : ByteArray} (hn : ∀ j (hj : j < P.length), hit P[j] t o = false) : pholds P t o = false := by
  unfold pholds; rw [List.any_eq_false]
  intro x hx
  obtain ⟨j, hj, rfl⟩ := List.getElem_of_mem hx
  simpa using hn j hj
theorem praise_length (P : List Gr) (t : Int) (o : ByteArray) (m : Int) : (praise P t o m).length = P.length := by
  induction P with
  | nil => rfl
  | cons e r ih => unfold praise; split <;> simp [ih]
theorem prun_length (sc : List Gr) (k : Nat) : (prun (sc.take k)).length ≤ k ∧ (prun (sc.take k)).length ≤ sc.length := by
  induction k with
  | zero => simp [prun]
  | succ k ih =>
    by_cases h : k < sc.length
    · rw [prun_take sc k h]
      unfold pgrant
      split
      · rw [praise_length]; omega
      · simp
        have : (prun (sc.take k)).length ≤ k := ih.1
        omega
    · rw [List.take_of_length_le (by omega)]
      rw [List.take_of_length_le (by omega)] at ih
      omega

def atO (o : ByteArray) (e : Gr) : Bool := decide (e.o = o)
def atT (t : Int) (e : Gr) : Bool := decide (e.t = t)
def tm (e : Gr) : Int × Int := (e.t, e.m)

/-- The list says what the table says. -/
structure Agree (S : St) (P : List Gr) : Prop where
  H : ∀ o, S.H o = (P.filter (atO o)).map tm
  G : ∀ t, S.G t = (P.filter (atT t)).map (·.o)

theorem holds_filter (P : List Gr) (t : Int) (o : ByteArray) : holds ((P.filter (atO o)).map tm) t = pholds P t o := by
  induction P with
  | nil => rfl
  | cons e r ih =>
    unfold holds pholds at ih ⊢
    rw [List.any_cons]
    rw [List.filter_cons]
    by_cases h : atO o e = true
    · rw [if_pos h, List.map_cons, List.any_cons, ih]
      have : e.o = o := by simpa [atO] using h
      have e1 : hit e t o = decide ((tm e).1 = t) := by
        show (decide (e.t = t) && decide (e.o = o)) = decide (e.t = t)
        rw [decide_eq_true this, Bool.and_true]
      rw [e1]
    · rw [if_neg h, ih]
      have : ¬ e.o = o := by simpa [atO] using h
      simp [hit, this]

theorem raise_filter (P : List Gr) (t : Int) (o : ByteArray) (m : Int) : ((praise P t o m).filter (atO o)).map tm = raise ((P.filter (atO o)).map tm) t m := by
  induction P with
  | nil => rfl
  | cons e r ih =>
    unfold praise
    by_cases ho : e.o = o
    · by_cases ht : e.t = t
      · rw [if_pos (by simp [hit, ho, ht])]
        simp [atO, ho, tm, raise, ht]
      · rw [if_neg (by simp [hit, ht])]
        simp only [List.filter_cons, atO, ho, decide_true, if_true, List.map_cons]
        rw [ih, raise, if_neg (by simpa [tm] using ht)]
    · rw [if_neg (by simp [hit, ho])]
      rw [List.filter_cons, List.filter_cons, if_neg (by simp [atO, ho]), if_neg (by simp [atO, ho])]
      exact ih

theorem praise_other (P : List Gr) (t : Int) (o o' : ByteArray) (m : Int) (hne : o' ≠ o) : (praise P t o m).filter (atO o') = P.filter (atO o') := by
  induction P with
  | nil => rfl
  | cons e r ih =>
    unfold praise
    by_cases h : hit e t o = true
    · rw [if_pos h]
      have ho : e.o = o := by simp [hit] at h; exact h.2
      rw [List.filter_cons, List.filter_cons, if_neg (by simp [atO, ho, Ne.symm hne]), if_neg (by simp [atO, ho, Ne.symm hne])]
    · rw [if_neg h, List.filter_cons, List.filter_cons, ih]

theorem praise_G (P : List Gr) (t t' : Int) (o : ByteArray) (m : Int) : ((praise P t o m).filter (atT t')).map (·.o) = (P.filter (atT t')).map (·.o) := by
  induction P with
  | nil => rfl
  | cons e r ih =>
    unfold praise
    by_cases h : hit e t o = true
    · rw [if_pos h, List.filter_cons, List.filter_cons]
      by_cases ht : e.t = t'
      · simp [atT, ht]
      · simp [atT, ht]
    · rw [if_neg h, List.filter_cons, List.filter_cons]
      by_cases ht : atT t' e = true
      · rw [if_pos ht, if_pos ht, List.map_cons, List.map_cons, ih]
      · rw [if_neg ht, if_neg ht, ih]

theorem agree_grant {S : St} {P : List Gr} (h : Agree S P) (t : Int) (o : ByteArray) (m : Int) : Agree (S.grant t o m) (pgrant P t o m) := by
  have hh : holds (S.H o) t = pholds P t o := by rw [h.H o, holds_filter]
  unfold St.grant pgrant
  rw [hh]
  by_cases hp : pholds P t o = true
  · rw [if_pos hp, if_pos hp]
    refine ⟨fun o' => ?_, fun t' => ?_⟩
    · by_cases e : o' = o
      · subst e
        simp only [upd_same]
        rw [raise_filter, h.H]
      · simp only [upd_other _ _ e]
        rw [praise_other _ _ _ _ _ e, h.H]
    · simp only []
      rw [praise_G, h.G]
  · rw [if_neg hp, if_neg hp]
    refine ⟨fun o' => ?_, fun t' => ?_⟩
    · rw [List.filter_append, List.map_append]
      by_cases e : o' = o
      · subst e
        simp only [upd_same]
        rw [h.H]
        simp [atO, tm]
      · simp only [upd_other _ _ e]
        rw [h.H]
        simp [atO, Ne.symm e]
    · rw [List.filter_append, List.map_append]
      by_cases e : t' = t
      · subst e
        simp only [upd_same]
        rw [h.G]
        simp [atT]
      · simp only [upd_other _ _ e]
        rw [h.G]
        simp [atT, Ne.symm e]

theorem agree_run (sc : List Gr) (k : Nat) : Agree (St.empty.run (sc.take k)) (prun (sc.take k)) := by
  induction k with
  | zero => exact ⟨fun o => rfl, fun t => rfl⟩
  | succ k ih =>
    by_cases h : k < sc.length
    · rw [run_take _ _ _ h, prun_take _ _ h]
      exact agree_grant ih _ _ _
    · rw [List.take_of_length_le (by omega)]
      rwa [List.take_of_length_le (by omega)] at ih

/-- Where element j of the list stands among those that pass. -/
theorem filter_at {α : Type} (p : α → Bool) (P : List α) (j : Nat) (h : j < P.length) (hp : p P[j] = true) : (P.filter p)[((P.take j).filter p).length]? = some P[j] := by
  have e : P = P.take j ++ P[j] :: P.drop (j + 1) := by rw [← List.drop_eq_getElem_cons h, List.take_append_drop]
  have e2 : P.filter p = (P.take j).filter p ++ P[j] :: (P.drop (j + 1)).filter p := by
    conv => lhs; rw [e]
    rw [List.filter_append, List.filter_cons, if_pos hp]
  rw [e2, List.getElem?_append_right (Nat.le_refl _)]
  simp
theorem count_hit {α : Type} (p : α → Bool) (P : List α) (j : Nat) (h : j < P.length) (hp : p P[j] = true) : ((P.take (j + 1)).filter p).length = ((P.take j).filter p).length + 1 := by
  rw [List.take_succ_eq_append_getElem h, List.filter_append]; simp [hp]
theorem count_miss {α : Type} (p : α → Bool) (P : List α) (j : Nat) (h : j < P.length) (hp : p P[j] = false) : ((P.take (j + 1)).filter p).length = ((P.take j).filter p).length := by
  rw [List.take_succ_eq_append_getElem h, List.filter_append]; simp [hp]
theorem count_lt {α : Type} (p : α → Bool) (P : List α) (j : Nat) (h : j < P.length) (hp : p P[j] = true) : ((P.take j).filter p).length < (P.filter p).length :=
  (List.getElem?_eq_some_iff.1 (filter_at p P j h hp)).1
end Go.Proofs.Qxb6628846a
