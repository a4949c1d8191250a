/-
  What Grant does to the table, step by step: a mode raised in place; a holder appended; an object appended.
-/
import Derived.Test.Qxb6628846aTab
namespace Go.Proofs.Qxb6628846a
open Go.RowKit

theorem own_block {w : World} {base : Nat} {e : TypeId} {size : Nat} {v : Value} {n : Nat} {xs : List Value} (h : w.ownsRow base e size v n xs) {g : Nat} (hg : v.ownBlock = some g) : ∃ cur, w.heap[g]? = some (.cells cur e (0, 0)) := by
  rcases h.2 with ⟨rfl, _⟩ | ⟨g', cap, cur, rfl, _, hh, _⟩
  · simp [Value.ownBlock] at hg
  · simp [Value.ownBlock] at hg
    subst hg
    exact ⟨cur, hh⟩

section
variable {w : World} {B tb hb gb n : Nat} {F : Nat → Prop} {S : St} {fH : ByteArray → Value} {fG : Int → Value}

theorem TabIs.row_ne_hb (h : TabIs w B tb hb gb n F S fH fG) (o : ByteArray) : (fH o).ownBlock ≠ some hb := fun e => by
  obtain ⟨cur, h1⟩ := own_block (h.rH o) e
  obtain ⟨es, c, h2⟩ := h.mH.isMap
  rw [h1] at h2; cases h2
theorem TabIs.row_ne_gb (h : TabIs w B tb hb gb n F S fH fG) (o : ByteArray) : (fH o).ownBlock ≠ some gb := fun e => by
  obtain ⟨cur, h1⟩ := own_block (h.rH o) e
  obtain ⟨es, c, h2⟩ := h.mG.isMap
  rw [h1] at h2; cases h2
theorem TabIs.rowG_ne_hb (h : TabIs w B tb hb gb n F S fH fG) (t : Int) : (fG t).ownBlock ≠ some hb := fun e => by
  obtain ⟨cur, h1⟩ := own_block (h.rG t) e
  obtain ⟨es, c, h2⟩ := h.mH.isMap
  rw [h1] at h2; cases h2
theorem TabIs.rowG_ne_gb (h : TabIs w B tb hb gb n F S fH fG) (t : Int) : (fG t).ownBlock ≠ some gb := fun e => by
  obtain ⟨cur, h1⟩ := own_block (h.rG t) e
  obtain ⟨es, c, h2⟩ := h.mG.isMap
  rw [h1] at h2; cases h2
theorem TabIs.row_ne_row (h : TabIs w B tb hb gb n F S fH fG) (o : ByteArray) (t : Int) {g g' : Nat} (e : (fH o).ownBlock = some g) (e' : (fG t).ownBlock = some g') : g ≠ g' := fun eg => by
  subst eg
  obtain ⟨cur, h1⟩ := own_block (h.rH o) e
  obtain ⟨cur', h2⟩ := own_block (h.rG t) e'
  rw [h1] at h2; cases h2

theorem flat_set (l : List (Int × Int)) (i : Nat) (h : i < l.length) (u : Int) : (l.set i (l[i].1, u)).flatMap hcells = (l.flatMap hcells).set (i * 2 + 1) (.int .i64 u) := by
  induction l generalizing i with
  | nil => simp at h
  | cons p r ih =>
    cases i with
    | zero => simp [hcells]
    | succ i =>
      have e : (i + 1) * 2 + 1 = (i * 2 + 1) + 2 := by omega
      have := ih i (by simpa using h)
      simp only [List.set_cons_succ, List.flatMap_cons, List.getElem_cons_succ, e]
      rw [this]
      simp [hcells]

/-- A mode raised in place. -/
theorem TabIs.hit (h : TabIs w B tb hb gb n F S fH fG) {o : ByteArray} {i g cap : Nat} (hf : fH o = .slice (some ⟨g, 0, none⟩) (S.H o).length cap) (hi : i < (S.H o).length) (u : Int) :
    TabIs (w.setCell ⟨g, i * 2 + 1, none⟩ (.int .i64 u)) B tb hb gb n F ⟨upd S.H o ((S.H o).set i ((S.H o)[i].1, u)), S.G⟩ fH fG ∧ Turn F w (w.setCell ⟨g, i * 2 + 1, none⟩ (.int .i64 u)) := by
  have ho : (fH o).ownBlock = some g := by rw [hf]; rfl
  have hown := h.rH o
  rw [hf] at hown
  obtain ⟨h1, hg⟩ := hown.stored (i * 2 + 1) (.int .i64 u)
  have oth : ∀ k, k < w.heap.size → k ≠ g → (w.setCell ⟨g, i * 2 + 1, none⟩ (.int .i64 u)).heap[k]? = w.heap[k]? := fun k hk hne => hg.block k hk (by simpa using hne)
  have F_lt : ∀ k, F k → k < w.heap.size := fun k hk => (h.lo k hk).2
  have tbg : tb ≠ g := fun e => h.out (by rw [e]; exact h.inH o g ho)
  have tblt : tb < w.heap.size := World.block_lt_of_cell? w _ h.c0
  refine ⟨{ h with
    c0 := cell_same h.c0 (oth tb tblt tbg)
    c1 := cell_same h.c1 (oth tb tblt tbg)
    mH := h.mH.kept (oth hb (F_lt _ h.inh) (fun e => h.row_ne_hb o (by rw [ho, e])))
    mG := h.mG.kept (oth gb (F_lt _ h.ing) (fun e => h.row_ne_gb o (by rw [ho, e])))
    rH := ?_
    rG := fun t => ownsRow_same (h.rG t) fun k hk => oth k (F_lt _ (h.inG t k hk)) (Ne.symm (h.row_ne_row o t ho hk))
    lH := ?_
    lo := fun k hk => ⟨(h.lo k hk).1, Nat.lt_of_lt_of_le (F_lt k hk) hg.size⟩ }, Turn.of_grown hg (fun k hk => by cases hk; exact h.inH o g ho)⟩
  · intro o'
    by_cases e : o' = o
    · subst e
      simp only [upd_same]
      rw [hf, flat_set _ _ hi, List.length_set]
      exact h1
    · simp only [upd_other _ _ e]
      exact ownsRow_same (h.rH o') fun k hk => oth k (F_lt _ (h.inH o' k hk)) (fun ek => e (h.dH o' o g (by rw [hk, ek]) ho))
  · intro o'
    by_cases e : o' = o
    · subst e
      simp only [upd_same, List.length_set]
      exact h.lH _
    · simp only [upd_other _ _ e]
      exact h.lH _

/-- Between the look-up and the store into the map: the map of holders is still what it was. -/
theorem TabIs.mH_at (h : TabIs w B tb hb gb n F S fH fG) {wA w1 : World} (o : ByteArray) (hA : Below w.heap.size w wA) (hG : wA.grownBy w1 (fH o).ownBlock) : MapF kS w1 9 hb n (.slice none 0 0) fH :=
  h.mH.kept ((hG.block hb (Nat.lt_of_lt_of_le h.mH.lt hA.size) (fun e => h.row_ne_hb o e.symm)).trans (hA.block hb h.mH.lt))
theorem TabIs.mG_at (h : TabIs w B tb hb gb n F S fH fG) {wA w1 : World} (t : Int) (hA : Below w.heap.size w wA) (hG : wA.grownBy w1 (fG t).ownBlock) : MapF kI w1 3 gb n (.slice none 0 0) fG :=
  h.mG.kept ((hG.block gb (Nat.lt_of_lt_of_le h.mG.lt hA.size) (fun e => h.rowG_ne_gb t e.symm)).trans (hA.block gb h.mG.lt))

theorem mapF_mono {α : Type} {κ : α → Lit} {w : World} {k : TypeId} {b n n' : Nat} {z : Value} {f : α → Value} (h : MapF κ w k b n z f) (hn : n ≤ n') : MapF κ w k b n' z f := by
  obtain ⟨D, h1, h2⟩ := h
  exact ⟨D, h1.mono hn, h2⟩

/-- A holder appended. -/
theorem TabIs.addH (h : TabIs w B tb hb gb n F S fH fG) {o : ByteArray} {t m : Int} {wA w1 w2 : World} {v : Value} (hA : Below w.heap.size w wA) (hG : wA.grownBy w1 (fH o).ownBlock)
    (hown : w1.ownsRow B 44 2 v ((S.H o).length + 1) ((S.H o).flatMap hcells ++ hcells (t, m))) (hat : ∀ g, v.ownBlock = some g → (fH o).ownBlock = some g ∨ w.heap.size ≤ g)
    (hM : MapF kS w2 9 hb (n + 1) (.slice none 0 0) (fun x => if x = o then v else fH x)) (hG2 : w1.grownBy w2 (some hb)) :
    TabIs w2 B tb hb gb (n + 1) (fun k => F k ∨ (w.heap.size ≤ k ∧ k < w2.heap.size)) ⟨upd S.H o (S.H o ++ [(t, m)]), S.G⟩ (upd fH o v) fG ∧ Turn F w w2 := by
  have F_lt : ∀ k, F k → k < w.heap.size := fun k hk => (h.lo k hk).2
  have oth : ∀ k, k < w.heap.size → (fH o).ownBlock ≠ some k → k ≠ hb → w2.heap[k]? = w.heap[k]? := fun k hk h1 h2 =>
    ((hG2.block k (Nat.lt_of_lt_of_le hk (Nat.le_trans hA.size hG.size)) (by simpa using h2)).trans (hG.block k (Nat.lt_of_lt_of_le hk hA.size) (fun e => h1 e.symm))).trans (hA.block k hk)
  have hm1 := h.mH_at o hA hG
  have hsz : w.heap.size ≤ w2.heap.size := Nat.le_trans hA.size (Nat.le_trans hG.size hG2.size)
  have tblt : tb < w.heap.size := World.block_lt_of_cell? w _ h.c0
  have tbo := oth tb tblt (fun e => h.out (h.inH o tb e)) (fun e => h.out (by rw [e]; exact h.inh))
  have vhb : v.ownBlock ≠ some hb := fun e => by
    obtain ⟨cur, h1⟩ := own_block hown e
    obtain ⟨es, c, h2⟩ := hm1.isMap
    rw [h1] at h2; cases h2
  have vlt : ∀ g, v.ownBlock = some g → g < w2.heap.size := fun g hg => Nat.lt_of_lt_of_le (hown.lt g hg).2 hG2.size
  have hBs : B ≤ w.heap.size := by have := h.lo hb h.inh; omega
  have turn : Turn F w w2 := ((Turn.of_below (F := F) hA).trans (Turn.of_grown (F := F) hG (h.inH o)) (fun _ _ f => f)).trans (Turn.of_grown (F := F) hG2 (fun k hk => by cases hk; exact h.inh)) (fun _ _ f => f)
  refine ⟨{ c0 := cell_same h.c0 tbo, c1 := cell_same h.c1 tbo, mH := hM, mG := mapF_mono (h.mG.kept (oth gb (F_lt _ h.ing) (h.row_ne_gb o) (Ne.symm h.hg))) (Nat.le_succ n), rH := ?_, rG := ?_, dH := ?_, dG := h.dG, lH := ?_, lG := fun t => Nat.le_succ_of_le (h.lG t), inH := ?_, inG := fun t g hg => .inl (h.inG t g hg), inh := .inl h.inh, ing := .inl h.ing, lo := ?_, out := ?_, hg := h.hg }, turn⟩
  · intro o'
    by_cases e : o' = o
    · subst e
      simp only [upd_same]
      rw [List.length_append, List.flatMap_append]
      simp only [List.length_cons, List.length_nil, List.flatMap_cons, List.flatMap_nil, List.append_nil]
      exact hown.kept hG2 (.inr vhb)
    · simp only [upd_other _ _ e]
      exact ownsRow_same (h.rH o') fun k hk => oth k (F_lt _ (h.inH o' k hk)) (fun ek => e (h.dH o' o k hk ek)) (fun ek => h.row_ne_hb o' (by rw [hk, ek]))
  · intro t'
    exact ownsRow_same (h.rG t') fun k hk => oth k (F_lt _ (h.inG t' k hk)) (fun ek => h.row_ne_row o t' ek hk rfl) (fun ek => h.rowG_ne_hb t' (by rw [hk, ek]))
  · intro a b g ha hb'
    by_cases ea : a = o
    · by_cases eb : b = o
      · rw [ea, eb]
      · subst ea
        rw [upd_same] at ha
        rw [upd_other _ _ eb] at hb'
        rcases hat g ha with e | e
        · exact h.dH _ _ g e hb'
        · have := F_lt g (h.inH b g hb'); omega
    · rw [upd_other _ _ ea] at ha
      by_cases eb : b = o
      · subst eb
        rw [upd_same] at hb'
        rcases hat g hb' with e | e
        · exact h.dH _ _ g ha e
        · have := F_lt g (h.inH a g ha); omega
      · rw [upd_other _ _ eb] at hb'
        exact h.dH _ _ g ha hb'
  · intro o'
    by_cases e : o' = o
    · subst e
      simp only [upd_same, List.length_append, List.length_cons, List.length_nil]
      have := h.lH o'
      omega
    · simp only [upd_other _ _ e]
      exact Nat.le_succ_of_le (h.lH _)
  · intro o' g hg
    by_cases e : o' = o
    · subst e
      rw [upd_same] at hg
      rcases hat g hg with e1 | e1
      · exact .inl (h.inH o' g e1)
      · exact .inr ⟨e1, vlt g hg⟩
    · rw [upd_other _ _ e] at hg
      exact .inl (h.inH o' g hg)
  · intro k hk
    rcases hk with hk | hk
    · exact ⟨(h.lo k hk).1, Nat.lt_of_lt_of_le (F_lt k hk) hsz⟩
    · exact ⟨by omega, hk.2⟩
  · intro hk
    rcases hk with hk | hk
    · exact h.out hk
    · omega

/-- An object appended. -/
theorem TabIs.addG (h : TabIs w B tb hb gb n F S fH fG) {o : ByteArray} {t : Int} {wA w1 w2 : World} {v : Value} (hA : Below w.heap.size w wA) (hG : wA.grownBy w1 (fG t).ownBlock)
    (hown : w1.ownsRow B 9 1 v ((S.G t).length + 1) ((S.G t).map Value.string ++ [.string o])) (hat : ∀ g, v.ownBlock = some g → (fG t).ownBlock = some g ∨ w.heap.size ≤ g)
    (hM : MapF kI w2 3 gb (n + 1) (.slice none 0 0) (fun x => if x = t then v else fG x)) (hG2 : w1.grownBy w2 (some gb)) :
    TabIs w2 B tb hb gb (n + 1) (fun k => F k ∨ (w.heap.size ≤ k ∧ k < w2.heap.size)) ⟨S.H, upd S.G t (S.G t ++ [o])⟩ fH (upd fG t v) ∧ Turn F w w2 := by
  have F_lt : ∀ k, F k → k < w.heap.size := fun k hk => (h.lo k hk).2
  have oth : ∀ k, k < w.heap.size → (fG t).ownBlock ≠ some k → k ≠ gb → w2.heap[k]? = w.heap[k]? := fun k hk h1 h2 =>
    ((hG2.block k (Nat.lt_of_lt_of_le hk (Nat.le_trans hA.size hG.size)) (by simpa using h2)).trans (hG.block k (Nat.lt_of_lt_of_le hk hA.size) (fun e => h1 e.symm))).trans (hA.block k hk)
  have hm1 := h.mG_at t hA hG
  have hsz : w.heap.size ≤ w2.heap.size := Nat.le_trans hA.size (Nat.le_trans hG.size hG2.size)
  have tblt : tb < w.heap.size := World.block_lt_of_cell? w _ h.c0
  have tbo := oth tb tblt (fun e => h.out (h.inG t tb e)) (fun e => h.out (by rw [e]; exact h.ing))
  have vgb : v.ownBlock ≠ some gb := fun e => by
    obtain ⟨cur, h1⟩ := own_block hown e
    obtain ⟨es, c, h2⟩ := hm1.isMap
    rw [h1] at h2; cases h2
  have vlt : ∀ g, v.ownBlock = some g → g < w2.heap.size := fun g hg => Nat.lt_of_lt_of_le (hown.lt g hg).2 hG2.size
  have hBs : B ≤ w.heap.size := by have := h.lo hb h.inh; omega
  have turn : Turn F w w2 := ((Turn.of_below (F := F) hA).trans (Turn.of_grown (F := F) hG (h.inG t)) (fun _ _ f => f)).trans (Turn.of_grown (F := F) hG2 (fun k hk => by cases hk; exact h.ing)) (fun _ _ f => f)
  refine ⟨{ c0 := cell_same h.c0 tbo, c1 := cell_same h.c1 tbo, mG := hM, mH := mapF_mono (h.mH.kept (oth hb (F_lt _ h.inh) (h.rowG_ne_hb t) h.hg)) (Nat.le_succ n), rG := ?_, rH := ?_, dG := ?_, dH := h.dH, lG := ?_, lH := fun t => Nat.le_succ_of_le (h.lH t), inG := ?_, inH := fun t g hg => .inl (h.inH t g hg), inh := .inl h.inh, ing := .inl h.ing, lo := ?_, out := ?_, hg := h.hg }, turn⟩
  · intro o'
    exact ownsRow_same (h.rH o') fun k hk => oth k (F_lt _ (h.inH o' k hk)) (fun ek => h.row_ne_row o' t hk ek rfl) (fun ek => h.row_ne_gb o' (by rw [hk, ek]))
  · intro o'
    by_cases e : o' = t
    · subst e
      simp only [upd_same]
      rw [List.length_append, List.map_append]
      simp only [List.length_cons, List.length_nil, List.map_cons, List.map_nil]
      exact hown.kept hG2 (.inr vgb)
    · simp only [upd_other _ _ e]
      exact ownsRow_same (h.rG o') fun k hk => oth k (F_lt _ (h.inG o' k hk)) (fun ek => e (h.dG o' t k hk ek)) (fun ek => h.rowG_ne_gb o' (by rw [hk, ek]))
  · intro a b g ha hb'
    by_cases ea : a = t
    · by_cases eb : b = t
      · rw [ea, eb]
      · subst ea
        rw [upd_same] at ha
        rw [upd_other _ _ eb] at hb'
        rcases hat g ha with e | e
        · exact h.dG _ _ g e hb'
        · have := F_lt g (h.inG b g hb'); omega
    · rw [upd_other _ _ ea] at ha
      by_cases eb : b = t
      · subst eb
        rw [upd_same] at hb'
        rcases hat g hb' with e | e
        · exact h.dG _ _ g ha e
        · have := F_lt g (h.inG a g ha); omega
      · rw [upd_other _ _ eb] at hb'
        exact h.dG _ _ g ha hb'
  · intro o'
    by_cases e : o' = t
    · subst e
      simp only [upd_same, List.length_append, List.length_cons, List.length_nil]
      have := h.lG o'
      omega
    · simp only [upd_other _ _ e]
      exact Nat.le_succ_of_le (h.lG _)
  · intro o' g hg
    by_cases e : o' = t
    · subst e
      rw [upd_same] at hg
      rcases hat g hg with e1 | e1
      · exact .inl (h.inG o' g e1)
      · exact .inr ⟨e1, vlt g hg⟩
    · rw [upd_other _ _ e] at hg
      exact .inl (h.inG o' g hg)
  · intro k hk
    rcases hk with hk | hk
    · exact ⟨(h.lo k hk).1, Nat.lt_of_lt_of_le (F_lt k hk) hsz⟩
    · exact ⟨by omega, hk.2⟩
  · intro hk
    rcases hk with hk | hk
    · exact h.out hk
    · omega

end
end Go.Proofs.Qxb6628846a
