import Derived.Test.Qxb6628846aSteps
import Derived.WalkLawsBesides
import Derived.StillTactics
import Derived.OwnWalk
import Derived.Laws.Pointers
import Derived.Deep.RegionHeld3
import Derived.KernelRfl
namespace Go.Proofs.Qxb6628846a
open Go.RowKit

theorem Try.info44 : (Try.prog.info? 44).map (fun i => (i.zero, i.size, i.bytes)) = some (some (.agg #[.int .i64 0, .int .i64 0]), 2, 16) := by kernel_rfl
theorem Try.info9 : (Try.prog.info? 9).map (fun i => (i.zero, i.size, i.bytes)) = some (some (.string ByteArray.empty), 1, 16) := by kernel_rfl

theorem own_shape {w : World} {base : Nat} {e : TypeId} {size : Nat} {v : Value} {n : Nat} {xs : List Value} (h : w.ownsRow base e size v n xs) : ∃ ao cap, v = .slice ao n cap ∧ (n ≠ 0 → ∃ g, ao = some ⟨g, 0, none⟩) := by
  rcases h.2 with ⟨rfl, rfl⟩ | ⟨g, cap, cur, rfl, _⟩
  · exact ⟨none, 0, rfl, fun h => absurd rfl h⟩
  · exact ⟨_, cap, rfl, fun _ => ⟨g, rfl⟩⟩

theorem flat2_fst (l : List (Int × Int)) (i : Nat) (h : i < l.length) : (l.flatMap hcells)[i * 2]? = some (.int .i64 l[i].1) := by
  induction l generalizing i with
  | nil => simp at h
  | cons p r ih =>
    cases i with
    | zero => simp [hcells]
    | succ i =>
      have e : (i + 1) * 2 = i * 2 + 2 := by omega
      have := ih i (by simpa using h)
      simp only [List.flatMap_cons, List.getElem_cons_succ, e, ← this]
      simp [hcells]
theorem flat2_snd (l : List (Int × Int)) (i : Nat) (h : i < l.length) : (l.flatMap hcells)[i * 2 + 1]? = some (.int .i64 l[i].2) := by
  induction l generalizing i with
  | nil => simp at h
  | cons p r ih =>
    cases i with
    | zero => simp [hcells]
    | succ i =>
      have e : (i + 1) * 2 + 1 = i * 2 + 1 + 2 := by omega
      have := ih i (by simpa using h)
      simp only [List.flatMap_cons, List.getElem_cons_succ, e, ← this]
      simp [hcells]

theorem heap_ad (w : World) (X : Obj) (k : Nat) (h : k < w.heap.size) : ((w.alloc X).drew).heap[k]? = w.heap[k]? := Below.heap_alloc w X k h
theorem cell_ad {w : World} {b o : Nat} {v : Value} (h : w.cell? ⟨b, o, none⟩ = some v) (X : Obj) : ((w.alloc X).drew).cell? ⟨b, o, none⟩ = some v :=
  cell_same h (heap_ad w X b (World.block_lt_of_cell? w _ h))

section
variable {w : World} {B tb hb gb n : Nat} {F : Nat → Prop} {S : St} {fH : ByteArray → Value} {fG : Int → Value}

theorem TabIs.lookH (h : TabIs w B tb hb gb n F S fH fG) {o : ByteArray} (ho : o.size ≤ maxLen) : (Instr.lookup 38 (.map (some hb)) (.string o) false).run Try.prog w = .ok (fH o) w :=
  h.mH.look key9 Try.underlying38 (zero42 w) (a := o) (WideMaps.keyOf_string_mk Try.underlying9 ho)
theorem TabIs.lookG (h : TabIs w B tb hb gb n F S fH fG) {t : Int} (ht : (Lit.int .i64 t).wf = true) : (Instr.lookup 39 (.map (some gb)) (.int .i64 t) false).run Try.prog w = .ok (fG t) w :=
  h.mG.look key3 Try.underlying39 (zero23 w) (a := t) (Maps.keyOf_int_mk Try.underlying3 ht)

/-- Grant's outcome. -/
def Granted (w w' : World) (B tb hb gb n : Nat) (F : Nat → Prop) (S' : St) : Prop :=
  ∃ F' fH' fG', TabIs w' B tb hb gb (n + 2) F' S' fH' fG' ∧ Turn F w w' ∧ ∀ k, k < w.heap.size → F' k → F k

theorem TabIs.mono {n' : Nat} (h : TabIs w B tb hb gb n F S fH fG) (hn : n ≤ n') : TabIs w B tb hb gb n' F S fH fG :=
  { h with mH := mapF_mono h.mH hn, mG := mapF_mono h.mG hn, lH := fun o => Nat.le_trans (h.lH o) hn, lG := fun o => Nat.le_trans (h.lG o) hn }

/-- The store of the new holders' slice. -/
theorem TabIs.putH (h : TabIs w B tb hb gb n F S fH fG) {o : ByteArray} (ho : o.size ≤ maxLen) {wA w1 : World} (hA : Below w.heap.size w wA) (hG : wA.grownBy w1 (fH o).ownBlock) (hn : n < maxLen) (v : Value) :
    ∃ w2, (Instr.mapUpdate 38 (.map (some hb)) (.string o) v).run Try.prog w1 = .ok () w2 ∧ MapF kS w2 9 hb (n + 1) (.slice none 0 0) (fun x => if x = o then v else fH x) ∧ w1.grownBy w2 (some hb) :=
  (h.mH_at o hA hG).store (fun _ _ e => kS_inj.1 e) key9 Try.underlying38 hn (a := o) (WideMaps.keyOf_string_mk Try.underlying9 ho) (isKey_kS o) v
theorem TabIs.putG (h : TabIs w B tb hb gb n F S fH fG) {t : Int} (ht : (Lit.int .i64 t).wf = true) {wA w1 : World} (hA : Below w.heap.size w wA) (hG : wA.grownBy w1 (fG t).ownBlock) (hn : n < maxLen) (v : Value) :
    ∃ w2, (Instr.mapUpdate 39 (.map (some gb)) (.int .i64 t) v).run Try.prog w1 = .ok () w2 ∧ MapF kI w2 3 gb (n + 1) (.slice none 0 0) (fun x => if x = t then v else fG x) ∧ w1.grownBy w2 (some gb) :=
  (h.mG_at t hA hG).store (fun _ _ e => kI_inj.1 e) key3 Try.underlying39 hn (a := t) (Maps.keyOf_int_mk Try.underlying3 ht) (isKey_kI t) v

theorem TabIs.lookG_at (h : TabIs w B tb hb gb n F S fH fG) {t : Int} (ht : (Lit.int .i64 t).wf = true) (w' : World) (hw : w'.heap[gb]? = w.heap[gb]?) : (Instr.lookup 39 (.map (some gb)) (.int .i64 t) false).run Try.prog w' = .ok (fG t) w' :=
  (h.mG.kept hw).look key3 Try.underlying39 (zero23 w') (a := t) (Maps.keyOf_int_mk Try.underlying3 ht)

theorem granted_hit (h : TabIs w B tb hb gb n F S fH fG) {o : ByteArray} {g cap k : Nat} {t : Int} (hv : fH o = .slice (some ⟨g, 0, none⟩) (S.H o).length cap) (hlt : k < (S.H o).length) (he : (S.H o)[k].1 = t)
    (hno : ∀ j (hj : j < (S.H o).length), j < k → (S.H o)[j].1 ≠ t) (m : Int) : Granted w (w.setCell ⟨g, k * 2 + 1, none⟩ (.int .i64 (max (S.H o)[k].2 m))) B tb hb gb n F (S.grant t o m) := by
  obtain ⟨h1, h2⟩ := h.hit hv hlt (max (S.H o)[k].2 m)
  have e : S.grant t o m = ⟨upd S.H o ((S.H o).set k ((S.H o)[k].1, max (S.H o)[k].2 m)), S.G⟩ := by
    unfold St.grant
    rw [if_pos (holds_at hlt he), raise_at _ t m k hlt he hno]
  rw [e]
  exact ⟨F, fH, fG, h1.mono (by omega), h2, fun _ _ f => f⟩

theorem granted_miss {w2 w4 : World} {o : ByteArray} {t m : Int} {fH' : ByteArray → Value} {fG' : Int → Value} (hno : ∀ j (hj : j < (S.H o).length), j < (S.H o).length → (S.H o)[j].1 ≠ t)
    (h4 : TabIs w4 B tb hb gb (n + 1 + 1) (fun k => (F k ∨ (w.heap.size ≤ k ∧ k < w2.heap.size)) ∨ (w2.heap.size ≤ k ∧ k < w4.heap.size)) ⟨upd S.H o (S.H o ++ [(t, m)]), upd S.G t (S.G t ++ [o])⟩ fH' fG')
    (tu2 : Turn F w w2) (tu4 : Turn (fun k => F k ∨ (w.heap.size ≤ k ∧ k < w2.heap.size)) w2 w4) : Granted w w4 B tb hb gb n F (S.grant t o m) := by
  have e : S.grant t o m = ⟨upd S.H o (S.H o ++ [(t, m)]), upd S.G t (S.G t ++ [o])⟩ := by
    unfold St.grant
    rw [holds_none (fun j hj => hno j hj hj)]
    simp
  rw [e]
  refine ⟨_, _, _, h4, tu2.trans tu4 ?_, ?_⟩
  · intro i hi hF
    rcases hF with hF | hF
    · exact hF
    · omega
  · intro k hk hF
    have := tu2.size
    rcases hF with (hF | hF) | hF
    · exact hF
    · omega
    · omega

set_option maxRecDepth 100000 in
set_option maxHeartbeats 1600000 in
theorem grant_any (h : TabIs w B tb hb gb n F S fH fG) (t : Int) (ht : (Lit.int .i64 t).wf = true) (o : ByteArray) (ho : o.size ≤ maxLen) (m : Int) (hn : n ≤ 1000000) :
    Calls Try.prog 8 #[.pointer (some ⟨tb, 0, none⟩), .int .i64 t, .string o, .int .i64 m] w fun e w' => e = .returned (.tuple #[]) ∧ Granted w w' B tb hb gb n F (S.grant t o m) := by
  obtain ⟨ao, cap, hv, hgo⟩ := own_shape (h.rH o)
  have hl := h.lookH ho
  rw [hv] at hl
  have c0 := h.c0
  have hlen := h.lH o
  have HT : Hid (TabIs w B tb hb gb n F S fH fG) := h
  have HV : Hid (fH o = .slice ao (S.H o).length cap) := hv
  clear h hv
  go_enter Try.func8, Try.ntmps8
  go_wp2
  go_loop [18] (fun i => ∃ k : Nat, k ≤ (S.H o).length ∧ i = .int .i64 k ∧ ∀ j (hj : j < (S.H o).length), j < k → (S.H o)[j].1 ≠ t) (fun i => (S.H o).length - (intOf i).toNat)
  case atStart => exact ⟨0, Nat.zero_le _, rfl, fun j _ h => absurd h (by omega)⟩
  case round =>
    obtain ⟨k, hk, rfl, hno⟩ := hrel
    have HN : Hid (∀ j (hj : j < (S.H o).length), j < k → (S.H o)[j].1 ≠ t) := hno
    clear hno
    by_cases hlt : k < (S.H o).length
    · obtain ⟨g, rfl⟩ := hgo (by omega)
      have hown := HT.out.rH o
      rw [HV.out] at hown
      have d0 := (hown.cellAt (k * 2) (by omega)).trans (flat2_fst _ _ hlt)
      have d1 := (hown.cellAt (k * 2 + 1) (by omega)).trans (flat2_snd _ _ hlt)
      have f1 := hown.frozenAt (k * 2 + 1)
      clear hown
      by_cases he : (S.H o)[k].1 = t
      · have hb1 : ((S.H o)[k].1 == t) = true := by simp [he]
        have HE : Hid ((S.H o)[k].1 = t) := he
        clear he
        have HG := granted_hit HT.out HV.out hlt HE.out HN.out m
        by_cases hmm : m ≤ (S.H o)[k].2
        · rw [Int.max_eq_left hmm] at HG
          have HG : Hid _ := HG
          go_wp2
          refine bodyPost_ret (results_none rfl _ _ _) rfl ?_
          exact ⟨rfl, HG.out⟩
        · rw [Int.max_eq_right (by omega)] at HG
          have HG : Hid _ := HG
          go_wp2
          refine bodyPost_ret (results_none rfl _ _ _) rfl ?_
          exact ⟨rfl, HG.out⟩
      · have hb1 : ((S.H o)[k].1 == t) = false := by simp [he]
        have HE : Hid (¬ (S.H o)[k].1 = t) := he
        clear he
        go_wp2
        go_round
        case rel => exact ⟨k + 1, by omega, by go_num, fun j hj hjk => by
            by_cases e : j = k
            · subst e; exact HE.out
            · exact HN.out j hj (by omega)⟩
        case measure => simp [intOf]; omega
    · obtain rfl : k = (S.H o).length := by omega
      clear hk hgo hl
      obtain ⟨i0, hi, hz0, hz1, hz2⟩ := info_parts Try.info44
      have hown := HT.out.rH o
      rw [HV.out] at hown
      have tblt : tb < w.heap.size := World.block_lt_of_cell? w _ c0
      have hBs : B ≤ w.heap.size := by have := HT.out.lo hb HT.out.inh; omega
      have tbo : (Value.slice ao (S.H o).length cap).ownBlock ≠ some tb := by rw [← HV.out]; exact fun e => HT.out.out (HT.out.inH o tb e)
      have tbh : tb ≠ hb := fun e => HT.out.out (by rw [e]; exact HT.out.inh)
      have HO : Hid ((Value.slice ao (S.H o).length cap).ownBlock ≠ some tb) := tbo
      clear tbo
      go_wp2_with fail
      go_region_held3 (fun w' => w'.cell? ⟨tb, 0, none⟩ = some (.map (some hb)))
        (first
          | go_keep
          | (rw [hgrow.cell_far _ (by simp; omega) (fun e => HO.out e.symm)]; assumption)
          | (rw [hG2.cell_far _ (by show tb < _; omega) (by simp; omega)]; assumption))
        ((refine step_append_lies _ (by rfl) _ _ _ (by rfl) B 44 i0 _ 2 16 Try.underlying42 hi hz0 hz1 hz2 rfl (by omega) (.slice ao (S.H o).length cap) (S.H o).length _ (by rfl) ((hown.alloc _).drew)
            ⟨w.heap.size, 0, none⟩ 1 1 [.int .i64 t, .int .i64 m] (by rfl) (by rfl) (World.news_of_block (cs := #[.int .i64 t, .int .i64 m]) (t := 44) (fr := (0, 0)) (heap_alloc_new w _)) (by simp [Value.oneCell'])
            (by omega) (by unfold maxLen; omega) (by omega) (by simp; omega) (w.heap.size + 1) (by simp) ?_
          intro g cap1 w1 hown1 hgrow hat hlt1
          have hs1 := hgrow.size
          simp at hs1
          obtain ⟨w2, hupd, hM2, hG2⟩ := HT.out.putH ho (wA := (w.alloc (.cells #[.int .i64 t, .int .i64 m] 44)).drew) ((Below.refl _ _).alloc (Nat.le_refl _) _).drew (by rw [HV.out]; exact hgrow) (by unfold maxLen; omega) (.slice (some ⟨g, 0, none⟩) ((S.H o).length + 1) cap1)))
      obtain ⟨h2, tu2⟩ := HT.out.addH (o := o) (t := t) (m := m) (wA := (w.alloc (.cells #[.int .i64 t, .int .i64 m] 44)).drew) (v := .slice (some ⟨g, 0, none⟩) ((S.H o).length + 1) cap1) ((Below.refl _ _).alloc (Nat.le_refl _) _).drew (by rw [HV.out]; exact hgrow) hown1
        (fun g' hg' => by
          simp [Value.ownBlock] at hg'
          subst hg'
          rw [HV.out]
          rcases hat with e | e
          · exact .inl e
          · right; omega) hM2 hG2
      have hs2 := hG2.size
      clear hupd hM2 hG2 hat hgrow hown1 hown c0 hlt1 HO
      have c1 := h2.c1
      have tblt2 : tb < w2.heap.size := by omega
      obtain ⟨ag, capg, hvg, _⟩ := own_shape (h2.rG t)
      have hown2 := h2.rG t
      rw [hvg] at hown2
      have HL : Hid (∀ w', w'.heap[gb]? = w2.heap[gb]? → (Instr.lookup 39 (.map (some gb)) (.int .i64 t) false).run Try.prog w' = .ok (.slice ag (S.G t).length capg) w') := fun w' hw => by rw [← hvg]; exact h2.lookG_at ht w' hw
      have HVG : Hid (fG t = .slice ag (S.G t).length capg) := hvg
      have hlg := h2.lG t
      have gblt : gb < w2.heap.size := h2.mG.lt
      have tbg : tb ≠ gb := fun e => h2.out (by rw [e]; exact h2.ing)
      have HO : Hid ((Value.slice ag (S.G t).length capg).ownBlock ≠ some tb) := by rw [← hvg]; exact fun e => h2.out (h2.inG t tb e)
      have HO2 : Hid ((Value.slice ag (S.G t).length capg).ownBlock ≠ some gb) := by rw [← hvg]; exact h2.rowG_ne_gb t
      have H2 : Hid (TabIs w2 B tb hb gb (n + 1) _ _ _ fG) := h2
      clear hvg h2
      obtain ⟨i1, ji, jz0, jz1, jz2⟩ := info_parts Try.info9
      have hL0 := HL.out w2 rfl
      go_wp2_with fail
      have hL1 := HL.out w2.drew rfl
      have hL2 := HL.out (w2.alloc (.cells #[.string o] 9)).drew (heap_ad w2 _ gb gblt)
      go_region_held3 (fun w' => w'.cell? ⟨tb, 1, none⟩ = some (.map (some gb)))
        (first
          | assumption
          | exact cell_ad c1 _
          | (rw [hgrow.cell_far _ (by simp; omega) (fun e => HO.out e.symm)]; assumption)
          | (rw [hG4.cell_far _ (by show tb < _; omega) (by simp; omega)]; assumption))
        ((refine step_append_lies _ (by rfl) _ _ _ (by rfl) B 9 i1 _ 1 16 Try.underlying23 ji jz0 jz1 jz2 rfl (by omega) (.slice ag (S.G t).length capg) (S.G t).length _ (by rfl) ((hown2.alloc _).drew)
            ⟨w2.heap.size, 0, none⟩ 1 1 [.string o] (by rfl) (by rfl) (World.news_of_block (cs := #[.string o]) (t := 9) (fr := (0, 0)) (heap_alloc_new w2 _)) (by simp [Value.oneCell'])
            (by omega) (by unfold maxLen; omega) (by omega) (by simp; omega) (w2.heap.size + 1) (by simp) ?_
          intro g3 cap3 w3 hown3 hgrow hat hlt3
          have hs3 := hgrow.size
          simp at hs3
          obtain ⟨w4, hupd, hM4, hG4⟩ := H2.out.putG ht (wA := (w2.alloc (.cells #[.string o] 9)).drew) ((Below.refl _ _).alloc (Nat.le_refl _) _).drew (by rw [HVG.out]; exact hgrow) (by unfold maxLen; omega) (.slice (some ⟨g3, 0, none⟩) ((S.G t).length + 1) cap3)))
      all_goals
        obtain ⟨h4, tu4⟩ := H2.out.addG (o := o) (t := t) (wA := (w2.alloc (.cells #[.string o] 9)).drew) (v := .slice (some ⟨g3, 0, none⟩) ((S.G t).length + 1) cap3) ((Below.refl _ _).alloc (Nat.le_refl _) _).drew (by rw [HVG.out]; exact hgrow) hown3
          (fun g' hg' => by
            simp [Value.ownBlock] at hg'
            subst hg'
            rw [HVG.out]
            rcases hat with e | e
            · exact .inl e
            · right; omega) hM4 hG4
        have HG : Hid (Granted w w4 B tb hb gb n F (S.grant t o m)) := granted_miss HN.out h4 tu2 tu4
        clear h4 tu4 tu2
        go_end0
        exact ⟨rfl, HG.out⟩
end
end Go.Proofs.Qxb6628846a
