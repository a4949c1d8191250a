import Derived.Test.Qxb6628846aGrant
import Derived.Laws.AppendOwnNone
namespace Go.Proofs.Qxb6628846a
open Go.RowKit

theorem Try.info3 : (Try.prog.info? 3).map (fun i => (i.zero, i.size, i.bytes)) = some (some (.int .i64 0), 1, 8) := by kernel_rfl

theorem ret_int {k : IntKind} {a b : Int} (h : a = b) : Ending.returned (.int k a) = .returned (.int k b) := by rw [h]

theorem tab_made (w : World) : TabIs (((w.alloc (.map #[] 0)).alloc (.map #[] 0)).alloc (.cells #[.map (some w.heap.size), .map (some (w.heap.size + 1))] 41)) w.heap.size (w.heap.size + 2) w.heap.size (w.heap.size + 1) 0
    (fun k => k = w.heap.size ∨ k = w.heap.size + 1) St.empty (fun _ => .slice none 0 0) (fun _ => .slice none 0 0) := by
  have e1 : (w.alloc (.map #[] 0)).heap.size = w.heap.size + 1 := by simp
  have e2 : ((w.alloc (.map #[] 0)).alloc (.map #[] 0)).heap.size = w.heap.size + 2 := by simp
  have m1 := mapF_made (κ := kS) w 9 (.slice none 0 0)
  have m2 := mapF_made (κ := kI) (w.alloc (.map #[] 0)) 3 (.slice none 0 0)
  rw [e1] at m2
  refine { c0 := ?_, c1 := ?_, mH := ?_, mG := ?_, rH := fun o => World.ownsRow_nil _ _ _ _, rG := fun o => World.ownsRow_nil _ _ _ _, dH := fun o o' g hg => by simp [Value.ownBlock] at hg, dG := fun o o' g hg => by simp [Value.ownBlock] at hg, lH := fun o => Nat.le_refl _, lG := fun o => Nat.le_refl _, inH := fun o g hg => by simp [Value.ownBlock] at hg, inG := fun o g hg => by simp [Value.ownBlock] at hg, inh := .inl rfl, ing := .inr rfl, lo := ?_, out := ?_, hg := by omega }
  · rw [← e2]; exact (cell_of_row _ _ 0 _ 41 (0, 0) (heap_alloc_new _ _)).trans rfl
  · rw [← e2]; exact (cell_of_row _ _ 1 _ 41 (0, 0) (heap_alloc_new _ _)).trans rfl
  · refine (m1.kept (Below.heap_alloc _ _ _ (by simp))).kept (Below.heap_alloc _ _ _ (by simp; omega))
  · exact m2.kept (Below.heap_alloc _ _ _ (by simp))
  · intro k hk; simp; omega
  · omega

set_option maxHeartbeats 400000 in
theorem newTable_any (w : World) :
    Calls Try.prog 7 #[] w fun e w' => e = .returned (.pointer (some ⟨w.heap.size + 2, 0, none⟩)) ∧ TabIs w' w.heap.size (w.heap.size + 2) w.heap.size (w.heap.size + 1) 0 (fun k => k = w.heap.size ∨ k = w.heap.size + 1) St.empty (fun _ => .slice none 0 0) (fun _ => .slice none 0 0) ∧ Below w.heap.size w w' := by
  have hmm := @run_makeMap Try.prog
  go_enter Try.func7, Try.ntmps7
  go_wp2
  go_ret
  exact ⟨rfl, tab_made w, (((Below.refl _ _).alloc (Nat.le_refl _) _).alloc (by simp) _).alloc (by simp; omega) _⟩

/-- The first k filled in. -/
def filled (A : List Value) (z : Value) (k : Nat) : List Value := A.take k ++ List.replicate (A.length - k) z
theorem filled_zero (A : List Value) (z : Value) : filled A z 0 = List.replicate A.length z := by simp [filled]
theorem filled_all (A : List Value) (z : Value) : filled A z A.length = A := by simp [filled]
theorem filled_set (A : List Value) (z : Value) (k : Nat) (h : k < A.length) : (filled A z k).set k A[k] = filled A z (k + 1) := by
  unfold filled
  have e : A.length - k = (A.length - (k + 1)) + 1 := by omega
  rw [e, List.replicate_succ, List.set_append_right _ _ (by simp; omega)]
  rw [List.take_succ_eq_append_getElem h, List.append_assoc]
  congr 1
  simp [Nat.min_eq_left (Nat.le_of_lt h)]

theorem made_one (z : Value) (hz : z.cells = #[z]) (n : Nat) : (madeCells z.cells (n * 1)).toList = List.replicate n z := by
  rw [hz, Nat.mul_one, toList_madeCells_one]

theorem cell_ex {w : World} {base : Nat} {e : TypeId} {g n cap k : Nat} {xs : List Value} (h : w.ownsRow base e 1 (.slice (some ⟨g, 0, none⟩) n cap) n xs) (hk : k < n) (hx : k < xs.length) : ∃ u, w.cell? ⟨g, k, none⟩ = some u :=
  ⟨xs[k], (h.cellAt k (by omega)).trans (List.getElem?_eq_getElem hx)⟩

theorem fill_two {w wr : World} {g2 k : Nat} {l : List (Int × Int)} (o1 : wr.ownsRow w.heap.size 3 1 (.slice (some ⟨w.heap.size, 0, none⟩) l.length l.length) l.length (filled (l.map fun p => .int .i64 p.1) (.int .i64 0) k))
    (o2 : wr.ownsRow w.heap.size 3 1 (.slice (some ⟨g2, 0, none⟩) l.length l.length) l.length (filled (l.map fun p => .int .i64 p.2) (.int .i64 0) k)) (hne : ¬ g2 = w.heap.size) (hlt : k < l.length) (hB : Below w.heap.size w wr) (hg : w.heap.size ≤ g2) :
    ((wr.setCell ⟨w.heap.size, k, none⟩ (.int .i64 l[k].1)).setCell ⟨g2, k, none⟩ (.int .i64 l[k].2)).ownsRow w.heap.size 3 1 (.slice (some ⟨w.heap.size, 0, none⟩) l.length l.length) l.length (filled (l.map fun p => .int .i64 p.1) (.int .i64 0) (k + 1)) ∧
    ((wr.setCell ⟨w.heap.size, k, none⟩ (.int .i64 l[k].1)).setCell ⟨g2, k, none⟩ (.int .i64 l[k].2)).ownsRow w.heap.size 3 1 (.slice (some ⟨g2, 0, none⟩) l.length l.length) l.length (filled (l.map fun p => .int .i64 p.2) (.int .i64 0) (k + 1)) ∧
    Below w.heap.size w ((wr.setCell ⟨w.heap.size, k, none⟩ (.int .i64 l[k].1)).setCell ⟨g2, k, none⟩ (.int .i64 l[k].2)) := by
  obtain ⟨s1, gr1⟩ := o1.stored k (.int .i64 l[k].1)
  have o2' := o2.kept gr1 (.inr (by simpa [Value.ownBlock] using hne))
  obtain ⟨s2, gr2⟩ := o2'.stored k (.int .i64 l[k].2)
  have s1' := s1.kept gr2 (.inr (by simp [Value.ownBlock]; exact fun e => hne e.symm))
  have e1 := filled_set (l.map fun p => (.int .i64 p.1 : Value)) (.int .i64 0) k (by simpa using hlt)
  have e2 := filled_set (l.map fun p => (.int .i64 p.2 : Value)) (.int .i64 0) k (by simpa using hlt)
  rw [List.getElem_map] at e1 e2
  rw [e1] at s1'
  rw [e2] at s2
  exact ⟨s1', s2, (hB.setCell (Nat.le_refl _) _).setCell hg _⟩

section
variable {w : World} {B tb hb gb n : Nat} {F : Nat → Prop} {S : St} {fH : ByteArray → Value} {fG : Int → Value}

set_option maxRecDepth 100000 in
set_option maxHeartbeats 1600000 in
theorem holders_any (h : TabIs w B tb hb gb n F S fH fG) (o : ByteArray) (ho : o.size ≤ maxLen) (hn : n ≤ 1000000) :
    Calls Try.prog 9 #[.pointer (some ⟨tb, 0, none⟩), .string o] w fun e w' => (∃ g1 g2, e = .returned (.tuple #[.slice (some ⟨g1, 0, none⟩) (S.H o).length (S.H o).length, .slice (some ⟨g2, 0, none⟩) (S.H o).length (S.H o).length]) ∧
      w'.ownsRow w.heap.size 3 1 (.slice (some ⟨g1, 0, none⟩) (S.H o).length (S.H o).length) (S.H o).length ((S.H o).map fun p => .int .i64 p.1) ∧
      w'.ownsRow w.heap.size 3 1 (.slice (some ⟨g2, 0, none⟩) (S.H o).length (S.H o).length) (S.H o).length ((S.H o).map fun p => .int .i64 p.2)) ∧ Below w.heap.size w w' := by
  obtain ⟨ao, cap, hv, hgo⟩ := own_shape (h.rH o)
  have hl := h.lookH ho
  rw [hv] at hl
  have c0 := h.c0
  have hlen := h.lH o
  have HT : Hid (TabIs w B tb hb gb n F S fH fG) := h
  have HV : Hid (fH o = .slice ao (S.H o).length cap) := hv
  clear h hv
  obtain ⟨i0, hi, hz0, hz1, hz2⟩ := info_parts Try.info3
  go_enter Try.func9, Try.ntmps9
  go_wp2_with (first
    | (at_make; have _t := hl; refine wpList_make_full _ rfl _ _ 22 rfl w.heap.size 3 i0 (.int .i64 0) 1 Try.underlying22 hi hz0 hz1 .i64 .i64 _ _ (S.H o).length rfl rfl rfl rfl (by rw [hz2]; omega) (by unfold maxLen; omega) (Nat.le_refl _) ?_; intro w1 hown1 hgrow1; clear hl)
    | (at_make; refine wpList_make_full _ rfl _ _ 22 rfl w.heap.size 3 i0 (.int .i64 0) 1 Try.underlying22 hi hz0 hz1 .i64 .i64 _ _ (S.H o).length rfl rfl rfl rfl (by rw [hz2]; omega) (by unfold maxLen; omega) (by have := hgrow1.size; omega) ?_; intro w2 hown2 hgrow2))
  have hlt1 : w.heap.size < w1.heap.size := (hown1.lt _ rfl).2
  have hown1' : w2.ownsRow w.heap.size 3 1 (.slice (some ⟨w.heap.size, 0, none⟩) (S.H o).length (S.H o).length) (S.H o).length (filled ((S.H o).map fun p => .int .i64 p.1) (.int .i64 0) 0) := by
    rw [filled_zero, List.length_map]
    have := hown1.kept hgrow2 (.inr (by simp [Value.ownBlock]))
    rwa [made_one _ rfl] at this
  have hown2' : w2.ownsRow w.heap.size 3 1 (.slice (some ⟨w1.heap.size, 0, none⟩) (S.H o).length (S.H o).length) (S.H o).length (filled ((S.H o).map fun p => .int .i64 p.2) (.int .i64 0) 0) := by
    rw [filled_zero, List.length_map]
    rwa [made_one _ rfl] at hown2
  have hB2 : Below w.heap.size w w2 := ((Below.refl _ _).grown hgrow1 (Nat.le_refl _) (by simp)).grown hgrow2 (by omega) (by simp)
  obtain ⟨g2, hg2⟩ : ∃ g2, g2 = w1.heap.size := ⟨_, rfl⟩
  rw [← hg2] at hown2' hlt1 ⊢
  have hne : ¬ g2 = w.heap.size := by omega
  clear hg2 hown1 hown2 hgrow1 hgrow2
  go_loopw [24] (fun i wr => ∃ k : Nat, k ≤ (S.H o).length ∧ i = .int .i64 k ∧ wr.ownsRow w.heap.size 3 1 (.slice (some ⟨w.heap.size, 0, none⟩) (S.H o).length (S.H o).length) (S.H o).length (filled ((S.H o).map fun p => .int .i64 p.1) (.int .i64 0) k) ∧
    wr.ownsRow w.heap.size 3 1 (.slice (some ⟨g2, 0, none⟩) (S.H o).length (S.H o).length) (S.H o).length (filled ((S.H o).map fun p => .int .i64 p.2) (.int .i64 0) k) ∧ Below w.heap.size w wr) (fun i _ => (S.H o).length - (intOf i).toNat)
  case atStart => exact ⟨0, Nat.zero_le _, rfl, hown1', hown2', hB2⟩
  case round =>
    clear hown1' hown2' hB2
    obtain ⟨k, hk, rfl, o1, o2, hB⟩ := hrel
    by_cases hlt : k < (S.H o).length
    · obtain ⟨g, rfl⟩ := hgo (by omega)
      have hown := HT.out.rH o
      rw [HV.out] at hown
      have d0 := (hown.cellAt (k * 2) (by omega)).trans (flat2_fst _ _ hlt)
      have d1 := (hown.cellAt (k * 2 + 1) (by omega)).trans (flat2_snd _ _ hlt)
      have hgl : g < w.heap.size := World.block_lt_of_cell? w _ d0
      replace d0 := (hB.cell hgl).trans d0
      replace d1 := (hB.cell hgl).trans d1
      have f1 := o1.frozenAt k
      have f2 := o2.frozenAt k
      have x1 : ∃ u, wr.cell? ⟨w.heap.size, k, none⟩ = some u := cell_ex o1 hlt (by simp [filled]; omega)
      have x2 : ∃ u, wr.cell? ⟨g2, k, none⟩ = some u := cell_ex o2 hlt (by simp [filled]; omega)
      obtain ⟨u1, x1⟩ := x1
      obtain ⟨u2, x2⟩ := x2
      have R := fill_two o1 o2 hne hlt hB (by omega)
      have R : Hid _ := R
      clear hown o1 o2 hB
      go_wp2
      go_roundw
      case rel => exact ⟨k + 1, by omega, by go_num, R.out.1, R.out.2.1, R.out.2.2⟩
      case measure => simp [intOf]; omega
    · obtain rfl : k = (S.H o).length := by omega
      rw [show (S.H o).length = ((S.H o).map fun p => (.int .i64 p.1 : Value)).length by simp, filled_all] at o1
      rw [show (S.H o).length = ((S.H o).map fun p => (.int .i64 p.2 : Value)).length by simp, filled_all] at o2
      simp only [List.length_map] at o1 o2
      go_wp2
      go_ret2
      exact ⟨⟨_, _, rfl, o1, o2⟩, hB⟩
end

set_option maxHeartbeats 400000 in
theorem min3_any (a b c : Nat) (w : World) :
    Calls Try.prog 6 #[.int .i64 a, .int .i64 b, .int .i64 c] w fun e w' => e = .returned (.int .i64 (min a (min b c) : Nat)) ∧ w' = w := by
  by_cases h1 : b < a
  · by_cases h2 : c < b
    · go_enter Try.func6, Try.ntmps6
      go_wp2
      go_ret
      exact ⟨ret_int (by omega), rfl⟩
    · go_enter Try.func6, Try.ntmps6
      go_wp2
      go_ret
      exact ⟨ret_int (by omega), rfl⟩
  · by_cases h2 : c < a
    · go_enter Try.func6, Try.ntmps6
      go_wp2
      go_ret
      exact ⟨ret_int (by omega), rfl⟩
    · go_enter Try.func6, Try.ntmps6
      go_wp2
      go_ret
      exact ⟨ret_int (by omega), rfl⟩
end Go.Proofs.Qxb6628846a
