import Derived.Test.Qxb6628786aMade
namespace Go.Proofs.Qxb6628786a
open Go.RowKit

set_option maxRecDepth 100000 in
set_option maxHeartbeats 3200000 in
theorem anns_any (fo ao : Option Addr) (fb foff fc ab aoff ac : Nat) (fl m : List An) (w : World) (hf : ASl w fo fb foff fl) (ha : ASl w ao ab aoff m) (hfl : fl.length ≤ 1) (hm : m.length ≤ 1048576) :
    Calls Try.prog 9 #[.slice fo fl.length fc, .slice ao m.length ac] w fun e w' => e = .returned (.slice (some ⟨w.heap.size, 0, none⟩) (fl.length + m.length) (fl.length + m.length)) ∧
      w'.ownsRow w.heap.size 48 3 (.slice (some ⟨w.heap.size, 0, none⟩) (fl.length + m.length) (fl.length + m.length)) (fl.length + m.length) (fl.flatMap An.cells ++ m.flatMap An.cells) ∧ Below w.heap.size w w' := by
  obtain ⟨i0, hi, hz0, hz1, hz2⟩ := info_parts Try.info48
  go_enter Try.func9, Try.ntmps9
  go_wp2_with (first | (at_make; refine wpList_make_own _ rfl _ _ 31 rfl w.heap.size 48 i0 _ 3 Try.underlying31 hi hz0 hz1 .i64 .i64 _ (fl.length + m.length) rfl rfl (by omega) (by rw [hz2]; omega) (by unfold maxLen; omega) (Nat.le_refl _) ?_; intro w1 hown1 hgrow1))
  have hw1 := hgrow1.size
  have hB1 : Below w.heap.size w w1 := (Below.refl _ _).grown hgrow1 (Nat.le_refl _) (by simp)
  have hlt1 : w.heap.size < w1.heap.size := (hown1.lt _ rfl).2
  clear hgrow1
  go_loopw [5, 6] (fun v i wr => ∃ k : Nat, k ≤ fl.length ∧ i = .int .i64 k ∧ v = .slice (some ⟨w.heap.size, 0, none⟩) k (fl.length + m.length) ∧
    wr.ownsRow w.heap.size 48 3 (.slice (some ⟨w.heap.size, 0, none⟩) k (fl.length + m.length)) k ((fl.take k).flatMap An.cells) ∧ Below w.heap.size w wr ∧ w.heap.size < wr.heap.size) (fun _ i _ => fl.length - (intOf i).toNat)
  case atStart => exact ⟨0, Nat.zero_le _, rfl, rfl, hown1, hB1, hlt1⟩
  case round =>
    clear hown1 hB1 hlt1 hw1
    obtain ⟨k, hk, rfl, rfl, hown, hB, hsz⟩ := hrel
    by_cases hlt : k < fl.length
    · obtain rfl := hf.1 (by intro e; simp [e] at hlt)
      have hR := (hf.2 k hlt)
      have hbl : fb < w.heap.size := lt_of_cell hR.c0
      have d0 := (hB.cell hbl).trans hR.c0
      have d1 := (hB.cell hbl).trans hR.c1
      have d2 := (hB.cell hbl).trans hR.c2
      go_wp2_with (first | (at_builtin; refine wpList_append_fits _ rfl _ _ 31 rfl w.heap.size 48 i0 3 Try.underlying31 hi hz1 w.heap.size k (fl.length + m.length) _ rfl (hown.alloc _) ⟨wr.heap.size, 0, none⟩ 1 1 fl[k].cells rfl rfl (World.news_of_block (cs := fl[k].cells.toArray) (t := 48) (fr := (0, 0)) (heap_alloc_new wr _)) (by simp [Value.oneCell', An.cells]) (by omega) ?_; intro w2 hown2 hgrow))
      have hB2 : Below w.heap.size w w2 := (((hB.alloc (by omega) _)).grown hgrow (by simp; omega) (by intro q hq; simp at hq; omega))
      have hs2 := hgrow.size
      simp at hs2
      clear hgrow hown hB d0 d1 d2
      go_wp2
      go_roundw
      case rel => exact ⟨k + 1, by omega, by go_num, rfl, by rw [flat_take_succ _ _ _ hlt]; exact hown2, hB2, by omega⟩
      case measure => simp [intOf]; omega
    · obtain rfl : k = fl.length := by omega
      rw [List.take_length] at hown
      go_wp2
      go_loopw [5, 7] (fun v i wr => ∃ k : Nat, k ≤ m.length ∧ i = .int .i64 k ∧ v = .slice (some ⟨w.heap.size, 0, none⟩) (fl.length + k) (fl.length + m.length) ∧
        wr.ownsRow w.heap.size 48 3 (.slice (some ⟨w.heap.size, 0, none⟩) (fl.length + k) (fl.length + m.length)) (fl.length + k) (fl.flatMap An.cells ++ (m.take k).flatMap An.cells) ∧ Below w.heap.size w wr ∧ w.heap.size < wr.heap.size) (fun _ i _ => m.length - (intOf i).toNat)
      case atStart => exact ⟨0, Nat.zero_le _, rfl, rfl, by simpa using hown, hB, hsz⟩
      case round =>
        clear hown hB hsz hlt hk
        obtain ⟨k, hk, rfl, rfl, hown, hB, hsz⟩ := hrel
        by_cases hlt : k < m.length
        · obtain rfl := ha.1 (by intro e; simp [e] at hlt)
          have hR := (ha.2 k hlt)
          have hbl : ab < w.heap.size := lt_of_cell hR.c0
          have d0 := (hB.cell hbl).trans hR.c0
          have d1 := (hB.cell hbl).trans hR.c1
          have d2 := (hB.cell hbl).trans hR.c2
          have hi0' : (0 : Int) ≤ (k : Int) := Int.natCast_nonneg _
          have hi1 : (k : Int) < (m.length : Int) := by omega
          go_wp2_with fail
          go_region_held3 (fun w' => w'.cell? ⟨ab, aoff + k * 3, none⟩ = some (.string m[k].name) ∧ w'.cell? ⟨ab, aoff + k * 3 + 1, none⟩ = some (.string m[k].ear) ∧ w'.cell? ⟨ab, aoff + k * 3 + 2, none⟩ = some (.string m[k].lat))
            (first
              | go_keep
              | (go_split_ands
                 refine ⟨?_, ?_, ?_⟩ <;> (rw [hgrow.cell_far _ (by simp; omega) (by simp; omega)]; assumption)))
            ((refine step_fits _ (by rfl) _ _ _ (by rfl) w.heap.size 48 i0 3 Try.underlying31 hi hz1 w.heap.size (fl.length + k) (fl.length + m.length) _ (by rfl) ((hown.alloc _).drew)
                ⟨wr.heap.size, 0, none⟩ 1 1 m[k].cells (by rfl) (by rfl) (World.news_of_block (cs := m[k].cells.toArray) (t := 48) (fr := (0, 0)) (heap_alloc_new wr _)) (by simp [Value.oneCell', An.cells])
                (by omega) ?_; intro w2 hown2 hgrow))
          have hB2 : Below w.heap.size w w2 := (((hB.alloc (by omega) _).drew).grown hgrow (by simp; omega) (by intro q hq; simp at hq; omega))
          have hs2 := hgrow.size
          simp at hs2
          clear hgrow hown hB d0 d1 d2
          go_wp2
          go_roundw
          case rel => exact ⟨k + 1, by omega, by go_num, rfl, by rw [flat_take_succ _ _ _ hlt, ← List.append_assoc]; exact hown2, hB2, by omega⟩
          case measure => simp [intOf]; omega
        · obtain rfl : k = m.length := by omega
          rw [List.take_length] at hown
          go_wp2
          go_ret
          exact ⟨rfl, hown, hB⟩
end Go.Proofs.Qxb6628786a
