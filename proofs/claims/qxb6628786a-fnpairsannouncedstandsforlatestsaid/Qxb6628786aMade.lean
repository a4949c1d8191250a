import Derived.Test.Qxb6628786aRows
import Derived.Test.Qxb6628786aBase
import Derived.WalkLawsBesides
import Derived.StillTactics
import Derived.OwnWalk
import Derived.Laws.Pointers
import Derived.Deep.RegionHeld3
import Derived.Deep.AppendLies
import Derived.KernelRfl
namespace Go.Proofs.Qxb6628786a
open Go.RowKit

theorem Try.info42 : (Try.prog.info? 42).map (fun i => (i.zero, i.size, i.bytes)) = some (some (.agg #[.string ByteArray.empty, .string ByteArray.empty, .slice none 0 0, .int .i64 0, .int .i64 0, .int .i64 0, .int .i64 0]), 7, 88) := by kernel_rfl
theorem Try.info48 : (Try.prog.info? 48).map (fun i => (i.zero, i.size, i.bytes)) = some (some (.agg #[.string ByteArray.empty, .string ByteArray.empty, .string ByteArray.empty]), 3, 48) := by kernel_rfl

/-- 'append' within the capacity, at a step of a region that draws its order. -/
theorem step_fits {P : Program} (w : World) {ops : Array Oper} {o : Oper} {a : Act} {K : Act → World → Prop} {Q : Exit → Act → World → Prop} {E : Prop}
    (hg : o.guard = none) (s x : Operand) (t : TypeId) (hop : o.op = Op.call { callee := Callee.builtin Builtin.append, args := #[s, x], argTypes := #[t, t] })
    (base : Nat) (e : TypeId) (i : TypeInfo) (size : Nat) (h1 : P.underlying t = some (.slice e)) (h2 : P.info? e = some i) (h4 : i.size = size)
    (g k cap : Nat) (xs : List Value) (hs : a.eval s = .slice (some ⟨g, 0, none⟩) k cap) (hown : w.ownsRow base e size (.slice (some ⟨g, 0, none⟩) k cap) k xs) (ad : Addr) (m c : Nat) (news : List Value) (hx : a.eval x = .slice (some ad) m c) (hn : news.length = m * size)
    (hc : ∀ j u, news[j]? = some u → w.cell? (ad.add j) = some u) (h1c : ∀ u ∈ news, u.oneCell' = true) (b1 : k + m ≤ cap)
    (hK : ∀ w', w'.ownsRow base e size (.slice (some ⟨g, 0, none⟩) (k + m) cap) (k + m) (xs ++ news) → w.grownBy w' (some g) → K (a.put o.dst (.slice (some ⟨g, 0, none⟩) (k + m) cap)) w') :
    if Region.wanted o (yielded ops a.tmps) = true then Oper.wp P o a w K Q else E := by
  have hw : Region.wanted o (yielded ops a.tmps) = true := by simp [Region.wanted, hg]
  rw [if_pos hw]
  obtain ⟨w', hrun, r1, r2⟩ := run_append_fits (P := P) w base t o.type e i size h1 h2 h4 g k cap xs hown ad m c news hn hc h1c b1
  unfold Oper.wp execOp
  simp only [hop, resolve, invoke, builtin, Sem.run_bind, Sem.run_pure, Result.andThen_ok, List.map_toArray, List.map_cons, List.map_nil, hs, hx, hrun]
  exact hK w' r1 r2

theorem flat_take_succ {α β : Type} (f : α → List β) (l : List α) (k : Nat) (h : k < l.length) : (l.take (k + 1)).flatMap f = (l.take k).flatMap f ++ f l[k] := by
  rw [List.take_succ_eq_append_getElem h, List.flatMap_append]; simp

set_option maxRecDepth 100000 in
set_option maxHeartbeats 3200000 in
theorem rules_any (ro : Option Addr) (rb roff rc ex : Nat) (l : List Ru) (w : World) (hr : RSl w ro rb roff l) (hl : l.length ≤ 1048576) (hex : ex ≤ 1) :
    Calls Try.prog 8 #[.slice ro l.length rc, .int .i64 ex] w fun e w' => e = .returned (.slice (some ⟨w.heap.size, 0, none⟩) l.length (l.length + ex)) ∧
      w'.ownsRow w.heap.size 42 7 (.slice (some ⟨w.heap.size, 0, none⟩) l.length (l.length + ex)) l.length (l.flatMap Ru.cells) ∧ Below w.heap.size w w' := by
  obtain ⟨i0, hi, hz0, hz1, hz2⟩ := info_parts Try.info42
  go_enter Try.func8, Try.ntmps8
  go_wp2_with (first | (at_make; refine wpList_make_own _ rfl _ _ 29 rfl w.heap.size 42 i0 _ 7 Try.underlying29 hi hz0 hz1 .i64 .i64 _ (l.length + ex) rfl rfl (by omega) (by rw [hz2]; omega) (by unfold maxLen; omega) (Nat.le_refl _) ?_; intro w1 hown1 hgrow1))
  have hw1 := hgrow1.size
  have hB1 : Below w.heap.size w w1 := (Below.refl _ _).grown hgrow1 (Nat.le_refl _) (by simp)
  have hlt1 : w.heap.size < w1.heap.size := (hown1.lt _ rfl).2
  clear hgrow1
  go_loopw [5, 6] (fun v i wr => ∃ k : Nat, k ≤ l.length ∧ i = .int .i64 k ∧ v = .slice (some ⟨w.heap.size, 0, none⟩) k (l.length + ex) ∧
    wr.ownsRow w.heap.size 42 7 (.slice (some ⟨w.heap.size, 0, none⟩) k (l.length + ex)) k ((l.take k).flatMap Ru.cells) ∧ Below w.heap.size w wr ∧ w.heap.size < wr.heap.size) (fun _ i _ => l.length - (intOf i).toNat)
  case atStart => exact ⟨0, Nat.zero_le _, rfl, rfl, hown1, hB1, hlt1⟩
  case round =>
    clear hown1 hB1 hlt1 hw1
    obtain ⟨k, hk, rfl, rfl, hown, hB, hsz⟩ := hrel
    by_cases hlt : k < l.length
    · obtain rfl := hr.1 (by intro e; simp [e] at hlt)
      have hR := (hr.2 k hlt)
      have hbl : rb < w.heap.size := lt_of_cell hR.c0
      have d0 := (hB.cell hbl).trans hR.c0
      have d1 := (hB.cell hbl).trans hR.c1
      have d2 := (hB.cell hbl).trans hR.c2
      have d3 := (hB.cell hbl).trans hR.c3
      have d4 := (hB.cell hbl).trans hR.c4
      have d5 := (hB.cell hbl).trans hR.c5
      have d6 := (hB.cell hbl).trans hR.c6
      have hi0' : (0 : Int) ≤ (k : Int) := Int.natCast_nonneg _
      have hi1 : (k : Int) < (l.length : Int) := by omega
      go_wp2_with fail
      go_region_held3 (fun w' => w'.cell? ⟨rb, roff + k * 7, none⟩ = some (.string l[k].name) ∧ w'.cell? ⟨rb, roff + k * 7 + 1, none⟩ = some (.string l[k].frm) ∧ w'.cell? ⟨rb, roff + k * 7 + 2, none⟩ = some (.slice l[k].mo l[k].ml l[k].mc) ∧
          w'.cell? ⟨rb, roff + k * 7 + 3, none⟩ = some (.int .i64 l[k].x3) ∧ w'.cell? ⟨rb, roff + k * 7 + 4, none⟩ = some (.int .i64 l[k].x4) ∧ w'.cell? ⟨rb, roff + k * 7 + 5, none⟩ = some (.int .i64 l[k].x5) ∧ w'.cell? ⟨rb, roff + k * 7 + 6, none⟩ = some (.int .i64 l[k].x6))
        (first
          | go_keep
          | (go_split_ands
             refine ⟨?_, ?_, ?_, ?_, ?_, ?_, ?_⟩ <;> (rw [hgrow.cell_far _ (by simp; omega) (by simp; omega)]; assumption)))
        ((refine step_fits _ (by rfl) _ _ _ (by rfl) w.heap.size 42 i0 7 Try.underlying29 hi hz1 w.heap.size k (l.length + ex) _ (by rfl) ((hown.alloc _).drew)
            ⟨wr.heap.size, 0, none⟩ 1 1 l[k].cells (by rfl) (by rfl) (World.news_of_block (cs := l[k].cells.toArray) (t := 42) (fr := (0, 0)) (heap_alloc_new wr _)) (by simp [Value.oneCell', Ru.cells])
            (by omega) ?_; intro w2 hown2 hgrow))
      have hB2 : Below w.heap.size w w2 := (((hB.alloc (by omega) _).drew).grown hgrow (by simp; omega) (by intro q hq; simp at hq; omega))
      have hs2 := hgrow.size
      simp at hs2
      clear hgrow hown hB d0 d1 d2 d3 d4 d5 d6
      go_wp2
      go_roundw
      case rel => exact ⟨k + 1, by omega, by go_num, rfl, by rw [flat_take_succ _ _ _ hlt]; exact hown2, hB2, by omega⟩
      case measure => simp [intOf]; omega
    · obtain rfl : k = l.length := by omega
      rw [List.take_length] at hown
      go_wp2
      go_ret
      exact ⟨rfl, hown, hB⟩
end Go.Proofs.Qxb6628786a
