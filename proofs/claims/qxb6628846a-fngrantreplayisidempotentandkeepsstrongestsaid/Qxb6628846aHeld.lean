import Derived.Test.Qxb6628846aReads
namespace Go.Proofs.Qxb6628846a
open Go.RowKit

section
variable {w : World} {B tb hb gb n : Nat} {F : Nat → Prop} {S : St} {fH : ByteArray → Value} {fG : Int → Value}

theorem own_cells {w : World} {base : Nat} {e : TypeId} {size g n cap : Nat} {xs : List Value} (h : w.ownsRow base e size (.slice (some ⟨g, 0, none⟩) n cap) n xs) : ∀ j u, xs[j]? = some u → w.cell? ((⟨g, 0, none⟩ : Addr).add j) = some u := h.cells (g := g) rfl

theorem own_gen {w : World} {base : Nat} {e : TypeId} {size : Nat} {v : Value} {n : Nat} {xs : List Value} (h : w.ownsRow base e size v n xs) : (v = .slice none 0 0 ∧ n = 0 ∧ xs = []) ∨ ∃ g cap, v = .slice (some ⟨g, 0, none⟩) n cap := by
  rcases h.2 with ⟨rfl, rfl⟩ | ⟨g, cap, cur, rfl, _⟩
  · exact .inl ⟨rfl, rfl, List.eq_nil_of_length_eq_zero (by simpa using h.1)⟩
  · exact .inr ⟨g, cap, rfl⟩

theorem strs_one (l : List ByteArray) : ∀ u ∈ l.map Value.string, u.oneCell' = true := by
  intro u hu
  obtain ⟨s, _, rfl⟩ := List.mem_map.1 hu
  rfl

set_option maxRecDepth 100000 in
set_option maxHeartbeats 800000 in
theorem held_any (h : TabIs w B tb hb gb n F S fH fG) (t : Int) (ht : (Lit.int .i64 t).wf = true) (hn : n ≤ 1000000) :
    Calls Try.prog 10 #[.pointer (some ⟨tb, 0, none⟩), .int .i64 t] w fun e w' => (∃ ao cap, e = .returned (.slice ao (S.G t).length cap) ∧ w'.ownsRow w.heap.size 9 1 (.slice ao (S.G t).length cap) (S.G t).length ((S.G t).map Value.string)) ∧ Below w.heap.size w w' := by
  have hl := h.lookG ht
  have c1 := h.c1
  have hlen := h.lG t
  have hown := h.rG t
  obtain ⟨i0, hi, hz0, hz1, hz2⟩ := info_parts Try.info9
  clear h
  rcases own_gen hown with ⟨hv, h0, hx⟩ | ⟨g, cap, hv⟩
  · rw [hv] at hl
    have e0 : S.G t = [] := List.length_eq_zero_iff.1 h0
    rw [e0]
    clear hown hv h0 hx hlen e0
    go_enter Try.func10, Try.ntmps10
    go_wp2_with (first | (at_builtin; refine wpList_append_own_none rfl _ _ 23 rfl w.heap.size 9 i0 1 Try.underlying23 hi _ 0 [] rfl (World.ownsRow_nil _ _ _ _) rfl ?_))
    go_wp2
    go_ret
    exact ⟨⟨none, 0, rfl, World.ownsRow_nil _ _ _ _⟩, Below.refl _ _⟩
  · rw [hv] at hl hown
    clear hv
    go_enter Try.func10, Try.ntmps10
    go_wp2_with (first | (at_builtin; refine wpList_append_own _ rfl _ _ 23 rfl w.heap.size 9 i0 _ 1 16 Try.underlying23 hi hz0 hz1 hz2 rfl (by decide) (.slice none 0 0) 0 [] rfl (World.ownsRow_nil _ _ _ _) ⟨g, 0, none⟩ (S.G t).length cap ((S.G t).map Value.string) rfl (by simp) (own_cells hown) (strs_one _) (by unfold maxLen; omega) (by omega) (Nat.le_refl _) ?_; intro v2 w2 hown2 hgrow _))
    simp only [Nat.zero_add, List.nil_append] at hown2
    have hB : Below w.heap.size w w2 := (Below.refl _ _).grown hgrow (Nat.le_refl _) (by simp [Value.ownBlock])
    obtain ⟨ao, cap2, hv2, _⟩ := own_shape hown2
    rw [hv2] at hown2 ⊢
    clear hgrow hv2
    go_wp2
    go_ret
    exact ⟨⟨ao, cap2, rfl, hown2⟩, hB⟩
end
end Go.Proofs.Qxb6628846a
