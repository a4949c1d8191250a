import Derived.Test.Qxb6628786aMade
namespace Go.Proofs.Qxb6628786a
open Go.RowKit

/-- A calendar at the head of block bc. -/
structure CalIs (w : World) (bc : Nat) (ro : Option Addr) (rb rc : Nat) (l : List Ru) (ao : Option Addr) (ab ac : Nat) (m : List An) : Prop where
  cr : w.cell? ⟨bc, 3, none⟩ = some (.slice ro l.length rc)
  ca : w.cell? ⟨bc, 4, none⟩ = some (.slice ao m.length ac)
  rs : RSl w ro rb 0 l
  an : ASl w ao ab 0 m

theorem CalIs.below {w w' : World} {bc : Nat} {ro : Option Addr} {rb rc : Nat} {l : List Ru} {ao : Option Addr} {ab ac : Nat} {m : List An} (h : CalIs w bc ro rb rc l ao ab ac m) (hb : Below w.heap.size w w') : CalIs w' bc ro rb rc l ao ab ac m :=
  ⟨(hb.cell (lt_of_cell h.cr)).trans h.cr, (hb.cell (lt_of_cell h.cr)).trans h.ca, h.rs.below hb, h.an.below hb⟩

/-- Element k of a flattened list of rows of one length. -/
theorem flat_at {α β : Type} (f : α → List β) (c : Nat) (hf : ∀ a, (f a).length = c) (l : List α) (k : Nat) (hk : k < l.length) (i : Nat) (u : β) (hu : (f l[k])[i]? = some u) : (l.flatMap f)[0 + k * c + i]? = some u := by
  induction l generalizing k with
  | nil => simp at hk
  | cons r t ih =>
    have hi := (List.getElem?_eq_some_iff.1 hu).1
    rw [hf] at hi
    cases k with
    | zero =>
      simp only [List.flatMap_cons]
      rw [List.getElem?_append_left (by rw [hf]; omega)]
      simpa using hu
    | succ k =>
      simp only [List.flatMap_cons]
      rw [Nat.succ_mul, List.getElem?_append_right (by rw [hf]; omega), hf]
      rw [show 0 + (k * c + c) + i - c = 0 + k * c + i by omega]
      exact ih k (by simpa using hk) (by simpa using hu)

theorem ruAt_of_cells {w : World} {g : Nat} {l : List Ru} (h : ∀ j u, (l.flatMap Ru.cells)[j]? = some u → w.cell? ⟨g, j, none⟩ = some u) (k : Nat) (hk : k < l.length) : RuAt w g (0 + k * 7) l[k] := by
  have key := flat_at Ru.cells 7 (fun _ => rfl) l k hk
  exact ⟨h _ _ (key 0 _ rfl), h _ _ (key 1 _ rfl), h _ _ (key 2 _ rfl), h _ _ (key 3 _ rfl), h _ _ (key 4 _ rfl), h _ _ (key 5 _ rfl), h _ _ (key 6 _ rfl)⟩

theorem anAt_of_cells {w : World} {g : Nat} {l : List An} (h : ∀ j u, (l.flatMap An.cells)[j]? = some u → w.cell? ⟨g, j, none⟩ = some u) (k : Nat) (hk : k < l.length) : AnAt w g (0 + k * 3) l[k] := by
  have key := flat_at An.cells 3 (fun _ => rfl) l k hk
  exact ⟨h _ _ (key 0 _ rfl), h _ _ (key 1 _ rfl), h _ _ (key 2 _ rfl)⟩

theorem flat_len {α β : Type} (f : α → List β) (c : Nat) (hf : ∀ a, (f a).length = c) (l : List α) : (l.flatMap f).length = l.length * c := by
  induction l with
  | nil => simp
  | cons r t ih => simp only [List.flatMap_cons, List.length_append, List.length_cons, hf, ih, Nat.succ_mul]; omega

theorem owned_cells {w : World} {base e size g n cap : Nat} {xs : List Value} (h : w.ownsRow base e size (.slice (some ⟨g, 0, none⟩) n cap) n xs) : ∀ j u, xs[j]? = some u → w.cell? ⟨g, j, none⟩ = some u := fun j u hu => by
  have := h.cells (g := g) rfl j u hu
  rwa [Addr.add_lit, Nat.zero_add] at this

/-- A row of rules that the call owns, as a slice of rules. -/
theorem rsl_of_owned {w : World} {base : Nat} {v : Value} {l : List Ru} (h : w.ownsRow base 42 7 v l.length (l.flatMap Ru.cells)) : ∃ ao g cap, v = .slice ao l.length cap ∧ RSl w ao g 0 l := by
  rcases h.2 with ⟨rfl, h0⟩ | ⟨g, cap, cur, rfl, hb, hg, _⟩
  · have : l = [] := List.length_eq_zero_iff.1 h0
    subst this
    exact ⟨none, 0, 0, rfl, by simp, fun i hi => by simp at hi⟩
  · exact ⟨_, g, cap, rfl, fun _ => rfl, fun i hi => ruAt_of_cells (owned_cells h) i hi⟩

theorem asl_of_owned {w : World} {base g n cap : Nat} {l : List An} (h : w.ownsRow base 48 3 (.slice (some ⟨g, 0, none⟩) n cap) n (l.flatMap An.cells)) : ASl w (some ⟨g, 0, none⟩) g 0 l :=
  ⟨fun _ => rfl, fun i hi => anAt_of_cells (owned_cells h) i hi⟩

theorem rulesOf_take_hit (l : List Ru) (s : ByteArray) (k : Nat) (h : k < l.length) (e : l[k].name = s) : rulesOf (l.take (k + 1)) s = rulesOf (l.take k) s ++ [l[k]] := by
  rw [List.take_succ_eq_append_getElem h]; unfold rulesOf; rw [List.filter_append]; simp [e]
theorem rulesOf_take_miss (l : List Ru) (s : ByteArray) (k : Nat) (h : k < l.length) (e : ¬ l[k].name = s) : rulesOf (l.take (k + 1)) s = rulesOf (l.take k) s := by
  rw [List.take_succ_eq_append_getElem h]; unfold rulesOf; rw [List.filter_append]; simp [e]
theorem rulesOf_len (l : List Ru) (s : ByteArray) (k : Nat) : (rulesOf (l.take k) s).length ≤ l.length := by
  unfold rulesOf
  have h1 := List.length_filter_le (fun r : Ru => decide (r.name = s)) (l.take k)
  have h2 := List.length_take_le k l
  have h3 : (l.take k).length ≤ l.length := by simp; omega
  omega

theorem heap_two (w : World) (o1 o2 : Obj) : ((w.alloc o1).alloc o2).heap[w.heap.size + 1]? = some o2 := by
  have := heap_alloc_new (w.alloc o1) o2; simpa using this

set_option maxRecDepth 100000 in
set_option maxHeartbeats 1600000 in
theorem rulesOf_any (bc : Nat) (ro : Option Addr) (rb rc : Nat) (l : List Ru) (ao : Option Addr) (ab ac : Nat) (m : List An) (s : ByteArray) (w : World) (hc : CalIs w bc ro rb rc l ao ab ac m) (hl : l.length ≤ 1048577) :
    Calls Try.prog 14 #[.pointer (some ⟨bc, 0, none⟩), .string s] w fun e w' => (∃ vo vb vc, e = .returned (.slice vo (rulesOf l s).length vc) ∧ RSl w' vo vb 0 (rulesOf l s)) ∧ Below w.heap.size w w' := by
  obtain ⟨i0, hi, hz0, hz1, hz2⟩ := info_parts Try.info42
  have hcr := hc.cr
  have hrs := hc.rs
  clear hc
  go_enter Try.func14, Try.ntmps14
  go_wp2
  go_loopw [5, 13] (fun v i wr => ∃ k : Nat, k ≤ l.length ∧ i = .int .i64 k ∧
    wr.ownsRow w.heap.size 42 7 v (rulesOf (l.take k) s).length ((rulesOf (l.take k) s).flatMap Ru.cells) ∧ Below w.heap.size w wr) (fun _ i _ => l.length - (intOf i).toNat)
  case atStart => exact ⟨0, Nat.zero_le _, rfl, World.ownsRow_nil _ _ _ _, Below.refl _ _⟩
  case round =>
    obtain ⟨k, hk, rfl, hown, hB⟩ := hrel
    have hBs := hB.size
    by_cases hlt : k < l.length
    · obtain rfl := hrs.1 (by intro e; simp [e] at hlt)
      have hR := (hrs.2 k hlt)
      have hbl : rb < w.heap.size := lt_of_cell hR.c0
      have d0 := (hB.cell hbl).trans hR.c0
      have d1 := (hB.cell hbl).trans hR.c1
      have d2 := (hB.cell hbl).trans hR.c2
      have d3 := (hB.cell hbl).trans hR.c3
      have d4 := (hB.cell hbl).trans hR.c4
      have d5 := (hB.cell hbl).trans hR.c5
      have d6 := (hB.cell hbl).trans hR.c6
      have hlen := rulesOf_len l s k
      simp only [Nat.zero_add] at d0 d1 d2 d3 d4 d5 d6
      by_cases he : l[k].name = s
      · have n0 := tl_eq he
        have HE : Hid (l[k].name = s) := he
        clear he hR hcr hrs
        go_wp2_with (first | (at_builtin; refine wpList_append_own _ rfl _ _ 29 rfl w.heap.size 42 i0 _ 7 88 Try.underlying29 hi hz0 hz1 hz2 rfl (by decide) _ _ _ rfl ((hown.alloc _).alloc _) ⟨wr.heap.size + 1, 0, none⟩ 1 1 l[k].cells rfl rfl (World.news_of_block (cs := l[k].cells.toArray) (t := 42) (fr := (0, 0)) (heap_two wr _ _)) (by simp [Value.oneCell', Ru.cells]) (by unfold maxLen; omega) (by omega) (by simp; omega) ?_; intro v2 w2 hown2 hgrow _))
        have hB2 : Below w.heap.size w w2 := ((((hB.alloc (by omega) _)).alloc (by simp; omega) _).grown hgrow (by simp; omega) (fun q hq => (hown.lt q hq).1))
        clear hgrow hown hB d0 d1 d2 d3 d4 d5 d6
        go_wp2
        go_roundw
        case rel => exact ⟨k + 1, by omega, by go_num, by rw [rulesOf_take_hit l s k hlt HE.out, List.length_append, List.flatMap_append]; simpa using hown2, hB2⟩
        case measure => simp [intOf]; omega
      · have n0 := tl_ne he
        have HE : Hid (¬ l[k].name = s) := he
        clear he hR hcr hrs
        go_wp2
        go_roundw
        case rel => exact ⟨k + 1, by omega, by go_num, by rw [rulesOf_take_miss l s k hlt HE.out]; exact hown.alloc _, hB.alloc hBs _⟩
        case measure => simp [intOf]; omega
    · obtain rfl : k = l.length := by omega
      rw [List.take_length] at hown
      obtain ⟨vo, vb, vc, rfl, hv⟩ := rsl_of_owned hown
      go_wp2
      go_ret
      exact ⟨⟨_, _, _, rfl, hv⟩, hB⟩
end Go.Proofs.Qxb6628786a
