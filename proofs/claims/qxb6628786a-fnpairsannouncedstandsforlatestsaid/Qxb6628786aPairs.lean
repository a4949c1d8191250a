import Derived.Test.Qxb6628786aOrigin
import Derived.Test.Qxb6628786aRulesOf
namespace Go.Proofs.Qxb6628786a
open Go.RowKit

theorem resolve_take_hit (m : List An) (s : ByteArray) (k : Nat) (h : k < m.length) (e : m[k].name = resolveN (m.take k) s) : resolveN (m.take (k + 1)) s = m[k].lat := by
  rw [List.take_succ_eq_append_getElem h]; unfold resolveN at e ⊢; rw [List.foldl_append]; simp only [List.foldl_cons, List.foldl_nil]; rw [if_pos e]
theorem resolve_take_miss (m : List An) (s : ByteArray) (k : Nat) (h : k < m.length) (e : ¬ m[k].name = resolveN (m.take k) s) : resolveN (m.take (k + 1)) s = resolveN (m.take k) s := by
  rw [List.take_succ_eq_append_getElem h]; unfold resolveN at e ⊢; rw [List.foldl_append]; simp only [List.foldl_cons, List.foldl_nil]; rw [if_neg e]

theorem val_str {a b : ByteArray} (h : a = b) : Value.string a = .string b := by rw [h]

set_option maxRecDepth 100000 in
set_option maxHeartbeats 1600000 in
theorem originC_any (bc : Nat) (ro : Option Addr) (rb rc : Nat) (l : List Ru) (ao : Option Addr) (ab ac : Nat) (m : List An) (s : ByteArray) (w : World) (hc : CalIs w bc ro rb rc l ao ab ac m) (hl : l.length ≤ 1048577) (hm : m.length ≤ 1048577) :
    Calls Try.prog 10 #[.pointer (some ⟨bc, 0, none⟩), .string s] w fun e w' => e = .returned (.tuple #[.string (originC l m s).1, .bool (originC l m s).2]) ∧ Below w.heap.size w w' := by
  have hca := hc.ca
  have has := hc.an
  have HC : Hid (CalIs w bc ro rb rc l ao ab ac m) := hc
  clear hc
  go_enter Try.func10, Try.ntmps10
  go_wp2
  go_loopw [1, 13] (fun v i wr => ∃ k : Nat, k ≤ m.length ∧ i = .int .i64 k ∧ v = .string (resolveN (m.take k) s) ∧ Below w.heap.size w wr) (fun _ i _ => m.length - (intOf i).toNat)
  case atStart => exact ⟨0, Nat.zero_le _, rfl, rfl, Below.refl _ _⟩
  case round =>
    obtain ⟨k, hk, rfl, rfl, hB⟩ := hrel
    have hBs := hB.size
    by_cases hlt : k < m.length
    · obtain rfl := has.1 (by intro e; simp [e] at hlt)
      have hR := (has.2 k hlt)
      have hbl : ab < w.heap.size := lt_of_cell hR.c0
      have d0 := (hB.cell hbl).trans hR.c0
      have d1 := (hB.cell hbl).trans hR.c1
      have d2 := (hB.cell hbl).trans hR.c2
      simp only [Nat.zero_add] at d0 d1 d2
      by_cases he : m[k].name = resolveN (m.take k) s
      · have n0 := tl_eq he
        have HE := resolve_take_hit m s k hlt he
        have HE : Hid (resolveN (m.take (k + 1)) s = m[k].lat) := HE
        clear he hR has
        go_wp2
        go_roundw
        case rel => exact ⟨k + 1, by omega, by go_num, val_str HE.out.symm, hB.alloc hBs _⟩
        case measure => simp [intOf]; omega
      · have n0 := tl_ne he
        have HE := resolve_take_miss m s k hlt he
        have HE : Hid (resolveN (m.take (k + 1)) s = resolveN (m.take k) s) := HE
        clear he hR has
        go_wp2
        go_roundw
        case rel => exact ⟨k + 1, by omega, by go_num, val_str HE.out.symm, hB.alloc hBs _⟩
        case measure => simp [intOf]; omega
    · obtain rfl : k = m.length := by omega
      clear has hca
      rw [List.take_length]
      have hc2 := HC.out.below hB
      go_wp2_with fail
      refine (rulesOf_any bc ro rb rc l ao ab ac m _ _ hc2 hl).mono ?_
      rintro e w1 ⟨⟨vo, vb, vc, rfl, hv⟩, hB1⟩
      go_wp2_with fail
      refine (origin_any vo vb 0 vc _ _ hv (by have := rulesOf_len l (resolveN m s) l.length; rw [List.take_length] at this; unfold maxLen; omega)).mono ?_
      rintro e w2 ⟨rfl, rfl⟩
      go_wp2
      go_ret2
      exact ⟨rfl, hB.trans (hB1.mono hBs)⟩

theorem pairs_of {l : List Ru} {m : List An} {a b : ByteArray} {o1 o2 : ByteArray × Bool} (h1 : originC l m b = o1) (h2 : originC l m a = o2) :
    pairsC l m a b = (decide (a = b) || (o1.2 && decide (o1.1 = a)) || (o1.2 && o2.2 && decide (o2.1 = o1.1))) := by
  unfold pairsC; rw [h1, h2]

set_option maxRecDepth 100000 in
set_option maxHeartbeats 1600000 in
theorem pairs_any (bc : Nat) (ro : Option Addr) (rb rc : Nat) (l : List Ru) (ao : Option Addr) (ab ac : Nat) (m : List An) (a b : ByteArray) (w : World) (hc : CalIs w bc ro rb rc l ao ab ac m) (hl : l.length ≤ 1048577) (hm : m.length ≤ 1048577) :
    Calls Try.prog 11 #[.pointer (some ⟨bc, 0, none⟩), .string a, .string b] w fun e w' => e = .returned (.bool (pairsC l m a b)) ∧ Below w.heap.size w w' := by
  have HC : Hid (CalIs w bc ro rb rc l ao ab ac m) := hc
  clear hc
  by_cases h : a = b
  · have n0 := tl_eq h
    have HE : Hid (pairsC l m a b = true) := by show _ = _; unfold pairsC; simp [h]
    clear h
    go_enter Try.func11, Try.ntmps11
    go_wp2
    go_ret
    exact ⟨ret_bool HE.out.symm, Below.refl _ _⟩
  · have n0 := tl_ne h
    have HN : Hid (¬ a = b) := h
    clear h
    go_enter Try.func11, Try.ntmps11
    go_wp2_with fail
    refine (originC_any bc ro rb rc l ao ab ac m _ _ HC.out hl hm).mono ?_
    rintro e w1 ⟨rfl, hB1⟩
    have hc1 := HC.out.below hB1
    generalize h1 : originC l m b = o1
    obtain ⟨p, q⟩ := o1
    have H1 : Hid (originC l m b = (p, q)) := h1
    clear h1
    cases q
    · go_wp2_with fail
      refine (originC_any bc ro rb rc l ao ab ac m _ _ hc1 hl hm).mono ?_
      rintro e w2 ⟨rfl, hB2⟩
      have HE : Hid (pairsC l m a b = false) := by show _ = _; rw [pairs_of H1.out rfl]; simp [HN.out]
      go_wp2
      go_ret
      exact ⟨ret_bool HE.out.symm, hB1.trans (hB2.mono hB1.size)⟩
    · by_cases hpa : p = a
      · have n1 := tl_eq hpa
        have HE : Hid (pairsC l m a b = true) := by show _ = _; rw [pairs_of H1.out rfl]; simp [hpa]
        clear hpa
        go_wp2
        go_ret
        exact ⟨ret_bool HE.out.symm, hB1⟩
      · have n1 := tl_ne hpa
        have HP : Hid (¬ p = a) := hpa
        clear hpa
        go_wp2_with fail
        refine (originC_any bc ro rb rc l ao ab ac m _ _ hc1 hl hm).mono ?_
        rintro e w2 ⟨rfl, hB2⟩
        generalize h2 : originC l m a = o2
        obtain ⟨p2, q2⟩ := o2
        have HE : Hid (pairsC l m a b = (q2 && decide (p2 = p))) := by show _ = _; rw [pairs_of H1.out h2]; simp [HN.out, HP.out]
        clear h2
        cases q2
        · go_wp2
          go_ret
          exact ⟨ret_bool HE.out.symm, hB1.trans (hB2.mono hB1.size)⟩
        · go_wp2
          go_ret
          exact ⟨ret_bool (by rw [HE.out, tl_beq]; rfl), hB1.trans (hB2.mono hB1.size)⟩
end Go.Proofs.Qxb6628786a
