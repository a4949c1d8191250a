/-
  The plain laws: what Origin and Pairs answer when a fresh rule (and a fresh announced event) is added. No Go in sight.
-/
import Derived.Test.Qxb6628786aBase
namespace Go.Proofs.Qxb6628786a

def NoR (s : ByteArray) (l : List Ru) : Prop := ∀ r ∈ l, r.name ≠ s ∧ r.frm ≠ s
def NoA (s : ByteArray) (m : List An) : Prop := ∀ a ∈ m, a.name ≠ s ∧ a.lat ≠ s

theorem noR_of {s : ByteArray} {l : List Ru} {m : List An} (h : fresh s l m = true) : NoR s l := by
  simp only [fresh, Bool.and_eq_true, List.all_eq_true] at h
  intro r hr
  have := h.1 r hr
  simpa [freshR] using this
theorem noA_of {s : ByteArray} {l : List Ru} {m : List An} (h : fresh s l m = true) : NoA s m := by
  simp only [fresh, Bool.and_eq_true, List.all_eq_true] at h
  intro r hr
  have := h.2 r hr
  simp [freshA] at this
  exact ⟨this.1.1, this.2⟩

theorem resolve_cons (a : An) (m : List An) (s : ByteArray) : resolveN (a :: m) s = resolveN m (if a.name = s then a.lat else s) := rfl

theorem resolve_self {s : ByteArray} : ∀ {m : List An}, NoA s m → resolveN m s = s
  | [], _ => rfl
  | a :: m, h => by
    rw [resolve_cons, if_neg (h a (by simp)).1]
    exact resolve_self fun b hb => h b (by simp [hb])

theorem resolve_ne {s : ByteArray} : ∀ {m : List An} {z : ByteArray}, NoA s m → z ≠ s → resolveN m z ≠ s
  | [], _, _, hz => hz
  | a :: m, z, h, hz => by
    rw [resolve_cons]
    refine resolve_ne (fun b hb => h b (by simp [hb])) ?_
    split
    · exact (h a (by simp)).2
    · exact hz

theorem rulesOf_append (l k : List Ru) (s : ByteArray) : rulesOf (l ++ k) s = rulesOf l s ++ rulesOf k s := List.filter_append ..
theorem rulesOf_none {l : List Ru} {s : ByteArray} (h : NoR s l) : rulesOf l s = [] := by
  unfold rulesOf
  rw [List.filter_eq_nil_iff]
  intro r hr
  simpa using (h r hr).1
theorem rulesOf_hit (r : Ru) : rulesOf [r] r.name = [r] := by simp [rulesOf]
theorem rulesOf_miss {r : Ru} {s : ByteArray} (h : r.name ≠ s) : rulesOf [r] s = [] := by simp [rulesOf, h]

/-- The fresh rule's own origin. -/
theorem originOf_one (r : Ru) : originOf [r] = if r.ml ≤ 1 then (r.frm, true) else (ByteArray.empty, false) := rfl

/-- Whatever resolves to the fresh name has the fresh rule's origin. -/
theorem origin_new {l : List Ru} {m : List An} {r : Ru} {z : ByteArray} (h : NoR r.name l) (hz : resolveN m z = r.name) : originC (l ++ [r]) m z = originOf [r] := by
  unfold originC
  rw [hz, rulesOf_append, rulesOf_none h, rulesOf_hit, List.nil_append]

/-- What does not resolve to it is as it was. -/
theorem origin_old {l : List Ru} {m : List An} {r : Ru} {z : ByteArray} (hz : resolveN m z ≠ r.name) : originC (l ++ [r]) m z = originC l m z := by
  unfold originC
  rw [rulesOf_append, rulesOf_miss (fun e => hz e.symm), List.append_nil]

/-- An origin that is given is some rule's From. -/
theorem origin_from {l : List Ru} {m : List An} {z s : ByteArray} (h : NoR s l) (ok : (originC l m z).2 = true) : (originC l m z).1 ≠ s := by
  unfold originC at ok ⊢
  have hs : ∀ r ∈ rulesOf l (resolveN m z), r.frm ≠ s := fun r hr => (h r (List.mem_filter.1 hr).1).2
  revert ok hs
  generalize rulesOf l (resolveN m z) = k
  intro ok hs
  match k with
  | [r] =>
    by_cases h1 : r.ml ≤ 1
    · simp only [originOf, h1, if_true]
      exact hs r (by simp)
    · simp [originOf, h1] at ok
  | [] => simp [originOf] at ok
  | _ :: _ :: _ => simp [originOf] at ok

theorem dec_comm (a b : ByteArray) : decide (a = b) = decide (b = a) := by
  rw [Bool.eq_iff_iff]; simp only [decide_eq_true_eq]; exact eq_comm

section
variable {l : List Ru} {m : List An} {r : Ru} {x y : ByteArray}

/-- FnPairsFreshRuledEvent: Pairs(x, n). -/
theorem law1_xn (hR : NoR r.name l) (hA : NoA r.name m) (hx : x ≠ r.name) :
    pairsC (l ++ [r]) m x r.name = (decide (r.ml ≤ 1) && (decide (x = r.frm) || ((originC l m x).2 && decide ((originC l m x).1 = r.frm)))) := by
  unfold pairsC
  rw [origin_new hR (resolve_self hA), origin_old (resolve_ne hA hx), originOf_one, dec_comm x r.frm]
  by_cases h1 : r.ml ≤ 1 <;> simp [h1, hx]

theorem law1_ny (hR : NoR r.name l) (hA : NoA r.name m) (hy : y ≠ r.name) :
    pairsC (l ++ [r]) m r.name y = (decide (r.ml ≤ 1) && (originC l m y).2 && decide ((originC l m y).1 = r.frm)) := by
  unfold pairsC
  rw [origin_new hR (resolve_self hA), origin_old (resolve_ne hA hy), originOf_one, dec_comm _ r.frm]
  have hf := origin_from (m := m) (z := y) hR
  have hy' := Ne.symm hy
  cases hk : (originC l m y).2
  · simp [hy']
  · have := hf hk
    by_cases h1 : r.ml ≤ 1 <;> simp [h1, this, hy']

theorem law1_xy (hA : NoA r.name m) (hx : x ≠ r.name) (hy : y ≠ r.name) : pairsC (l ++ [r]) m x y = pairsC l m x y := by
  unfold pairsC
  rw [origin_old (resolve_ne hA hx), origin_old (resolve_ne hA hy)]

/-! ### FnPairsAnnouncedStandsForLatest: the announced event n first, its latest the fresh rule's name. -/
variable {n : An}

theorem res_a (hA : NoA r.name m) (hn : n.lat = r.name) : resolveN (n :: m) n.name = r.name := by
  rw [resolve_cons, if_pos rfl, hn, resolve_self hA]
theorem res_l (hA : NoA r.name m) (hne : n.name ≠ r.name) : resolveN (n :: m) r.name = r.name := by
  rw [resolve_cons, if_neg hne, resolve_self hA]
theorem res_x (hx : n.name ≠ x) : resolveN (n :: m) x = resolveN m x := by
  rw [resolve_cons, if_neg hx]

theorem origin_x (hA : NoA r.name m) (hx : x ≠ r.name) (hxn : n.name ≠ x) : originC (l ++ [r]) (n :: m) x = originC l m x := by
  rw [origin_old (by rw [res_x hxn]; exact resolve_ne hA hx)]
  unfold originC
  rw [res_x hxn]

/-- Pairs(x, z), z the announced event or its latest. -/
theorem law2_xz {z : ByteArray} (hR : NoR r.name l) (hA : NoA r.name m) (hx : x ≠ r.name) (hxn : n.name ≠ x) (hz : resolveN (n :: m) z = r.name) (hxz : x ≠ z) :
    pairsC (l ++ [r]) (n :: m) x z = (decide (r.ml ≤ 1) && (decide (x = r.frm) || ((originC l m x).2 && decide ((originC l m x).1 = r.frm)))) := by
  unfold pairsC
  rw [origin_new hR hz, origin_x hA hx hxn, originOf_one, dec_comm x r.frm]
  by_cases h1 : r.ml ≤ 1 <;> simp [h1, hxz]

theorem law2_ax (hR : NoR r.name l) (hA : NoA r.name m) (hRa : NoR n.name l) (hn : n.lat = r.name) (hx : x ≠ r.name) (hxn : n.name ≠ x) :
    pairsC (l ++ [r]) (n :: m) n.name x = (decide (r.ml ≤ 1) && (originC l m x).2 && decide ((originC l m x).1 = r.frm)) := by
  unfold pairsC
  rw [origin_new hR (res_a hA hn), origin_x hA hx hxn, originOf_one, dec_comm _ r.frm]
  have hf := origin_from (m := m) (z := x) hRa
  cases hk : (originC l m x).2
  · simp [hxn]
  · have := hf hk
    by_cases h1 : r.ml ≤ 1 <;> simp [h1, this, hxn]

/-- Both resolve to the fresh rule. -/
theorem law2_zz {z z' : ByteArray} (hR : NoR r.name l) (hz : resolveN (n :: m) z = r.name) (hz' : resolveN (n :: m) z' = r.name) (hne : z ≠ z') :
    pairsC (l ++ [r]) (n :: m) z z' = decide (r.ml ≤ 1) := by
  unfold pairsC
  rw [origin_new hR hz, origin_new hR hz', originOf_one]
  by_cases h1 : r.ml ≤ 1 <;> simp [h1, hne]

end
end Go.Proofs.Qxb6628786a
