/-
  A map of the call's own as a function from keys to element values (whatever the elements lead to).
-/
import Derived.Test.Qxb6628846aRows
import Derived.WalkKit
import Derived.WalkSpells
import Derived.Maps.Own
import Derived.Maps.Views
namespace Go.Proofs.Qxb6628846a
open Go.RowKit
open Go.Maps (Keyed IsMap)

/-- An element is read as itself. -/
def RV (v : Value) : Option (DataW Value × List MemPlace) := some (.held v, [])

/-- Block b is a map of at most n entries; at key κ a it holds f a (z where there is no entry). -/
def MapF {α : Type} (κ : α → Lit) (w : World) (k : TypeId) (b n : Nat) (z : Value) (f : α → Value) : Prop :=
  ∃ D, w.ownsMap Try.prog k RV b n D ∧ IsMap D ∧ ∀ a, D.atKey (κ a) (.held z) = .held (f a)

section
variable {α : Type} {κ : α → Lit}

theorem MapF.lt {w : World} {k : TypeId} {b n : Nat} {z : Value} {f : α → Value} (h : MapF κ w k b n z f) : b < w.heap.size := by
  obtain ⟨D, h1, _⟩ := h; exact h1.lt

theorem MapF.kept {w w' : World} {k : TypeId} {b n : Nat} {z : Value} {f : α → Value} (h : MapF κ w k b n z f) (hb : w'.heap[b]? = w.heap[b]?) : MapF κ w' k b n z f := by
  obtain ⟨D, ⟨es, clock, h1, h2⟩, h3⟩ := h
  exact ⟨D, ⟨es, clock, by rw [hb]; exact h1, h2⟩, h3⟩

theorem MapF.isMap {w : World} {k : TypeId} {b n : Nat} {z : Value} {f : α → Value} (h : MapF κ w k b n z f) : ∃ es clock, w.heap[b]? = some (.map es clock) := by
  obtain ⟨D, ⟨es, clock, h1, _⟩, _⟩ := h; exact ⟨es, clock, h1⟩

theorem mapF_made (w : World) (k : TypeId) (z : Value) : MapF κ (w.alloc (.map #[] 0)) k w.heap.size 0 z (fun _ => z) :=
  ⟨_, World.ownsMap_made w Try.prog k RV, Maps.isMap_empty, fun _ => rfl⟩

/-- The look-up. -/
theorem MapF.look {w : World} {k t e : TypeId} {b n : Nat} {z : Value} {f : α → Value} (h : MapF κ w k b n z f) (K : Keyed Try.prog k) (ht : Try.prog.underlying t = some (.map k e)) (hz : (zeroValue e).run Try.prog w = .ok z w)
    {key : Value} {a : α} (hkey : keyOf Try.prog k key = some (κ a)) : (Instr.lookup t (.map (some b)) key false).run Try.prog w = .ok (f a) w := by
  obtain ⟨D, h1, _, h3⟩ := h
  obtain ⟨v, ps, hr, hv⟩ := h1.lookup K ht hz (zd := .held z) (zp := []) rfl hkey
  rw [h3] at hv
  simp only [RV, Option.some.injEq, Prod.mk.injEq, DataW.held.injEq] at hv
  rw [hr, hv.1]

/-- The store. -/
theorem MapF.store [DecidableEq α] (hinj : ∀ x y, κ x = κ y → x = y) {w : World} {k t e : TypeId} {b n : Nat} {z : Value} {f : α → Value} (h : MapF κ w k b n z f) (K : Keyed Try.prog k) (ht : Try.prog.underlying t = some (.map k e)) (hn : n < maxLen)
    {key : Value} {a : α} (hkey : keyOf Try.prog k key = some (κ a)) (hkl : WideAt.IsKeyLit (κ a)) (v : Value) :
    ∃ w', (Instr.mapUpdate t (.map (some b)) key v).run Try.prog w = .ok () w' ∧ MapF κ w' k b (n + 1) z (fun x => if x = a then v else f x) ∧ w.grownBy w' (some b) := by
  obtain ⟨D, h1, h2, h3⟩ := h
  obtain ⟨w', hr, ho, hg⟩ := h1.update K ht hn hkey (val := v) (d := .held v) (ps := []) rfl
  refine ⟨w', hr, ⟨_, ho, h2.put _ _, fun x => ?_⟩, hg⟩
  show _ = DataW.held (if x = a then v else f x)
  by_cases hx : x = a
  · subst hx
    rw [if_pos rfl, Maps.atKey_put_same h2 hkl]
  · rw [if_neg hx, Maps.atKey_put_other (fun e => hx (hinj _ _ e)), h3]
end

theorem key9 : Keyed Try.prog 9 := Maps.string_keyed Try.underlying9
theorem key3 : Keyed Try.prog 3 := Maps.int_keyed Try.underlying3
theorem zero42 (w : World) : (zeroValue 42).run Try.prog w = .ok (.slice none 0 0) w := by kernel_rfl
theorem zero23 (w : World) : (zeroValue 23).run Try.prog w = .ok (.slice none 0 0) w := by kernel_rfl

def kS (s : ByteArray) : Lit := .string s.data.toList
def kI (n : Int) : Lit := .int .i64 n
theorem kS_inj {a b : ByteArray} : kS a = kS b ↔ a = b := by
  unfold kS
  constructor
  · intro h
    simp only [Lit.string.injEq] at h
    exact ByteArray.ext (Array.toList_inj.mp h)
  · intro h; rw [h]
theorem kI_inj {a b : Int} : kI a = kI b ↔ a = b := by simp [kI]
theorem isKey_kS (s : ByteArray) : WideAt.IsKeyLit (kS s) := by simp [kS, WideAt.IsKeyLit]
theorem isKey_kI (n : Int) : WideAt.IsKeyLit (kI n) := by simp [kI, WideAt.IsKeyLit]
end Go.Proofs.Qxb6628846a
