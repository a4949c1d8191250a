/-
  The plain side of the calendar: a rule, an announced event, as the walks see them; what Origin and Pairs answer; where a slice of them lies in memory.
-/
import Derived.WalkKit
import Derived.WalkSpells
namespace Go.Proofs.Qxb6628786a
open Go.RowKit

/-- One rule: name, from, the months' slice (address, length, capacity), four integers. -/
structure Ru where
  name : ByteArray
  frm : ByteArray
  mo : Option Addr
  ml : Nat
  mc : Nat
  x3 : Int
  x4 : Int
  x5 : Int
  x6 : Int

/-- One announced event. -/
structure An where
  name : ByteArray
  ear : ByteArray
  lat : ByteArray

def Ru.cells (r : Ru) : List Value := [.string r.name, .string r.frm, .slice r.mo r.ml r.mc, .int .i64 r.x3, .int .i64 r.x4, .int .i64 r.x5, .int .i64 r.x6]
def An.cells (a : An) : List Value := [.string a.name, .string a.ear, .string a.lat]

/-- The seven cells of a rule at an offset of a block. -/
structure RuAt (w : World) (b o : Nat) (r : Ru) : Prop where
  c0 : w.cell? ⟨b, o, none⟩ = some (.string r.name)
  c1 : w.cell? ⟨b, o + 1, none⟩ = some (.string r.frm)
  c2 : w.cell? ⟨b, o + 2, none⟩ = some (.slice r.mo r.ml r.mc)
  c3 : w.cell? ⟨b, o + 3, none⟩ = some (.int .i64 r.x3)
  c4 : w.cell? ⟨b, o + 4, none⟩ = some (.int .i64 r.x4)
  c5 : w.cell? ⟨b, o + 5, none⟩ = some (.int .i64 r.x5)
  c6 : w.cell? ⟨b, o + 6, none⟩ = some (.int .i64 r.x6)

structure AnAt (w : World) (b o : Nat) (a : An) : Prop where
  c0 : w.cell? ⟨b, o, none⟩ = some (.string a.name)
  c1 : w.cell? ⟨b, o + 1, none⟩ = some (.string a.ear)
  c2 : w.cell? ⟨b, o + 2, none⟩ = some (.string a.lat)

/-- A slice of rules at block b, offset o (nothing is said where it is empty). -/
def RSl (w : World) (ao : Option Addr) (b o : Nat) (l : List Ru) : Prop :=
  (l ≠ [] → ao = some ⟨b, o, none⟩) ∧ ∀ i (h : i < l.length), RuAt w b (o + i * 7) l[i]

def ASl (w : World) (ao : Option Addr) (b o : Nat) (l : List An) : Prop :=
  (l ≠ [] → ao = some ⟨b, o, none⟩) ∧ ∀ i (h : i < l.length), AnAt w b (o + i * 3) l[i]

theorem lt_of_cell {w : World} {b o : Nat} {v : Value} (h : w.cell? ⟨b, o, none⟩ = some v) : b < w.heap.size := World.block_lt_of_cell? w _ h

theorem RuAt.below {w w' : World} {b o : Nat} {r : Ru} (h : RuAt w b o r) (hb : Below w.heap.size w w') : RuAt w' b o r := by
  have hlt := lt_of_cell h.c0
  exact ⟨(hb.cell hlt).trans h.c0, (hb.cell hlt).trans h.c1, (hb.cell hlt).trans h.c2, (hb.cell hlt).trans h.c3, (hb.cell hlt).trans h.c4, (hb.cell hlt).trans h.c5, (hb.cell hlt).trans h.c6⟩

theorem AnAt.below {w w' : World} {b o : Nat} {r : An} (h : AnAt w b o r) (hb : Below w.heap.size w w') : AnAt w' b o r := by
  have hlt := lt_of_cell h.c0
  exact ⟨(hb.cell hlt).trans h.c0, (hb.cell hlt).trans h.c1, (hb.cell hlt).trans h.c2⟩

theorem RSl.below {w w' : World} {ao : Option Addr} {b o : Nat} {l : List Ru} (h : RSl w ao b o l) (hb : Below w.heap.size w w') : RSl w' ao b o l :=
  ⟨h.1, fun i hi => (h.2 i hi).below hb⟩

theorem ASl.below {w w' : World} {ao : Option Addr} {b o : Nat} {l : List An} (h : ASl w ao b o l) (hb : Below w.heap.size w w') : ASl w' ao b o l :=
  ⟨h.1, fun i hi => (h.2 i hi).below hb⟩

theorem ret_bool {a b : Bool} (h : a = b) : Ending.returned (.bool a) = .returned (.bool b) := by rw [h]

/-! ### Strings as the walk compares them -/
theorem tl_beq (a b : ByteArray) : (a.toList == b.toList) = decide (a = b) := by
  rw [ByteArray.toList_eq, ByteArray.toList_eq, Bool.eq_iff_iff]
  simp only [beq_iff_eq, decide_eq_true_eq]
  exact ⟨fun h => ByteArray.ext (Array.toList_inj.mp h), fun h => by rw [h]⟩
theorem tl_ne {a b : ByteArray} (h : ¬ a = b) : (a.toList == b.toList) = false := by rw [tl_beq]; exact decide_eq_false h
theorem tl_eq {a b : ByteArray} (h : a = b) : (a.toList == b.toList) = true := by rw [tl_beq]; exact decide_eq_true h

/-! ### What the Go text computes, as plain functions -/

def beq (a b : ByteArray) : Bool := decide (a = b)

def freshR (s : ByteArray) (r : Ru) : Bool := !(decide (r.name = s) || decide (r.frm = s))
def freshA (s : ByteArray) (a : An) : Bool := !(decide (a.name = s) || decide (a.ear = s) || decide (a.lat = s))
def fresh (s : ByteArray) (l : List Ru) (m : List An) : Bool := l.all (freshR s) && m.all (freshA s)

/-- The name that Origin looks up. -/
def resolveN (m : List An) (s : ByteArray) : ByteArray := m.foldl (fun t a => if a.name = t then a.lat else t) s

def rulesOf (l : List Ru) (s : ByteArray) : List Ru := l.filter fun r => decide (r.name = s)

def originOf : List Ru → ByteArray × Bool
  | [r] => if r.ml ≤ 1 then (r.frm, true) else (ByteArray.empty, false)
  | _ => (ByteArray.empty, false)

def originC (l : List Ru) (m : List An) (s : ByteArray) : ByteArray × Bool := originOf (rulesOf l (resolveN m s))

def pairsC (l : List Ru) (m : List An) (a b : ByteArray) : Bool :=
  decide (a = b) || ((originC l m b).2 && decide ((originC l m b).1 = a)) || ((originC l m b).2 && (originC l m a).2 && decide ((originC l m a).1 = (originC l m b).1))

end Go.Proofs.Qxb6628786a
