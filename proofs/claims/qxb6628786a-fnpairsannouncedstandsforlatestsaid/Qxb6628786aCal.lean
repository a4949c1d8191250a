import Derived.Test.Qxb6628786aAnns
import Derived.Test.Qxb6628786aPairs
namespace Go.Proofs.Qxb6628786a
open Go.RowKit

theorem below_drewN (B : Nat) (w : World) (q : Nat) : Below B w (w.drewN q) := ⟨rfl, rfl, rfl, Nat.le_refl _, fun _ _ => rfl⟩

theorem pairs_at (bc : Nat) (ro : Option Addr) (rb rc : Nat) (l : List Ru) (ao : Option Addr) (ab ac : Nat) (m : List An) (a b : ByteArray) (w : World) (hc : CalIs w bc ro rb rc l ao ab ac m) (hl : l.length ≤ 1048577) (hm : m.length ≤ 1048577) (v : Bool) (hv : pairsC l m a b = v) :
    Calls Try.prog 11 #[.pointer (some ⟨bc, 0, none⟩), .string a, .string b] w fun e w' => e = .returned (.bool v) ∧ Below w.heap.size w w' := by
  rw [← hv]; exact pairs_any bc ro rb rc l ao ab ac m a b w hc hl hm

theorem rsl_own {w : World} {base g n cap : Nat} {l : List Ru} (h : w.ownsRow base 42 7 (.slice (some ⟨g, 0, none⟩) n cap) n (l.flatMap Ru.cells)) : RSl w (some ⟨g, 0, none⟩) g 0 l :=
  ⟨fun _ => rfl, fun i hi => ruAt_of_cells (owned_cells h) i hi⟩

theorem rules0 (ro : Option Addr) (rb roff rc : Nat) (l : List Ru) (w : World) (hr : RSl w ro rb roff l) (hl : l.length ≤ 1048576) :
    Calls Try.prog 8 #[.slice ro l.length rc, .int .i64 0] w fun e w' => e = .returned (.slice (some ⟨w.heap.size, 0, none⟩) l.length l.length) ∧ RSl w' (some ⟨w.heap.size, 0, none⟩) w.heap.size 0 l ∧ Below w.heap.size w w' :=
  (rules_any ro rb roff rc 0 l w hr hl (by omega)).mono fun _ _ ⟨h1, h2, h3⟩ => ⟨h1, rsl_own h2, h3⟩

theorem rules1 (ro : Option Addr) (rb roff rc : Nat) (l : List Ru) (w : World) (hr : RSl w ro rb roff l) (hl : l.length ≤ 1048576) :
    Calls Try.prog 8 #[.slice ro l.length rc, .int .i64 1] w fun e w' => e = .returned (.slice (some ⟨w.heap.size, 0, none⟩) l.length (l.length + 1)) ∧
      w'.ownsRow w.heap.size 42 7 (.slice (some ⟨w.heap.size, 0, none⟩) l.length (l.length + 1)) l.length (l.flatMap Ru.cells) ∧ Below w.heap.size w w' :=
  (rules_any ro rb roff rc 1 l w hr hl (by omega))

theorem anns0 (ao : Option Addr) (ab aoff ac : Nat) (m : List An) (w : World) (ha : ASl w ao ab aoff m) (hm : m.length ≤ 1048576) :
    Calls Try.prog 9 #[.slice none 0 0, .slice ao m.length ac] w fun e w' => e = .returned (.slice (some ⟨w.heap.size, 0, none⟩) m.length m.length) ∧ ASl w' (some ⟨w.heap.size, 0, none⟩) w.heap.size 0 m ∧ Below w.heap.size w w' :=
  (anns_any none ao 0 0 0 ab aoff ac [] m w ⟨by simp, fun i hi => by simp at hi⟩ ha (by simp) hm).mono fun _ _ ⟨h1, h2, h3⟩ => by
    simp only [List.length_nil, Nat.zero_add, List.flatMap_nil, List.nil_append] at h1 h2
    exact ⟨h1, asl_of_owned h2, h3⟩

/-- One announced event ahead of the others. -/
theorem anns1 (g : Nat) (n : An) (ao : Option Addr) (ab aoff ac : Nat) (m : List An) (w : World) (hg : AnAt w g 0 n) (ha : ASl w ao ab aoff m) (hm : m.length ≤ 1048576) :
    Calls Try.prog 9 #[.slice (some ⟨g, 0, none⟩) 1 1, .slice ao m.length ac] w fun e w' => e = .returned (.slice (some ⟨w.heap.size, 0, none⟩) (1 + m.length) (1 + m.length)) ∧ ASl w' (some ⟨w.heap.size, 0, none⟩) w.heap.size 0 (n :: m) ∧ Below w.heap.size w w' :=
  (anns_any (some ⟨g, 0, none⟩) ao g 0 1 ab aoff ac [n] m w ⟨fun _ => rfl, fun i hi => by
    obtain rfl : i = 0 := by simpa using hi
    simpa using hg⟩ ha (by simp) hm).mono fun _ _ ⟨h1, h2, h3⟩ => ⟨h1, asl_of_owned h2, h3⟩

/-- The calendar that a composite literal lays. -/
theorem cal_made {w : World} {ro : Option Addr} {rb rc : Nat} {l : List Ru} {ao : Option Addr} {ab ac : Nat} {m : List An} (hr : RSl w ro rb 0 l) (ha : ASl w ao ab 0 m) :
    CalIs (w.alloc (.cells #[.int .u64 0, .int .i64 0, .pointer none, .slice ro l.length rc, .slice ao m.length ac] 38)) w.heap.size ro rb rc l ao ab ac m :=
  have hb : Below w.heap.size w (w.alloc (.cells #[.int .u64 0, .int .i64 0, .pointer none, .slice ro l.length rc, .slice ao m.length ac] 38)) := (Below.refl _ _).alloc (Nat.le_refl _) _
  ⟨by simp, by simp, hr.below hb, ha.below hb⟩

/-- The same, named: the world behind the literal. -/
theorem cal_laid {w : World} {ro : Option Addr} {rb rc rn : Nat} {l : List Ru} {ao : Option Addr} {ab ac an : Nat} {m : List An} (hr : RSl w ro rb 0 l) (ha : ASl w ao ab 0 m) (hn : rn = l.length) (hm : an = m.length) :
    ∃ w', w.alloc (.cells #[.int .u64 0, .int .i64 0, .pointer none, .slice ro rn rc, .slice ao an ac] 38) = w' ∧ CalIs w' w.heap.size ro rb rc l ao ab ac m ∧ Below w.heap.size w w' := by
  subst hn hm
  exact ⟨_, rfl, cal_made hr ha, (Below.refl _ _).alloc (Nat.le_refl _) _⟩

/-- One rule more at the end of an owned row. -/
theorem rsl_more {w : World} {base g n cap : Nat} {l : List Ru} {r : Ru} (h : w.ownsRow base 42 7 (.slice (some ⟨g, 0, none⟩) n cap) n (l.flatMap Ru.cells ++ r.cells)) : RSl w (some ⟨g, 0, none⟩) g 0 (l ++ [r]) :=
  rsl_own (base := base) (n := n) (cap := cap) (by rw [List.flatMap_append]; simpa using h)

end Go.Proofs.Qxb6628786a
