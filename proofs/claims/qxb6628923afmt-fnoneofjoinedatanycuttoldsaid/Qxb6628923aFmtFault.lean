import Derived.Test.Qxb6628923aFmtFacts
import Derived.Deep.RegionWith
namespace Go.Proofs.Qxb6628923aFmt
open Go.RowKit Go.Extern.Stop Go.Stop Go.Extern
attribute [local go_sem] call12 guardF printedA printedB act9_113 act9_115 op9_113 op9_115

/-- A new *KeyError at this line and key, in new memory; nothing that was there has turned. -/
def FaultAt (line : Int) (path : ByteArray) (w w' : World) (e : Value) : Prop :=
  ∃ b, e = .iface 40 (.pointer (some ⟨b, 0, none⟩)) ∧ w.heap.size ≤ b ∧ w'.cell? ⟨b, 0, none⟩ = some (.int .i64 line) ∧ w'.cell? ⟨b, 1, none⟩ = some (.string path) ∧ b < w'.heap.size ∧ Below w.heap.size w w'
def FaultE (line : Int) (path : ByteArray) (w w' : World) (e : Ending) : Prop := ∃ v, e = .returned v ∧ FaultAt line path w w' v
theorem size_alloc (w : World) (X : Obj) : (w.alloc X).heap.size = w.heap.size + 1 := by simp
theorem faultE_mk (line : Int) (path : ByteArray) (w : World) (c2 c3 c4 : Value) :
    FaultE line path w (w.alloc (.cells #[.int .i64 line, .string path, c2, c3, c4] 43)).drew.drew (.returned (.iface 40 (.pointer (some ⟨w.heap.size, 0, none⟩)))) :=
  ⟨_, rfl, _, rfl, Nat.le_refl _, by go_simp, by go_simp, by go_simp, (((Below.refl _ w).alloc (Nat.le_refl _) _).drew).drew⟩

set_option maxRecDepth 100000 in
set_option maxHeartbeats 400000 in
theorem faultA (F : Interp) (b : Nat) (line : Int) (path : ByteArray) (w : World) (hF : F.answers w.tape) (h2 : w.cell? ⟨b, 2, none⟩ = some (.int .i64 line)) :
    Calls Tryf.prog 10 #[.pointer (some ⟨b, 0, none⟩), .string path, .string fmtA, .slice none 0 0] w fun e w' => FaultE line path w w' e := by
  have hF' := answers_open hF
  unfold fmtA
  go_enter Tryf.func10, Tryf.ntmps10
  go_wp2
  go_region_with (first | (apply rows_value nextTurns; case hr => (go_simp; exact ⟨rfl, rfl⟩)))
  all_goals (try go_wp2)
  all_goals (go_ret)
  all_goals exact faultE_mk _ _ _ _ _ _

set_option maxRecDepth 100000 in
set_option maxHeartbeats 400000 in
theorem faultB (F : Interp) (b v : Nat) (line : Int) (path x0 x1 x2 x3 : ByteArray) (w : World) (hF : F.answers w.tape) (h2 : w.cell? ⟨b, 2, none⟩ = some (.int .i64 line))
    (k0 : w.cell? ⟨v, 0, none⟩ = some (.iface 9 (.string x0))) (k1 : w.cell? ⟨v, 1, none⟩ = some (.iface 9 (.string x1))) (k2 : w.cell? ⟨v, 2, none⟩ = some (.iface 9 (.string x2))) (k3 : w.cell? ⟨v, 3, none⟩ = some (.iface 9 (.string x3))) :
    Calls Tryf.prog 10 #[.pointer (some ⟨b, 0, none⟩), .string path, .string fmtB, .slice (some ⟨v, 0, none⟩) 4 4] w fun e w' => FaultE line path w w' e := by
  have hF' := answers_open hF
  unfold fmtB
  go_enter Tryf.func10, Tryf.ntmps10
  go_wp2
  go_region_with (first | (apply rows_value nextTurns; case hr => (go_simp; exact ⟨rfl, rfl⟩)))
  all_goals (try go_wp2)
  all_goals (go_ret)
  all_goals exact faultE_mk _ _ _ _ _ _

end Go.Proofs.Qxb6628923aFmt
