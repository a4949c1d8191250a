/-
  The bounds on the arguments' lengths: some bool; nothing turns. And ZZfaultLineKey at a *KeyError.
-/
import Derived.Test.Qxb6628923aFmtOne
namespace Go.Proofs.Qxb6628923aFmt
open Go.RowKit

def IsBool (e : Ending) : Prop := ∃ b, e = .returned (.bool b)
theorem isBool (b : Bool) : IsBool (.returned (.bool b)) := ⟨b, rfl⟩

set_option maxRecDepth 100000 in
set_option maxHeartbeats 1600000 in
theorem bytes5_any (kd ln : Int) (nl : Bool) (v p wh pl : ByteArray) (a : Option Addr) (bk o c : Nat) (l : List ByteArray) (w : World) (hl : SSl w a bk o l) :
    Calls Tryf.prog 5 #[.int .u8 kd, .bool nl, .int .i64 ln, .string v, .string p, .slice a l.length c, .string wh, .string pl] w fun e w' => IsBool e ∧ w' = w := by
  go_enter Tryf.func5, Tryf.ntmps5
  by_cases h1 : v.size ≤ 1048576
  rotate_left
  · go_wp2
    go_ret
    exact ⟨isBool _, rfl⟩
  by_cases h2 : p.size ≤ 1048576
  rotate_left
  · go_wp2
    all_goals (go_ret; exact ⟨isBool _, rfl⟩)
  by_cases h3 : l.length ≤ 1048576
  rotate_left
  · go_wp2
    all_goals (go_ret; exact ⟨isBool _, rfl⟩)
  by_cases h4 : v.size + p.size + l.length ≤ 1048576
  rotate_left
  · go_wp2
    all_goals (go_ret; exact ⟨isBool _, rfl⟩)
  go_wp2
  go_loop [17, 18] (fun z i => ∃ k t : Nat, k ≤ l.length ∧ i = .int .i64 k ∧ t ≤ 1048576 ∧ z = .int .i64 t) (fun _ i => l.length - (intOf i).toNat)
  case atStart => exact ⟨0, v.size + p.size + l.length, Nat.zero_le _, rfl, h4, by go_num⟩
  case round =>
    obtain ⟨k, t, hk, rfl, ht, rfl⟩ := hrel
    by_cases hlt : k < l.length
    · obtain ⟨rfl, hbk⟩ := hl.1 (by intro e; subst e; simp at hlt)
      have c0 := hl.2 k hlt
      go_wp2
      all_goals first
        | (go_ret; exact ⟨isBool _, rfl⟩)
        | (go_round
           case rel => exact ⟨k + 1, t + l[k].size, by omega, by go_num, by omega, by go_num⟩
           case measure => simp [intOf]; omega)
    · go_wp2
      all_goals (go_ret; exact ⟨isBool _, rfl⟩)

set_option maxRecDepth 100000 in
set_option maxHeartbeats 1600000 in
theorem bytes8_any (kd ln : Int) (nl : Bool) (v p wh pl : ByteArray) (a a' : Option Addr) (bk o c bk' o' c' : Nat) (l m : List ByteArray) (w : World) (hl : SSl w a bk o l) (hm : SSl w a' bk' o' m) :
    Calls Tryf.prog 8 #[.int .u8 kd, .bool nl, .int .i64 ln, .string v, .string p, .slice a l.length c, .slice a' m.length c', .string wh, .string pl] w fun e w' => IsBool e ∧ w' = w := by
  go_enter Tryf.func8, Tryf.ntmps8
  by_cases h1 : v.size ≤ 1048576
  rotate_left
  · go_wp2
    go_ret
    exact ⟨isBool _, rfl⟩
  by_cases h2 : p.size ≤ 1048576
  rotate_left
  · go_wp2
    all_goals (go_ret; exact ⟨isBool _, rfl⟩)
  by_cases h3 : l.length ≤ 1048576
  rotate_left
  · go_wp2
    all_goals (go_ret; exact ⟨isBool _, rfl⟩)
  by_cases h4 : v.size + p.size + l.length ≤ 1048576
  rotate_left
  · go_wp2
    all_goals (go_ret; exact ⟨isBool _, rfl⟩)
  go_wp2
  go_loop [19, 20] (fun z i => ∃ k t : Nat, k ≤ l.length ∧ i = .int .i64 k ∧ t ≤ 1048576 ∧ z = .int .i64 t) (fun _ i => l.length - (intOf i).toNat)
  case atStart => exact ⟨0, v.size + p.size + l.length, Nat.zero_le _, rfl, h4, by go_num⟩
  case round =>
    obtain ⟨k, t, hk, rfl, ht, rfl⟩ := hrel
    by_cases hlt : k < l.length
    · obtain ⟨rfl, hbk⟩ := hl.1 (by intro e; subst e; simp at hlt)
      have c0 := hl.2 k hlt
      go_wp2
      all_goals first
        | (go_ret; exact ⟨isBool _, rfl⟩)
        | (go_round
           case rel => exact ⟨k + 1, t + l[k].size, by omega, by go_num, by omega, by go_num⟩
           case measure => simp [intOf]; omega)
    · clear h1 h2 h3 h4 hk
      by_cases h5 : m.length ≤ 1048576
      rotate_left
      · go_wp2
        all_goals (go_ret; exact ⟨isBool _, rfl⟩)
      by_cases h6 : t + m.length ≤ 1048576
      rotate_left
      · go_wp2
        all_goals (go_ret; exact ⟨isBool _, rfl⟩)
      go_wp2
      go_loop [19, 21] (fun z i => ∃ k t : Nat, k ≤ m.length ∧ i = .int .i64 k ∧ t ≤ 1048576 ∧ z = .int .i64 t) (fun _ i => m.length - (intOf i).toNat)
      case atStart => exact ⟨0, t + m.length, Nat.zero_le _, rfl, h6, by go_num⟩
      case round =>
        obtain ⟨k, t, hk, rfl, ht, rfl⟩ := hrel
        by_cases hlt : k < m.length
        · obtain ⟨rfl, hbk⟩ := hm.1 (by intro e; subst e; simp at hlt)
          have c0 := hm.2 k hlt
          go_wp2
          all_goals first
            | (go_ret; exact ⟨isBool _, rfl⟩)
            | (go_round
               case rel => exact ⟨k + 1, t + m[k].size, by omega, by go_num, by omega, by go_num⟩
               case measure => simp [intOf]; omega)
        · go_wp2
          all_goals (go_ret; exact ⟨isBool _, rfl⟩)

theorem assert40 (x : Value) (w : World) : (Instr.typeAssert (.iface 40 x) 30 40 true).run Tryf.prog w = .ok (.tuple #[x, .bool true]) w := by kernel_rfl
attribute [local go_sem] assert40

set_option maxRecDepth 100000 in
set_option maxHeartbeats 400000 in
theorem key_any (line : Int) (path : ByteArray) (b : Nat) (w : World) (h0 : w.cell? ⟨b, 0, none⟩ = some (.int .i64 line)) (h1 : w.cell? ⟨b, 1, none⟩ = some (.string path)) :
    Calls Tryf.prog 7 #[.iface 40 (.pointer (some ⟨b, 0, none⟩))] w fun e w' => e = .returned (.tuple #[.int .i64 line, .string path, .bool true]) ∧ Below w.heap.size w w' := by
  go_enter Tryf.func7, Tryf.ntmps7
  go_wp2
  go_quiet (fail)
  go_wp2
  go_ret3
  exact ⟨rfl, ⟨rfl, rfl, rfl, Nat.le_refl _, fun _ _ => rfl⟩⟩

end Go.Proofs.Qxb6628923aFmt
