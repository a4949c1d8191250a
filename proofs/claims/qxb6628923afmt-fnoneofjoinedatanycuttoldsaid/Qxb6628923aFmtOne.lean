/-
  Scalar and OneOf, each by its ways: a hit; no name fits; no single value.
-/
import Derived.Test.Qxb6628923aFmtFault
import Derived.Test.Qxb6628923aFmtShelf
namespace Go.Proofs.Qxb6628923aFmt
open Go.RowKit Go.Extern.Stop Go.Stop Go.Extern

theorem tl_beq (a b : ByteArray) : (a.toList == b.toList) = decide (a = b) := by
  rw [ByteArray.toList_eq, ByteArray.toList_eq, Bool.eq_iff_iff]
  simp only [beq_iff_eq, decide_eq_true_eq]
  exact ⟨fun h => ByteArray.ext (Array.toList_inj.mp h), fun h => by rw [h]⟩
theorem tl_ne {a b : ByteArray} (h : ¬ a = b) : (a.toList == b.toList) = false := by rw [tl_beq]; exact decide_eq_false h
theorem tl_eq {a b : ByteArray} (h : a = b) : (a.toList == b.toList) = true := by rw [tl_beq]; exact decide_eq_true h

/-- Where a node lies. -/
structure NodeAt (w : World) (nb : Nat) (kind line : Int) (value : ByteArray) : Prop where
  c0 : w.cell? ⟨nb, 0, none⟩ = some (.int .u8 kind)
  c2 : w.cell? ⟨nb, 2, none⟩ = some (.int .i64 line)
  c3 : w.cell? ⟨nb, 3, none⟩ = some (.string value)
  lt : nb < w.heap.size
theorem NodeAt.below {w w' : World} {nb : Nat} {kind line : Int} {value : ByteArray} {B : Nat} (h : NodeAt w nb kind line value) (hB : Below B w w') (hl : nb < B) : NodeAt w' nb kind line value :=
  ⟨(hB.cell hl).trans h.c0, (hB.cell hl).trans h.c2, (hB.cell hl).trans h.c3, Nat.lt_of_lt_of_le h.lt hB.size⟩

/-- Where a slice of strings lies. -/
def SSl (w : World) (a : Option Addr) (bk o : Nat) (l : List ByteArray) : Prop :=
  (l ≠ [] → a = some ⟨bk, o, none⟩ ∧ bk < w.heap.size) ∧ ∀ j (hj : j < l.length), w.cell? ⟨bk, o + j, none⟩ = some (.string l[j])
theorem SSl.below {w w' : World} {a : Option Addr} {bk o : Nat} {l : List ByteArray} {B : Nat} (h : SSl w a bk o l) (hB : Below B w w') (hl : w.heap.size ≤ B) : SSl w' a bk o l := by
  refine ⟨fun e => ⟨(h.1 e).1, Nat.lt_of_lt_of_le (h.1 e).2 hB.size⟩, fun j hj => ?_⟩
  have e : l ≠ [] := by intro e; subst e; simp at hj
  exact (hB.cell (p := ⟨bk, o + j, none⟩) (Nat.lt_of_lt_of_le (h.1 e).2 hl)).trans (h.2 j hj)

set_option maxHeartbeats 400000 in
theorem scalar_ok (nb : Nat) (line : Int) (value path : ByteArray) (w : World) (hn : NodeAt w nb 1 line value) :
    Calls Tryf.prog 9 #[.pointer (some ⟨nb, 0, none⟩), .string path] w fun e w' => e = .returned (.tuple #[.string value, .nilIface]) ∧ w' = w := by
  obtain ⟨c0, c2, c3, lt⟩ := hn
  go_enter Tryf.func9, Tryf.ntmps9
  go_wp2
  go_ret2
  exact ⟨rfl, rfl⟩

def ScalarE (line : Int) (path : ByteArray) (w w' : World) (e : Ending) : Prop := ∃ v, e = .returned (.tuple #[.string ⟨#[]⟩, v]) ∧ FaultAt line path w w' v

set_option maxHeartbeats 400000 in
theorem scalar_bad (F : Interp) (nb : Nat) (kind line : Int) (value path : ByteArray) (w : World) (hF : F.answers w.tape) (hn : NodeAt w nb kind line value) (hk : kind ≠ 1) :
    Calls Tryf.prog 9 #[.pointer (some ⟨nb, 0, none⟩), .string path] w fun e w' => ScalarE line path w w' e := by
  have hc := faultA F nb line path w hF hn.c2
  unfold fmtA at hc
  have k1 : (kind == 1) = false := by rw [beq_eq_false_iff_ne]; exact hk
  obtain ⟨c0, c2, c3, lt⟩ := hn
  go_enter Tryf.func9, Tryf.ntmps9
  go_wp2_with fail
  refine hc.mono ?_
  rintro e w1 ⟨v, rfl, hv⟩
  go_wp2
  go_ret2
  exact ⟨v, rfl, hv⟩

theorem FaultAt.base {line : Int} {path : ByteArray} {w w1 w' : World} {v : Value} (h : FaultAt line path w1 w' v) (hB : Below w.heap.size w w1) : FaultAt line path w w' v := by
  obtain ⟨b, rfl, h1, h2, h3, h4, h5⟩ := h
  exact ⟨b, rfl, Nat.le_trans hB.size h1, h2, h3, h4, hB.trans (h5.mono hB.size)⟩

set_option maxRecDepth 100000 in
set_option maxHeartbeats 800000 in
theorem oneOf_hit (nb : Nat) (line : Int) (value path what plural : ByteArray) (a : Option Addr) (bk o c : Nat) (l : List ByteArray) (w : World) (hn : NodeAt w nb 1 line value) (hl : SSl w a bk o l) (hs : l.length ≤ 1048576)
    (i : Nat) (hi : i < l.length) (hv : l[i] = value) (hb : ∀ j (hj : j < l.length), j < i → l[j] ≠ value) :
    Calls Tryf.prog 6 #[.pointer (some ⟨nb, 0, none⟩), .string path, .slice a l.length c, .string what, .string plural] w fun e w' => e = .returned (.tuple #[.int .i64 i, .nilIface]) ∧ w' = w := by
  have hcc := scalar_ok nb line value path w hn
  obtain ⟨rfl, hbk⟩ := hl.1 (by intro e; subst e; simp at hi)
  go_enter Tryf.func6, Tryf.ntmps6
  go_wp2_with fail
  refine hcc.mono ?_
  rintro e w1 ⟨rfl, hw1⟩
  have hw1 := hw1.symm
  subst hw1
  go_wp2
  go_loop [27] (fun ii => ∃ k : Nat, k ≤ i ∧ ii = .int .i64 k) (fun ii => l.length - (intOf ii).toNat)
  case atStart => exact ⟨0, Nat.zero_le _, rfl⟩
  case round =>
    obtain ⟨k, hk, rfl⟩ := hrel
    have hlt : k < l.length := by omega
    have c := hl.2 k hlt
    by_cases he : k = i
    · subst he
      have t := tl_eq hv
      clear hb hv
      go_wp2
      go_ret2
      exact ⟨rfl, rfl⟩
    · have t := tl_ne (hb k hlt (by omega))
      clear hb hv
      go_wp2
      go_round
      case rel => exact ⟨k + 1, by omega, by go_num⟩
      case measure => simp [intOf]; omega

def OneE (line : Int) (path : ByteArray) (w w' : World) (e : Ending) : Prop := ∃ v, e = .returned (.tuple #[.int .i64 0, v]) ∧ FaultAt line path w w' v
theorem faultAt_held {line : Int} {path : ByteArray} {w w' : World} {v : Value} (h : FaultAt line path w w' v) : ∃ b, v = .iface 40 (.pointer (some ⟨b, 0, none⟩)) := ⟨_, h.choose_spec.1⟩

set_option maxRecDepth 100000 in
set_option maxHeartbeats 800000 in
theorem oneOf_kind (F : Interp) (nb : Nat) (kind line : Int) (value path what plural : ByteArray) (a : Option Addr) (n c : Nat) (w : World) (hF : F.answers w.tape) (hn : NodeAt w nb kind line value) (hk : kind ≠ 1) :
    Calls Tryf.prog 6 #[.pointer (some ⟨nb, 0, none⟩), .string path, .slice a n c, .string what, .string plural] w fun e w' => OneE line path w w' e := by
  have hcc := scalar_bad F nb kind line value path w hF hn hk
  go_enter Tryf.func6, Tryf.ntmps6
  go_wp2_with fail
  refine hcc.mono ?_
  rintro e w1 ⟨v, rfl, hv⟩
  obtain ⟨b, rfl⟩ := faultAt_held hv
  have HV : Hid (FaultAt line path w w1 (.iface 40 (.pointer (some ⟨b, 0, none⟩)))) := hv
  clear hv hcc
  go_wp2
  go_ret2
  exact ⟨_, rfl, HV.out⟩

set_option maxRecDepth 100000 in
set_option maxHeartbeats 1600000 in
theorem oneOf_miss (F : Interp) (nb : Nat) (line : Int) (value path what plural : ByteArray) (a : Option Addr) (bk o c : Nat) (l : List ByteArray) (w : World) (hF : F.answers w.tape) (hn : NodeAt w nb 1 line value) (hl : SSl w a bk o l) (hs : l.length ≤ 1048576) (hcap : l.length ≤ c)
    (hlen : (Lib.join (l.map (·.data.toList)) [44, 32]).length ≤ 140737488355328) (hb : ∀ j (hj : j < l.length), l[j] ≠ value) :
    Calls Tryf.prog 6 #[.pointer (some ⟨nb, 0, none⟩), .string path, .slice a l.length c, .string what, .string plural] w fun e w' => OneE line path w w' e := by
  have hcc := scalar_ok nb line value path w hn
  obtain ⟨J, hJ⟩ : ∃ J : ByteArray, ∀ w1, Below w.heap.size w w1 → Calls Tryf.prog 11 #[.slice a l.length c, .string ⟨#[44, 32]⟩] w1 fun e w' => e = .returned (.string J) ∧ Below w1.heap.size w1 w' := by
    by_cases h0 : l = []
    · subst h0
      refine ⟨⟨#[]⟩, fun w1 _ => (Tryf.strings_Join_none a c ⟨#[44, 32]⟩ w1).mono ?_⟩
      rintro e w2 ⟨rfl, rfl⟩
      exact ⟨rfl, Below.refl _ _⟩
    · obtain ⟨rfl, hbk⟩ := hl.1 h0
      refine ⟨_, fun w1 hB => Tryf.strings_Join bk o c l ⟨#[44, 32]⟩ w1 ?_ (Nat.lt_of_lt_of_le hbk hB.size) (by omega) hcap hlen⟩
      intro j x hx
      obtain ⟨hj, rfl⟩ := List.getElem?_eq_some_iff.mp hx
      exact (hB.cell (p := ⟨bk, o + j, none⟩) hbk).trans (hl.2 j hj)
  clear hlen hcap
  go_enter Tryf.func6, Tryf.ntmps6
  go_wp2_with fail
  refine hcc.mono ?_
  rintro e w1 ⟨rfl, hw1⟩
  have hw1 := hw1.symm
  subst hw1
  clear hcc
  go_wp2
  go_loop [27] (fun ii => ∃ k : Nat, k ≤ l.length ∧ ii = .int .i64 k) (fun ii => l.length - (intOf ii).toNat)
  case atStart => exact ⟨0, Nat.zero_le _, rfl⟩
  case round =>
    obtain ⟨k, hk, rfl⟩ := hrel
    by_cases hlt : k < l.length
    · obtain ⟨rfl, hbk⟩ := hl.1 (by intro e; subst e; simp at hlt)
      have c := hl.2 k hlt
      have t := tl_ne (hb k hlt)
      clear hb
      go_wp2
      go_round
      case rel => exact ⟨k + 1, by omega, by go_num⟩
      case measure => simp [intOf]; omega
    · clear hb hl
      go_wp2_with fail
      refine (hJ _ (Below.refl _ _)).mono ?_
      rintro e w1 ⟨rfl, hB1⟩
      have hn1 := hn.below hB1 hn.lt
      have HF : Hid (F.answers w1.tape) := by rw [Hid, hB1.tape]; exact hF
      have HB : Hid (Below w.heap.size w w1) := hB1
      clear hB1 hJ hF hn
      go_wp2_with fail
      obtain ⟨w2, hw2⟩ : ∃ w2, w2 = w1.alloc (.cells #[.iface 9 (.string value), .iface 9 (.string what), .iface 9 (.string plural), .iface 9 (.string J)] 20) := ⟨_, rfl⟩
      have hB2 : Below w1.heap.size w1 w2 := by rw [hw2]; exact (Below.refl _ _).alloc (Nat.le_refl _) _
      have k0 : w2.cell? ⟨w1.heap.size, 0, none⟩ = some (.iface 9 (.string value)) := by rw [hw2]; go_simp
      have k1 : w2.cell? ⟨w1.heap.size, 1, none⟩ = some (.iface 9 (.string what)) := by rw [hw2]; go_simp
      have k2 : w2.cell? ⟨w1.heap.size, 2, none⟩ = some (.iface 9 (.string plural)) := by rw [hw2]; go_simp
      have k3 : w2.cell? ⟨w1.heap.size, 3, none⟩ = some (.iface 9 (.string J)) := by rw [hw2]; go_simp
      have hc := faultB F nb w1.heap.size line path value what plural J w2 (by rw [hB2.tape]; exact HF.out) (hn1.below hB2 hn1.lt).c2 k0 k1 k2 k3
      unfold fmtB at hc
      rw [← hw2]
      refine hc.mono ?_
      rintro e w3 ⟨v, rfl, hv⟩
      obtain ⟨b, rfl⟩ := faultAt_held hv
      have HV : Hid (FaultAt line path w w3 (.iface 40 (.pointer (some ⟨b, 0, none⟩)))) := hv.base (HB.out.trans (hB2.mono HB.out.size))
      clear hv hc k0 k1 k2 k3 hB2 hw2 HF HB hn1
      go_wp2
      go_ret2
      exact ⟨_, rfl, HV.out⟩

end Go.Proofs.Qxb6628923aFmt
