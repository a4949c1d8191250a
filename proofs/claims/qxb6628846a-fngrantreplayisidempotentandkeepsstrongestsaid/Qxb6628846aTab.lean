/-
  The lock table: the plain state, and where it lies in memory.
-/
import Derived.Test.Qxb6628846aMaps
import Derived.Deep.AppendLies
namespace Go.Proofs.Qxb6628846a
open Go.RowKit

def upd {α β : Type} [DecidableEq α] (f : α → β) (a : α) (b : β) : α → β := fun x => if x = a then b else f x
theorem upd_same {α β : Type} [DecidableEq α] (f : α → β) (a : α) (b : β) : upd f a b a = b := by simp [upd]
theorem upd_other {α β : Type} [DecidableEq α] (f : α → β) {a x : α} (b : β) (h : x ≠ a) : upd f a b x = f x := by simp [upd, h]

/-- The table: each object's holders (transaction, mode); each transaction's objects. -/
structure St where
  H : ByteArray → List (Int × Int)
  G : Int → List ByteArray

/-- The first holder that is t keeps the stronger mode. -/
def raise : List (Int × Int) → Int → Int → List (Int × Int)
  | [], _, _ => []
  | p :: r, t, m => if p.1 = t then (p.1, max p.2 m) :: r else p :: raise r t m

def holds (l : List (Int × Int)) (t : Int) : Bool := l.any fun p => decide (p.1 = t)

def St.grant (S : St) (t : Int) (o : ByteArray) (m : Int) : St :=
  if holds (S.H o) t then ⟨upd S.H o (raise (S.H o) t m), S.G⟩ else ⟨upd S.H o (S.H o ++ [(t, m)]), upd S.G t (S.G t ++ [o])⟩

def St.empty : St := ⟨fun _ => [], fun _ => []⟩

theorem raise_at : ∀ (l : List (Int × Int)) (t m : Int) (i : Nat) (h : i < l.length), l[i].1 = t → (∀ j (hj : j < l.length), j < i → l[j].1 ≠ t) → raise l t m = l.set i (l[i].1, max l[i].2 m)
  | p :: r, t, m, 0, _, e, _ => by
    have e' : p.1 = t := e
    simp [raise, e']
  | p :: r, t, m, i + 1, h, e, hn => by
    have h0 : p.1 ≠ t := hn 0 (by simp) (by omega)
    have ih := raise_at r t m i (by simpa using h) e (fun j hj hji => hn (j + 1) (by simpa using hj) (by omega))
    simp [raise, h0, ih]

theorem holds_at {l : List (Int × Int)} {t : Int} {i : Nat} (h : i < l.length) (e : l[i].1 = t) : holds l t = true := by
  unfold holds; rw [List.any_eq_true]; exact ⟨l[i], List.getElem_mem h, by simpa using e⟩
theorem holds_none {l : List (Int × Int)} {t : Int} (hn : ∀ j (hj : j < l.length), l[j].1 ≠ t) : holds l t = false := by
  unfold holds; rw [List.any_eq_false]
  intro x hx
  obtain ⟨j, hj, rfl⟩ := List.getElem_of_mem hx
  simpa using hn j hj

def hcells (p : Int × Int) : List Value := [.int .i64 p.1, .int .i64 p.2]

/-- Of what was there, only blocks of F may have turned. -/
structure Turn (F : Nat → Prop) (w w' : World) : Prop where
  os : w'.os = w.os
  tape : w'.tape = w.tape
  output : w'.output = w.output
  size : w.heap.size ≤ w'.heap.size
  block : ∀ k, k < w.heap.size → ¬ F k → w'.heap[k]? = w.heap[k]?

theorem Turn.refl (F : Nat → Prop) (w : World) : Turn F w w := ⟨rfl, rfl, rfl, Nat.le_refl _, fun _ _ _ => rfl⟩
theorem Turn.trans {F F1 : Nat → Prop} {a b c : World} (h : Turn F a b) (k : Turn F1 b c) (hF : ∀ i, i < a.heap.size → F1 i → F i) : Turn F a c :=
  ⟨k.os.trans h.os, k.tape.trans h.tape, k.output.trans h.output, Nat.le_trans h.size k.size, fun i hi hn => (k.block i (Nat.lt_of_lt_of_le hi h.size) (fun f => hn (hF i hi f))).trans (h.block i hi hn)⟩
theorem Turn.below {F : Nat → Prop} {w w' : World} (h : Turn F w w') {B : Nat} (hB : B ≤ w.heap.size) (hF : ∀ k, F k → B ≤ k) : Below B w w' :=
  ⟨h.os, h.tape, h.output, h.size, fun k hk => h.block k (by omega) (fun f => by have := hF k f; omega)⟩
theorem Turn.of_below {F : Nat → Prop} {w w' : World} (h : Below w.heap.size w w') : Turn F w w' := ⟨h.os, h.tape, h.output, h.size, fun k hk _ => h.block k hk⟩
theorem Turn.of_grown {F : Nat → Prop} {w w' : World} {row : Option Nat} (h : w.grownBy w' row) (hr : ∀ k, row = some k → F k) : Turn F w w' :=
  ⟨h.os, h.tape, h.output, h.size, fun k hk hn => h.block k hk (fun e => hn (hr k e.symm))⟩
theorem Turn.drew {F : Nat → Prop} {a w : World} (h : Turn F a w) : Turn F a w.drew := ⟨h.os, h.tape, h.output, h.size, h.block⟩
theorem Turn.mono {F F' : Nat → Prop} {w w' : World} (h : Turn F w w') (hF : ∀ k, F k → F' k) : Turn F' w w' := ⟨h.os, h.tape, h.output, h.size, fun k hk hn => h.block k hk (fun f => hn (hF k f))⟩

/-- Where the table lies. F: the blocks that belong to it (the two maps, the rows). -/
structure TabIs (w : World) (B tb hb gb n : Nat) (F : Nat → Prop) (S : St) (fH : ByteArray → Value) (fG : Int → Value) : Prop where
  c0 : w.cell? ⟨tb, 0, none⟩ = some (.map (some hb))
  c1 : w.cell? ⟨tb, 1, none⟩ = some (.map (some gb))
  mH : MapF kS w 9 hb n (.slice none 0 0) fH
  mG : MapF kI w 3 gb n (.slice none 0 0) fG
  rH : ∀ o, w.ownsRow B 44 2 (fH o) (S.H o).length ((S.H o).flatMap hcells)
  rG : ∀ t, w.ownsRow B 9 1 (fG t) (S.G t).length ((S.G t).map Value.string)
  dH : ∀ o o' g, (fH o).ownBlock = some g → (fH o').ownBlock = some g → o = o'
  dG : ∀ t t' g, (fG t).ownBlock = some g → (fG t').ownBlock = some g → t = t'
  lH : ∀ o, (S.H o).length ≤ n
  lG : ∀ t, (S.G t).length ≤ n
  inH : ∀ o g, (fH o).ownBlock = some g → F g
  inG : ∀ t g, (fG t).ownBlock = some g → F g
  inh : F hb
  ing : F gb
  lo : ∀ k, F k → B ≤ k ∧ k < w.heap.size
  out : ¬ F tb
  hg : hb ≠ gb

theorem ownsRow_same {w w' : World} {base : Nat} {e : TypeId} {size : Nat} {v : Value} {n : Nat} {xs : List Value} (h : w.ownsRow base e size v n xs) (hb : ∀ g, v.ownBlock = some g → w'.heap[g]? = w.heap[g]?) : w'.ownsRow base e size v n xs := by
  obtain ⟨h1, h2⟩ := h
  refine ⟨h1, ?_⟩
  rcases h2 with h2 | ⟨g, cap, cur, hv, hg, hh, r⟩
  · exact Or.inl h2
  · exact Or.inr ⟨g, cap, cur, hv, hg, by rw [hb g (by rw [hv]; rfl)]; exact hh, r⟩

theorem cell_same {w w' : World} {b o : Nat} {v : Value} (h : w.cell? ⟨b, o, none⟩ = some v) (hb : w'.heap[b]? = w.heap[b]?) : w'.cell? ⟨b, o, none⟩ = some v := by
  rw [World.cell?_of_block (w := w) (a := ⟨b, o, none⟩) hb]; exact h

/-- The table stays where it is while its own blocks and its struct do. -/
theorem TabIs.keep {w w' : World} {B tb hb gb n : Nat} {F : Nat → Prop} {S : St} {fH : ByteArray → Value} {fG : Int → Value} (h : TabIs w B tb hb gb n F S fH fG) (hs : w.heap.size ≤ w'.heap.size)
    (hF : ∀ k, F k → w'.heap[k]? = w.heap[k]?) (ht : w'.heap[tb]? = w.heap[tb]?) : TabIs w' B tb hb gb n F S fH fG :=
  { h with
    c0 := cell_same h.c0 ht
    c1 := cell_same h.c1 ht
    mH := h.mH.kept (hF _ h.inh)
    mG := h.mG.kept (hF _ h.ing)
    rH := fun o => ownsRow_same (h.rH o) fun g hg => hF g (h.inH o g hg)
    rG := fun t => ownsRow_same (h.rG t) fun g hg => hF g (h.inG t g hg)
    lo := fun k hk => ⟨(h.lo k hk).1, Nat.lt_of_lt_of_le (h.lo k hk).2 hs⟩ }

theorem TabIs.below {w w' : World} {B tb hb gb n : Nat} {F : Nat → Prop} {S : St} {fH : ByteArray → Value} {fG : Int → Value} (h : TabIs w B tb hb gb n F S fH fG) (hb' : Below w.heap.size w w') : TabIs w' B tb hb gb n F S fH fG :=
  h.keep hb'.size (fun k hk => hb'.block k (h.lo k hk).2) (hb'.block tb (World.block_lt_of_cell? w _ h.c0))

end Go.Proofs.Qxb6628846a
