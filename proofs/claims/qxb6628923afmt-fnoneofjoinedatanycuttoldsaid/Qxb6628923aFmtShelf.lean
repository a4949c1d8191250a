/-
  The kit's contracts for strings.Join and the Builder, laid at this program by the kit's own tool.
-/
import Derived.Shelf.Strings.Builder1
import Derived.Shelf.Strings.Builder2
import Derived.Shelf.Strings.OnBuilder
import Derived.Test.Qxb6628923aFmtProg
namespace Go.Proofs
open Go.Shelf
def Tryf.lays169_ren : Go.Shelf.Ren := ⟨fun | 169 => 15 | n => n, fun | 70 => 46 | 9 => 9 | 0 => 0 | 72 => 49 | 37 => 47 | 127 => 53 | 3 => 3 | 5 => 5 | n => n, fun | n => n⟩
theorem Tryf.lays169 : Go.Proofs.Lays.n169 Tryf.prog Tryf.lays169_ren := {
  mixed := by kernel_rfl
  f169 := Tryf.func15.trans (congrArg some (by kernel_rfl))
  t0 := Tryf.underlying0
  a0 := Tryf.isAgg0
  z0 := Tryf.sizeOf0
  v0 := Tryf.zeroValue0
  t3 := Tryf.underlying3
  a3 := Tryf.isAgg3
  z3 := Tryf.sizeOf3
  v3 := Tryf.zeroValue3
  t9 := Tryf.underlying9
  a9 := Tryf.isAgg9
  z9 := Tryf.sizeOf9
  v9 := Tryf.zeroValue9
  t37 := Tryf.underlying47
  a37 := Tryf.isAgg47
  z37 := Tryf.sizeOf47
  v37 := Tryf.zeroValue47
  t70 := Tryf.underlying46
  a70 := Tryf.isAgg46
  z70 := Tryf.sizeOf46
  v70 := Tryf.zeroValue46
  t72 := Tryf.underlying49
  a72 := Tryf.isAgg49
  z72 := Tryf.sizeOf49
  v72 := Tryf.zeroValue49
  t127 := Tryf.underlying53
  a127 := Tryf.isAgg53
  z127 := Tryf.sizeOf53
  v127 := Tryf.zeroValue53 }
theorem Tryf.Builder_Extra_169 : Builder.Extra Tryf.prog Tryf.lays169_ren := {
  sizeBuilder := by kernel_rfl
  liesBuilder := by kernel_rfl
  t5 := Tryf.underlying5
  a5 := Tryf.isAgg5
  z5 := Tryf.sizeOf5
  v5 := Tryf.zeroValue5
  infoByte := by kernel_rfl
  cellsByte := by kernel_rfl
  sizeByte := by kernel_rfl
  neB5 := by decide }
open Go.RowKit in
theorem Tryf.Builder_String (B b : Nat) (l : List UInt8) (w : World) (h : Lib.IsBuilder 49 5 B b (Lib.byteCells l) w) (h0 : l ≠ []) :
    Calls Tryf.prog 15 #[.pointer (some ⟨b, 0, none⟩)] w fun e w' => e = .returned (.string ⟨l.toArray⟩) ∧ Below B w w' := Any.Builder_String Tryf.lays169 Tryf.Builder_Extra_169 B b l w h h0
open Go.RowKit in
theorem Tryf.Builder_String_empty (B b : Nat) (w : World) (h : Lib.IsBuilder 49 5 B b [] w) (hBw : B ≤ w.heap.size) :
    Calls Tryf.prog 15 #[.pointer (some ⟨b, 0, none⟩)] w fun e w' => e = .returned (.string ⟨#[]⟩) ∧ Below B w w' := Any.Builder_String_empty Tryf.lays169 Tryf.Builder_Extra_169 B b w h hBw
open Go.RowKit in
theorem Tryf.Builder_String_any (B b : Nat) (l : List UInt8) (w : World) (h : Lib.IsBuilder 49 5 B b (Lib.byteCells l) w) (hBw : B ≤ w.heap.size) :
    Calls Tryf.prog 15 #[.pointer (some ⟨b, 0, none⟩)] w fun e w' => e = .returned (.string ⟨l.toArray⟩) ∧ Below B w w' := Any.Builder_String_any Tryf.lays169 Tryf.Builder_Extra_169 B b l w h hBw
def Tryf.lays241_ren : Go.Shelf.Ren := ⟨fun | 241 => 17 | 277 => 19 | n => n, fun | 70 => 46 | 3 => 3 | 0 => 0 | 72 => 49 | 37 => 47 | 5 => 5 | n => n, fun | n => n⟩
theorem Tryf.lays241 : Go.Proofs.Lays.n241 Tryf.prog Tryf.lays241_ren := {
  mixed := by kernel_rfl
  f241 := Tryf.func17.trans (congrArg some (by kernel_rfl))
  f277 := Tryf.func19.trans (congrArg some (by kernel_rfl))
  t0 := Tryf.underlying0
  a0 := Tryf.isAgg0
  z0 := Tryf.sizeOf0
  v0 := Tryf.zeroValue0
  t3 := Tryf.underlying3
  a3 := Tryf.isAgg3
  z3 := Tryf.sizeOf3
  v3 := Tryf.zeroValue3
  t37 := Tryf.underlying47
  a37 := Tryf.isAgg47
  z37 := Tryf.sizeOf47
  v37 := Tryf.zeroValue47
  t70 := Tryf.underlying46
  a70 := Tryf.isAgg46
  z70 := Tryf.sizeOf46
  v70 := Tryf.zeroValue46
  t72 := Tryf.underlying49
  a72 := Tryf.isAgg49
  z72 := Tryf.sizeOf49
  v72 := Tryf.zeroValue49 }
theorem Tryf.Builder_Extra_241 : Builder.Extra Tryf.prog Tryf.lays241_ren := {
  sizeBuilder := by kernel_rfl
  liesBuilder := by kernel_rfl
  t5 := Tryf.underlying5
  a5 := Tryf.isAgg5
  z5 := Tryf.sizeOf5
  v5 := Tryf.zeroValue5
  infoByte := by kernel_rfl
  cellsByte := by kernel_rfl
  sizeByte := by kernel_rfl
  neB5 := by decide }
open Go.RowKit in
theorem Tryf.Builder_grow_fresh (B b n : Nat) (w : World) (hB : B ≤ b) (hbk : w.heap[b]? = some (.cells #[.pointer (some ⟨b, 0, none⟩), .slice none 0 0] 49 (0, 0))) (hBw : B ≤ w.heap.size) (hn : n ≤ 281474976710656) :
    Calls Tryf.prog 17 #[.pointer (some ⟨b, 0, none⟩), .int .i64 n] w fun e w' => e = .returned (.tuple #[]) ∧ (Lib.BuilderAt 49 5 B b (.pointer (some ⟨b, 0, none⟩)) [] w' ∧ Below B w w') := Any.Builder_grow_fresh Tryf.lays241 Tryf.Builder_Extra_241 B b n w hB hbk hBw hn
def Tryf.lays165_ren : Go.Shelf.Ren := ⟨fun | 165 => 13 | 240 => 16 | 241 => 17 | 276 => 18 | 277 => 19 | n => n, fun | 70 => 46 | 3 => 3 | 0 => 0 | 4 => 4 | 9 => 9 | 20 => 20 | 72 => 49 | 37 => 47 | 164 => 54 | 5 => 5 | n => n, fun | n => n⟩
theorem Tryf.lays165 : Go.Proofs.Lays.n165 Tryf.prog Tryf.lays165_ren := {
  mixed := by kernel_rfl
  f165 := Tryf.func13.trans (congrArg some (by kernel_rfl))
  f240 := Tryf.func16.trans (congrArg some (by kernel_rfl))
  f241 := Tryf.func17.trans (congrArg some (by kernel_rfl))
  f276 := Tryf.func18.trans (congrArg some (by kernel_rfl))
  f277 := Tryf.func19.trans (congrArg some (by kernel_rfl))
  t0 := Tryf.underlying0
  a0 := Tryf.isAgg0
  z0 := Tryf.sizeOf0
  v0 := Tryf.zeroValue0
  t3 := Tryf.underlying3
  a3 := Tryf.isAgg3
  z3 := Tryf.sizeOf3
  v3 := Tryf.zeroValue3
  t4 := Tryf.underlying4
  a4 := Tryf.isAgg4
  z4 := Tryf.sizeOf4
  v4 := Tryf.zeroValue4
  t9 := Tryf.underlying9
  a9 := Tryf.isAgg9
  z9 := Tryf.sizeOf9
  v9 := Tryf.zeroValue9
  t20 := Tryf.underlying20
  a20 := Tryf.isAgg20
  z20 := Tryf.sizeOf20
  v20 := Tryf.zeroValue20
  t37 := Tryf.underlying47
  a37 := Tryf.isAgg47
  z37 := Tryf.sizeOf47
  v37 := Tryf.zeroValue47
  t70 := Tryf.underlying46
  a70 := Tryf.isAgg46
  z70 := Tryf.sizeOf46
  v70 := Tryf.zeroValue46
  t72 := Tryf.underlying49
  a72 := Tryf.isAgg49
  z72 := Tryf.sizeOf49
  v72 := Tryf.zeroValue49
  t164 := Tryf.underlying54
  a164 := Tryf.isAgg54
  z164 := Tryf.sizeOf54
  v164 := Tryf.zeroValue54 }
theorem Tryf.Builder_Extra_165 : Builder.Extra Tryf.prog Tryf.lays165_ren := {
  sizeBuilder := by kernel_rfl
  liesBuilder := by kernel_rfl
  t5 := Tryf.underlying5
  a5 := Tryf.isAgg5
  z5 := Tryf.sizeOf5
  v5 := Tryf.zeroValue5
  infoByte := by kernel_rfl
  cellsByte := by kernel_rfl
  sizeByte := by kernel_rfl
  neB5 := by decide }
open Go.RowKit in
theorem Tryf.Builder_Grow_fresh (B b n : Nat) (w : World) (hB : B ≤ b) (hbk : w.heap[b]? = some (.cells #[.pointer none, .slice none 0 0] 49 (0, 0))) (hBw : B ≤ w.heap.size) (hn : n ≤ 281474976710656) :
    Calls Tryf.prog 13 #[.pointer (some ⟨b, 0, none⟩), .int .i64 n] w fun e w' => e = .returned (.tuple #[]) ∧ (Lib.BuilderAt 49 5 B b (.pointer (some ⟨b, 0, none⟩)) [] w' ∧ Below B w w') := Any.Builder_Grow_fresh Tryf.lays165 Tryf.Builder_Extra_165 B b n w hB hbk hBw hn
def Tryf.lays156_ren : Go.Shelf.Ren := ⟨fun | 156 => 11 | 165 => 13 | 166 => 14 | 169 => 15 | 240 => 16 | 241 => 17 | 276 => 18 | 277 => 19 | n => n, fun | 31 => 22 | 9 => 9 | 3 => 3 | 4 => 4 | 0 => 0 | 20 => 20 | 72 => 49 | 76 => 31 | 70 => 46 | 37 => 47 | 75 => 30 | 127 => 53 | 164 => 54 | 5 => 5 | 80 => 52 | n => n, fun | n => n⟩
theorem Tryf.lays156 : Go.Proofs.Lays.n156 Tryf.prog Tryf.lays156_ren := {
  mixed := by kernel_rfl
  f156 := Tryf.func11.trans (congrArg some (by kernel_rfl))
  f165 := Tryf.func13.trans (congrArg some (by kernel_rfl))
  f166 := Tryf.func14.trans (congrArg some (by kernel_rfl))
  f169 := Tryf.func15.trans (congrArg some (by kernel_rfl))
  f240 := Tryf.func16.trans (congrArg some (by kernel_rfl))
  f241 := Tryf.func17.trans (congrArg some (by kernel_rfl))
  f276 := Tryf.func18.trans (congrArg some (by kernel_rfl))
  f277 := Tryf.func19.trans (congrArg some (by kernel_rfl))
  t0 := Tryf.underlying0
  a0 := Tryf.isAgg0
  z0 := Tryf.sizeOf0
  v0 := Tryf.zeroValue0
  t3 := Tryf.underlying3
  a3 := Tryf.isAgg3
  z3 := Tryf.sizeOf3
  v3 := Tryf.zeroValue3
  t4 := Tryf.underlying4
  a4 := Tryf.isAgg4
  z4 := Tryf.sizeOf4
  v4 := Tryf.zeroValue4
  t9 := Tryf.underlying9
  a9 := Tryf.isAgg9
  z9 := Tryf.sizeOf9
  v9 := Tryf.zeroValue9
  t20 := Tryf.underlying20
  a20 := Tryf.isAgg20
  z20 := Tryf.sizeOf20
  v20 := Tryf.zeroValue20
  t31 := Tryf.underlying22
  a31 := Tryf.isAgg22
  z31 := Tryf.sizeOf22
  v31 := Tryf.zeroValue22
  t37 := Tryf.underlying47
  a37 := Tryf.isAgg47
  z37 := Tryf.sizeOf47
  v37 := Tryf.zeroValue47
  t70 := Tryf.underlying46
  a70 := Tryf.isAgg46
  z70 := Tryf.sizeOf46
  v70 := Tryf.zeroValue46
  t72 := Tryf.underlying49
  a72 := Tryf.isAgg49
  z72 := Tryf.sizeOf49
  v72 := Tryf.zeroValue49
  t75 := Tryf.underlying30
  a75 := Tryf.isAgg30
  z75 := Tryf.sizeOf30
  v75 := Tryf.zeroValue30
  t76 := Tryf.underlying31
  a76 := Tryf.isAgg31
  z76 := Tryf.sizeOf31
  v76 := Tryf.zeroValue31
  t127 := Tryf.underlying53
  a127 := Tryf.isAgg53
  z127 := Tryf.sizeOf53
  v127 := Tryf.zeroValue53
  t164 := Tryf.underlying54
  a164 := Tryf.isAgg54
  z164 := Tryf.sizeOf54
  v164 := Tryf.zeroValue54 }
theorem Tryf.Builder_Extra_156 : Builder.Extra Tryf.prog Tryf.lays156_ren := {
  sizeBuilder := by kernel_rfl
  liesBuilder := by kernel_rfl
  t5 := Tryf.underlying5
  a5 := Tryf.isAgg5
  z5 := Tryf.sizeOf5
  v5 := Tryf.zeroValue5
  infoByte := by kernel_rfl
  cellsByte := by kernel_rfl
  sizeByte := by kernel_rfl
  neB5 := by decide }
open Go.RowKit in
theorem Tryf.strings_Join_none (a : Option Addr) (c : Nat) (sep : ByteArray) (w : World) :
    Calls Tryf.prog 11 #[.slice a 0 c, .string sep] w fun e w' => e = .returned (.string ⟨#[]⟩) ∧ w' = w := Any.strings_Join_none Tryf.lays156 Tryf.Builder_Extra_156 a c sep w
open Go.RowKit in
theorem Tryf.strings_Join (bk o c : Nat) (xs : List ByteArray) (sep : ByteArray) (w : World) (hcells : ∀ (j : Nat) x, xs[j]? = some x → w.cell? ⟨bk, o + j, none⟩ = some (.string x)) (hbk : bk < w.heap.size) (hN : xs.length ≤ 140737488355328) (hcap : xs.length ≤ c) (hlen : (Lib.join (xs.map (·.data.toList)) sep.data.toList).length ≤ 140737488355328) :
    Calls Tryf.prog 11 #[.slice (some ⟨bk, o, none⟩) xs.length c, .string sep] w fun e w' => e = .returned (.string ⟨(Lib.join (xs.map (·.data.toList)) sep.data.toList).toArray⟩) ∧ Below w.heap.size w w' := Any.strings_Join Tryf.lays156 Tryf.Builder_Extra_156 bk o c xs sep w hcells hbk hN hcap hlen
end Go.Proofs
