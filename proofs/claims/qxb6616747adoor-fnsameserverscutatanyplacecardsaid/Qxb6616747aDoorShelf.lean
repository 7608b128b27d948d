/-
  THE BUILDER CONTRACTS OF THE SHELF, LAID AT THIS DUMP IN PLAIN WORDS. Those of WriteString and WriteByte are laid by hand: the tool missed two type numbers.
-/
import Derived.Shelf.Strings.Builder1
import Derived.Shelf.Strings.Builder2
import Derived.Test.Qxb6616747aDoorProg
namespace Go.Proofs
open Go.Shelf
def Tryd.lays170_ren : Go.Shelf.Ren := ⟨fun | 170 => 24 | n => n, fun | 70 => 36 | 3 => 3 | 0 => 0 | 72 => 39 | 37 => 37 | 5 => 5 | n => n, fun | n => n⟩
theorem Tryd.lays170 : Go.Proofs.Lays.n170 Tryd.prog Tryd.lays170_ren := {
  mixed := by kernel_rfl
  f170 := Tryd.func24.trans (congrArg some (by kernel_rfl))
  t0 := Tryd.underlying0
  a0 := Tryd.isAgg0
  z0 := Tryd.sizeOf0
  v0 := Tryd.zeroValue0
  t3 := Tryd.underlying3
  a3 := Tryd.isAgg3
  z3 := Tryd.sizeOf3
  v3 := Tryd.zeroValue3
  t37 := Tryd.underlying37
  a37 := Tryd.isAgg37
  z37 := Tryd.sizeOf37
  v37 := Tryd.zeroValue37
  t70 := Tryd.underlying36
  a70 := Tryd.isAgg36
  z70 := Tryd.sizeOf36
  v70 := Tryd.zeroValue36
  t72 := Tryd.underlying39
  a72 := Tryd.isAgg39
  z72 := Tryd.sizeOf39
  v72 := Tryd.zeroValue39 }
open Go.RowKit in
theorem Tryd.Builder_Len (B b : Nat) (bs : List Value) (w : World) (h : Lib.IsBuilder 39 5 B b bs w) :
    Calls Tryd.prog 24 #[.pointer (some ⟨b, 0, none⟩)] w fun e w' => e = .returned (.int .i64 bs.length) ∧ w' = w := Any.Builder_Len Tryd.lays170 B b bs w h
def Tryd.lays169_ren : Go.Shelf.Ren := ⟨fun | 169 => 28 | n => n, fun | 70 => 36 | 9 => 9 | 0 => 0 | 72 => 39 | 37 => 37 | 127 => 63 | 3 => 3 | 5 => 5 | n => n, fun | n => n⟩
theorem Tryd.lays169 : Go.Proofs.Lays.n169 Tryd.prog Tryd.lays169_ren := {
  mixed := by kernel_rfl
  f169 := Tryd.func28.trans (congrArg some (by kernel_rfl))
  t0 := Tryd.underlying0
  a0 := Tryd.isAgg0
  z0 := Tryd.sizeOf0
  v0 := Tryd.zeroValue0
  t3 := Tryd.underlying3
  a3 := Tryd.isAgg3
  z3 := Tryd.sizeOf3
  v3 := Tryd.zeroValue3
  t9 := Tryd.underlying9
  a9 := Tryd.isAgg9
  z9 := Tryd.sizeOf9
  v9 := Tryd.zeroValue9
  t37 := Tryd.underlying37
  a37 := Tryd.isAgg37
  z37 := Tryd.sizeOf37
  v37 := Tryd.zeroValue37
  t70 := Tryd.underlying36
  a70 := Tryd.isAgg36
  z70 := Tryd.sizeOf36
  v70 := Tryd.zeroValue36
  t72 := Tryd.underlying39
  a72 := Tryd.isAgg39
  z72 := Tryd.sizeOf39
  v72 := Tryd.zeroValue39
  t127 := Tryd.underlying63
  a127 := Tryd.isAgg63
  z127 := Tryd.sizeOf63
  v127 := Tryd.zeroValue63 }
theorem Tryd.Builder_Extra_169 : Builder.Extra Tryd.prog Tryd.lays169_ren := {
  sizeBuilder := by kernel_rfl
  liesBuilder := by kernel_rfl
  t5 := Tryd.underlying5
  a5 := Tryd.isAgg5
  z5 := Tryd.sizeOf5
  v5 := Tryd.zeroValue5
  infoByte := by kernel_rfl
  cellsByte := by kernel_rfl
  sizeByte := by kernel_rfl
  neB5 := by decide }
open Go.RowKit in
theorem Tryd.Builder_String (B b : Nat) (l : List UInt8) (w : World) (h : Lib.IsBuilder 39 5 B b (Lib.byteCells l) w) (h0 : l ≠ []) :
    Calls Tryd.prog 28 #[.pointer (some ⟨b, 0, none⟩)] w fun e w' => e = .returned (.string ⟨l.toArray⟩) ∧ Below B w w' := Any.Builder_String Tryd.lays169 Tryd.Builder_Extra_169 B b l w h h0
open Go.RowKit in
theorem Tryd.Builder_String_empty (B b : Nat) (w : World) (h : Lib.IsBuilder 39 5 B b [] w) (hBw : B ≤ w.heap.size) :
    Calls Tryd.prog 28 #[.pointer (some ⟨b, 0, none⟩)] w fun e w' => e = .returned (.string ⟨#[]⟩) ∧ Below B w w' := Any.Builder_String_empty Tryd.lays169 Tryd.Builder_Extra_169 B b w h hBw
open Go.RowKit in
theorem Tryd.Builder_String_any (B b : Nat) (l : List UInt8) (w : World) (h : Lib.IsBuilder 39 5 B b (Lib.byteCells l) w) (hBw : B ≤ w.heap.size) :
    Calls Tryd.prog 28 #[.pointer (some ⟨b, 0, none⟩)] w fun e w' => e = .returned (.string ⟨l.toArray⟩) ∧ Below B w w' := Any.Builder_String_any Tryd.lays169 Tryd.Builder_Extra_169 B b l w h hBw
def Tryd.lays241_ren : Go.Shelf.Ren := ⟨fun | 241 => 30 | 277 => 38 | n => n, fun | 70 => 36 | 3 => 3 | 0 => 0 | 72 => 39 | 37 => 37 | 5 => 5 | n => n, fun | n => n⟩
theorem Tryd.lays241 : Go.Proofs.Lays.n241 Tryd.prog Tryd.lays241_ren := {
  mixed := by kernel_rfl
  f241 := Tryd.func30.trans (congrArg some (by kernel_rfl))
  f277 := Tryd.func38.trans (congrArg some (by kernel_rfl))
  t0 := Tryd.underlying0
  a0 := Tryd.isAgg0
  z0 := Tryd.sizeOf0
  v0 := Tryd.zeroValue0
  t3 := Tryd.underlying3
  a3 := Tryd.isAgg3
  z3 := Tryd.sizeOf3
  v3 := Tryd.zeroValue3
  t37 := Tryd.underlying37
  a37 := Tryd.isAgg37
  z37 := Tryd.sizeOf37
  v37 := Tryd.zeroValue37
  t70 := Tryd.underlying36
  a70 := Tryd.isAgg36
  z70 := Tryd.sizeOf36
  v70 := Tryd.zeroValue36
  t72 := Tryd.underlying39
  a72 := Tryd.isAgg39
  z72 := Tryd.sizeOf39
  v72 := Tryd.zeroValue39 }
theorem Tryd.Builder_Extra_241 : Builder.Extra Tryd.prog Tryd.lays241_ren := {
  sizeBuilder := by kernel_rfl
  liesBuilder := by kernel_rfl
  t5 := Tryd.underlying5
  a5 := Tryd.isAgg5
  z5 := Tryd.sizeOf5
  v5 := Tryd.zeroValue5
  infoByte := by kernel_rfl
  cellsByte := by kernel_rfl
  sizeByte := by kernel_rfl
  neB5 := by decide }
open Go.RowKit in
theorem Tryd.Builder_grow_fresh (B b n : Nat) (w : World) (hB : B ≤ b) (hbk : w.heap[b]? = some (.cells #[.pointer (some ⟨b, 0, none⟩), .slice none 0 0] 39 (0, 0))) (hBw : B ≤ w.heap.size) (hn : n ≤ 281474976710656) :
    Calls Tryd.prog 30 #[.pointer (some ⟨b, 0, none⟩), .int .i64 n] w fun e w' => e = .returned (.tuple #[]) ∧ (Lib.BuilderAt 39 5 B b (.pointer (some ⟨b, 0, none⟩)) [] w' ∧ Below B w w') := Any.Builder_grow_fresh Tryd.lays241 Tryd.Builder_Extra_241 B b n w hB hbk hBw hn
def Tryd.lays165_ren : Go.Shelf.Ren := ⟨fun | 165 => 17 | 240 => 29 | 241 => 30 | 276 => 37 | 277 => 38 | n => n, fun | 70 => 36 | 3 => 3 | 0 => 0 | 4 => 4 | 9 => 9 | 20 => 20 | 72 => 39 | 37 => 37 | 164 => 64 | 5 => 5 | n => n, fun | n => n⟩
theorem Tryd.lays165 : Go.Proofs.Lays.n165 Tryd.prog Tryd.lays165_ren := {
  mixed := by kernel_rfl
  f165 := Tryd.func17.trans (congrArg some (by kernel_rfl))
  f240 := Tryd.func29.trans (congrArg some (by kernel_rfl))
  f241 := Tryd.func30.trans (congrArg some (by kernel_rfl))
  f276 := Tryd.func37.trans (congrArg some (by kernel_rfl))
  f277 := Tryd.func38.trans (congrArg some (by kernel_rfl))
  t0 := Tryd.underlying0
  a0 := Tryd.isAgg0
  z0 := Tryd.sizeOf0
  v0 := Tryd.zeroValue0
  t3 := Tryd.underlying3
  a3 := Tryd.isAgg3
  z3 := Tryd.sizeOf3
  v3 := Tryd.zeroValue3
  t4 := Tryd.underlying4
  a4 := Tryd.isAgg4
  z4 := Tryd.sizeOf4
  v4 := Tryd.zeroValue4
  t9 := Tryd.underlying9
  a9 := Tryd.isAgg9
  z9 := Tryd.sizeOf9
  v9 := Tryd.zeroValue9
  t20 := Tryd.underlying20
  a20 := Tryd.isAgg20
  z20 := Tryd.sizeOf20
  v20 := Tryd.zeroValue20
  t37 := Tryd.underlying37
  a37 := Tryd.isAgg37
  z37 := Tryd.sizeOf37
  v37 := Tryd.zeroValue37
  t70 := Tryd.underlying36
  a70 := Tryd.isAgg36
  z70 := Tryd.sizeOf36
  v70 := Tryd.zeroValue36
  t72 := Tryd.underlying39
  a72 := Tryd.isAgg39
  z72 := Tryd.sizeOf39
  v72 := Tryd.zeroValue39
  t164 := Tryd.underlying64
  a164 := Tryd.isAgg64
  z164 := Tryd.sizeOf64
  v164 := Tryd.zeroValue64 }
theorem Tryd.Builder_Extra_165 : Builder.Extra Tryd.prog Tryd.lays165_ren := {
  sizeBuilder := by kernel_rfl
  liesBuilder := by kernel_rfl
  t5 := Tryd.underlying5
  a5 := Tryd.isAgg5
  z5 := Tryd.sizeOf5
  v5 := Tryd.zeroValue5
  infoByte := by kernel_rfl
  cellsByte := by kernel_rfl
  sizeByte := by kernel_rfl
  neB5 := by decide }
open Go.RowKit in
theorem Tryd.Builder_Grow_fresh (B b n : Nat) (w : World) (hB : B ≤ b) (hbk : w.heap[b]? = some (.cells #[.pointer none, .slice none 0 0] 39 (0, 0))) (hBw : B ≤ w.heap.size) (hn : n ≤ 281474976710656) :
    Calls Tryd.prog 17 #[.pointer (some ⟨b, 0, none⟩), .int .i64 n] w fun e w' => e = .returned (.tuple #[]) ∧ (Lib.BuilderAt 39 5 B b (.pointer (some ⟨b, 0, none⟩)) [] w' ∧ Below B w w') := Any.Builder_Grow_fresh Tryd.lays165 Tryd.Builder_Extra_165 B b n w hB hbk hBw hn
def Tryd.lays166_ren : Go.Shelf.Ren := ⟨fun | 166 => 18 | 240 => 29 | 276 => 37 | n => n, fun | 70 => 36 | 3 => 3 | 0 => 0 | 4 => 4 | 9 => 9 | 20 => 20 | 72 => 39 | 37 => 37 | 75 => 44 | 80 => 34 | 164 => 64 | 5 => 5 | n => n, fun | n => n⟩
theorem Tryd.lays166 : Go.Proofs.Lays.n166 Tryd.prog Tryd.lays166_ren := {
  mixed := by kernel_rfl
  f166 := Tryd.func18.trans (congrArg some (by kernel_rfl))
  f240 := Tryd.func29.trans (congrArg some (by kernel_rfl))
  f276 := Tryd.func37.trans (congrArg some (by kernel_rfl))
  t0 := Tryd.underlying0
  a0 := Tryd.isAgg0
  z0 := Tryd.sizeOf0
  v0 := Tryd.zeroValue0
  t3 := Tryd.underlying3
  a3 := Tryd.isAgg3
  z3 := Tryd.sizeOf3
  v3 := Tryd.zeroValue3
  t4 := Tryd.underlying4
  a4 := Tryd.isAgg4
  z4 := Tryd.sizeOf4
  v4 := Tryd.zeroValue4
  t9 := Tryd.underlying9
  a9 := Tryd.isAgg9
  z9 := Tryd.sizeOf9
  v9 := Tryd.zeroValue9
  t20 := Tryd.underlying20
  a20 := Tryd.isAgg20
  z20 := Tryd.sizeOf20
  v20 := Tryd.zeroValue20
  t37 := Tryd.underlying37
  a37 := Tryd.isAgg37
  z37 := Tryd.sizeOf37
  v37 := Tryd.zeroValue37
  t70 := Tryd.underlying36
  a70 := Tryd.isAgg36
  z70 := Tryd.sizeOf36
  v70 := Tryd.zeroValue36
  t72 := Tryd.underlying39
  a72 := Tryd.isAgg39
  z72 := Tryd.sizeOf39
  v72 := Tryd.zeroValue39
  t75 := Tryd.underlying44
  a75 := Tryd.isAgg44
  z75 := Tryd.sizeOf44
  v75 := Tryd.zeroValue44
  t164 := Tryd.underlying64
  a164 := Tryd.isAgg64
  z164 := Tryd.sizeOf64
  v164 := Tryd.zeroValue64 }
theorem Tryd.Builder_Extra_166 : Builder.Extra Tryd.prog Tryd.lays166_ren := {
  sizeBuilder := by kernel_rfl
  liesBuilder := by kernel_rfl
  t5 := Tryd.underlying5
  a5 := Tryd.isAgg5
  z5 := Tryd.sizeOf5
  v5 := Tryd.zeroValue5
  infoByte := by kernel_rfl
  cellsByte := by kernel_rfl
  sizeByte := by kernel_rfl
  neB5 := by decide }
open Go.RowKit in
theorem Tryd.Builder_WriteString (B b : Nat) (bs : List Value) (s : ByteArray) (w : World) (h : Lib.IsBuilder 39 5 B b bs w) (hlen : bs.length + s.size ≤ 140737488355328) (hBw : B ≤ w.heap.size) :
    Calls Tryd.prog 18 #[.pointer (some ⟨b, 0, none⟩), .string s] w fun e w' => e = .returned (.tuple #[.int .i64 s.size, .nilIface]) ∧ (Lib.BuilderAt 39 5 B b (.pointer (some ⟨b, 0, none⟩)) (bs ++ Lib.byteCells s.data.toList) w' ∧ Below B w w') := Any.Builder_WriteString Tryd.lays166 Tryd.Builder_Extra_166 B b bs s w h hlen hBw
def Tryd.lays167_ren : Go.Shelf.Ren := ⟨fun | 167 => 19 | 240 => 29 | 276 => 37 | n => n, fun | 70 => 36 | 3 => 3 | 0 => 0 | 4 => 4 | 9 => 9 | 20 => 20 | 72 => 39 | 37 => 37 | 75 => 44 | 80 => 34 | 164 => 64 | 5 => 5 | n => n, fun | n => n⟩
theorem Tryd.lays167 : Go.Proofs.Lays.n167 Tryd.prog Tryd.lays167_ren := {
  mixed := by kernel_rfl
  f167 := Tryd.func19.trans (congrArg some (by kernel_rfl))
  f240 := Tryd.func29.trans (congrArg some (by kernel_rfl))
  f276 := Tryd.func37.trans (congrArg some (by kernel_rfl))
  t0 := Tryd.underlying0
  a0 := Tryd.isAgg0
  z0 := Tryd.sizeOf0
  v0 := Tryd.zeroValue0
  t4 := Tryd.underlying4
  a4 := Tryd.isAgg4
  z4 := Tryd.sizeOf4
  v4 := Tryd.zeroValue4
  t5 := Tryd.underlying5
  a5 := Tryd.isAgg5
  z5 := Tryd.sizeOf5
  v5 := Tryd.zeroValue5
  t9 := Tryd.underlying9
  a9 := Tryd.isAgg9
  z9 := Tryd.sizeOf9
  v9 := Tryd.zeroValue9
  t20 := Tryd.underlying20
  a20 := Tryd.isAgg20
  z20 := Tryd.sizeOf20
  v20 := Tryd.zeroValue20
  t37 := Tryd.underlying37
  a37 := Tryd.isAgg37
  z37 := Tryd.sizeOf37
  v37 := Tryd.zeroValue37
  t70 := Tryd.underlying36
  a70 := Tryd.isAgg36
  z70 := Tryd.sizeOf36
  v70 := Tryd.zeroValue36
  t72 := Tryd.underlying39
  a72 := Tryd.isAgg39
  z72 := Tryd.sizeOf39
  v72 := Tryd.zeroValue39
  t75 := Tryd.underlying44
  a75 := Tryd.isAgg44
  z75 := Tryd.sizeOf44
  v75 := Tryd.zeroValue44
  t164 := Tryd.underlying64
  a164 := Tryd.isAgg64
  z164 := Tryd.sizeOf64
  v164 := Tryd.zeroValue64 }
theorem Tryd.Builder_Extra_167 : Builder.Extra Tryd.prog Tryd.lays167_ren := {
  sizeBuilder := by kernel_rfl
  liesBuilder := by kernel_rfl
  t5 := Tryd.underlying5
  a5 := Tryd.isAgg5
  z5 := Tryd.sizeOf5
  v5 := Tryd.zeroValue5
  infoByte := by kernel_rfl
  cellsByte := by kernel_rfl
  sizeByte := by kernel_rfl
  neB5 := by decide }
open Go.RowKit in
theorem Tryd.Builder_WriteByte (B b : Nat) (bs : List Value) (c : Int) (w : World) (h : Lib.IsBuilder 39 5 B b bs w) (hlen : bs.length + 1 ≤ 140737488355328) (hBw : B ≤ w.heap.size) :
    Calls Tryd.prog 19 #[.pointer (some ⟨b, 0, none⟩), .int .u8 c] w fun e w' => e = .returned .nilIface ∧ (Lib.BuilderAt 39 5 B b (.pointer (some ⟨b, 0, none⟩)) (bs ++ [.int .u8 c]) w' ∧ Below B w w') := Any.Builder_WriteByte Tryd.lays167 Tryd.Builder_Extra_167 B b bs c w h hlen hBw
end Go.Proofs
