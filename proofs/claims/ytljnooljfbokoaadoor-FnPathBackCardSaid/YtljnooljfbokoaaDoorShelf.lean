/- The shelf's contracts of strings.Builder (Grow at a fresh one, WriteByte, WriteString, String) at this program, in plain words: each by one application.
   Three of the layings as lay-plain.mjs writes them; those of WriteByte and WriteString written alike by a small program, for the command finds no number of type string in copyCheck, whose panic the loader has cut away. -/
import Derived.Shelf.Strings.Builder1
import Derived.Shelf.Strings.Builder2
import Derived.Test.YtljnooljfbokoaaDoorProg
namespace Go.Proofs
open Go.Shelf
def Tryd.lays165_ren : Go.Shelf.Ren := ⟨fun | 165 => 19 | 240 => 26 | 241 => 27 | 276 => 33 | 277 => 34 | n => n, fun | 0 => 0 | 3 => 3 | 4 => 4 | 9 => 9 | 20 => 20 | 37 => 36 | 70 => 44 | 72 => 46 | 164 => 63 | 5 => 5 | n => n, fun | n => n⟩
theorem Tryd.lays165 : Go.Proofs.Lays.n165 Tryd.prog Tryd.lays165_ren := {
  mixed := by kernel_rfl
  f165 := Tryd.func19.trans (congrArg some (by kernel_rfl))
  f240 := Tryd.func26.trans (congrArg some (by kernel_rfl))
  f241 := Tryd.func27.trans (congrArg some (by kernel_rfl))
  f276 := Tryd.func33.trans (congrArg some (by kernel_rfl))
  f277 := Tryd.func34.trans (congrArg some (by kernel_rfl))
  t0 := Tryd.underlying0
  a0 := Tryd.isAgg0
  z0 := Tryd.sizeOf0
  v0 := Tryd.zeroValue0
  t3 := Tryd.underlying3
  a3 := Tryd.isAgg3
  z3 := Tryd.sizeOf3
  v3 := Tryd.zeroValue3
  t4 := Tryd.underlying4
  a4 := Tryd.isAgg4
  z4 := Tryd.sizeOf4
  v4 := Tryd.zeroValue4
  t9 := Tryd.underlying9
  a9 := Tryd.isAgg9
  z9 := Tryd.sizeOf9
  v9 := Tryd.zeroValue9
  t20 := Tryd.underlying20
  a20 := Tryd.isAgg20
  z20 := Tryd.sizeOf20
  v20 := Tryd.zeroValue20
  t37 := Tryd.underlying36
  a37 := Tryd.isAgg36
  z37 := Tryd.sizeOf36
  v37 := Tryd.zeroValue36
  t70 := Tryd.underlying44
  a70 := Tryd.isAgg44
  z70 := Tryd.sizeOf44
  v70 := Tryd.zeroValue44
  t72 := Tryd.underlying46
  a72 := Tryd.isAgg46
  z72 := Tryd.sizeOf46
  v72 := Tryd.zeroValue46
  t164 := Tryd.underlying63
  a164 := Tryd.isAgg63
  z164 := Tryd.sizeOf63
  v164 := Tryd.zeroValue63 }
theorem Tryd.Builder_Extra_165 : Builder.Extra Tryd.prog Tryd.lays165_ren := {
  sizeBuilder := by kernel_rfl
  liesBuilder := by kernel_rfl
  t5 := Tryd.underlying5
  a5 := Tryd.isAgg5
  z5 := Tryd.sizeOf5
  v5 := Tryd.zeroValue5
  infoByte := by kernel_rfl
  cellsByte := by kernel_rfl
  sizeByte := by kernel_rfl
  neB5 := by decide }
def Tryd.lays166_ren : Go.Shelf.Ren := ⟨fun | 166 => 21 | 240 => 26 | 276 => 33 | n => n, fun | 0 => 0 | 3 => 3 | 4 => 4 | 9 => 9 | 20 => 20 | 37 => 36 | 70 => 44 | 72 => 46 | 75 => 41 | 164 => 63 | 80 => 35 | 5 => 5 | n => n, fun | n => n⟩
theorem Tryd.lays166 : Go.Proofs.Lays.n166 Tryd.prog Tryd.lays166_ren := {
  mixed := by kernel_rfl
  f166 := Tryd.func21.trans (congrArg some (by kernel_rfl))
  f240 := Tryd.func26.trans (congrArg some (by kernel_rfl))
  f276 := Tryd.func33.trans (congrArg some (by kernel_rfl))
  t0 := Tryd.underlying0
  a0 := Tryd.isAgg0
  z0 := Tryd.sizeOf0
  v0 := Tryd.zeroValue0
  t3 := Tryd.underlying3
  a3 := Tryd.isAgg3
  z3 := Tryd.sizeOf3
  v3 := Tryd.zeroValue3
  t4 := Tryd.underlying4
  a4 := Tryd.isAgg4
  z4 := Tryd.sizeOf4
  v4 := Tryd.zeroValue4
  t9 := Tryd.underlying9
  a9 := Tryd.isAgg9
  z9 := Tryd.sizeOf9
  v9 := Tryd.zeroValue9
  t20 := Tryd.underlying20
  a20 := Tryd.isAgg20
  z20 := Tryd.sizeOf20
  v20 := Tryd.zeroValue20
  t37 := Tryd.underlying36
  a37 := Tryd.isAgg36
  z37 := Tryd.sizeOf36
  v37 := Tryd.zeroValue36
  t70 := Tryd.underlying44
  a70 := Tryd.isAgg44
  z70 := Tryd.sizeOf44
  v70 := Tryd.zeroValue44
  t72 := Tryd.underlying46
  a72 := Tryd.isAgg46
  z72 := Tryd.sizeOf46
  v72 := Tryd.zeroValue46
  t75 := Tryd.underlying41
  a75 := Tryd.isAgg41
  z75 := Tryd.sizeOf41
  v75 := Tryd.zeroValue41
  t164 := Tryd.underlying63
  a164 := Tryd.isAgg63
  z164 := Tryd.sizeOf63
  v164 := Tryd.zeroValue63 }
theorem Tryd.Builder_Extra_166 : Builder.Extra Tryd.prog Tryd.lays166_ren := {
  sizeBuilder := by kernel_rfl
  liesBuilder := by kernel_rfl
  t5 := Tryd.underlying5
  a5 := Tryd.isAgg5
  z5 := Tryd.sizeOf5
  v5 := Tryd.zeroValue5
  infoByte := by kernel_rfl
  cellsByte := by kernel_rfl
  sizeByte := by kernel_rfl
  neB5 := by decide }
def Tryd.lays167_ren : Go.Shelf.Ren := ⟨fun | 167 => 20 | 240 => 26 | 276 => 33 | n => n, fun | 0 => 0 | 4 => 4 | 5 => 5 | 9 => 9 | 20 => 20 | 37 => 36 | 70 => 44 | 72 => 46 | 75 => 41 | 164 => 63 | 80 => 35 | n => n, fun | n => n⟩
theorem Tryd.lays167 : Go.Proofs.Lays.n167 Tryd.prog Tryd.lays167_ren := {
  mixed := by kernel_rfl
  f167 := Tryd.func20.trans (congrArg some (by kernel_rfl))
  f240 := Tryd.func26.trans (congrArg some (by kernel_rfl))
  f276 := Tryd.func33.trans (congrArg some (by kernel_rfl))
  t0 := Tryd.underlying0
  a0 := Tryd.isAgg0
  z0 := Tryd.sizeOf0
  v0 := Tryd.zeroValue0
  t4 := Tryd.underlying4
  a4 := Tryd.isAgg4
  z4 := Tryd.sizeOf4
  v4 := Tryd.zeroValue4
  t5 := Tryd.underlying5
  a5 := Tryd.isAgg5
  z5 := Tryd.sizeOf5
  v5 := Tryd.zeroValue5
  t9 := Tryd.underlying9
  a9 := Tryd.isAgg9
  z9 := Tryd.sizeOf9
  v9 := Tryd.zeroValue9
  t20 := Tryd.underlying20
  a20 := Tryd.isAgg20
  z20 := Tryd.sizeOf20
  v20 := Tryd.zeroValue20
  t37 := Tryd.underlying36
  a37 := Tryd.isAgg36
  z37 := Tryd.sizeOf36
  v37 := Tryd.zeroValue36
  t70 := Tryd.underlying44
  a70 := Tryd.isAgg44
  z70 := Tryd.sizeOf44
  v70 := Tryd.zeroValue44
  t72 := Tryd.underlying46
  a72 := Tryd.isAgg46
  z72 := Tryd.sizeOf46
  v72 := Tryd.zeroValue46
  t75 := Tryd.underlying41
  a75 := Tryd.isAgg41
  z75 := Tryd.sizeOf41
  v75 := Tryd.zeroValue41
  t164 := Tryd.underlying63
  a164 := Tryd.isAgg63
  z164 := Tryd.sizeOf63
  v164 := Tryd.zeroValue63 }
theorem Tryd.Builder_Extra_167 : Builder.Extra Tryd.prog Tryd.lays167_ren := {
  sizeBuilder := by kernel_rfl
  liesBuilder := by kernel_rfl
  t5 := Tryd.underlying5
  a5 := Tryd.isAgg5
  z5 := Tryd.sizeOf5
  v5 := Tryd.zeroValue5
  infoByte := by kernel_rfl
  cellsByte := by kernel_rfl
  sizeByte := by kernel_rfl
  neB5 := by decide }
def Tryd.lays169_ren : Go.Shelf.Ren := ⟨fun | 169 => 23 | n => n, fun | 0 => 0 | 3 => 3 | 9 => 9 | 37 => 36 | 70 => 44 | 72 => 46 | 127 => 56 | 5 => 5 | n => n, fun | n => n⟩
theorem Tryd.lays169 : Go.Proofs.Lays.n169 Tryd.prog Tryd.lays169_ren := {
  mixed := by kernel_rfl
  f169 := Tryd.func23.trans (congrArg some (by kernel_rfl))
  t0 := Tryd.underlying0
  a0 := Tryd.isAgg0
  z0 := Tryd.sizeOf0
  v0 := Tryd.zeroValue0
  t3 := Tryd.underlying3
  a3 := Tryd.isAgg3
  z3 := Tryd.sizeOf3
  v3 := Tryd.zeroValue3
  t9 := Tryd.underlying9
  a9 := Tryd.isAgg9
  z9 := Tryd.sizeOf9
  v9 := Tryd.zeroValue9
  t37 := Tryd.underlying36
  a37 := Tryd.isAgg36
  z37 := Tryd.sizeOf36
  v37 := Tryd.zeroValue36
  t70 := Tryd.underlying44
  a70 := Tryd.isAgg44
  z70 := Tryd.sizeOf44
  v70 := Tryd.zeroValue44
  t72 := Tryd.underlying46
  a72 := Tryd.isAgg46
  z72 := Tryd.sizeOf46
  v72 := Tryd.zeroValue46
  t127 := Tryd.underlying56
  a127 := Tryd.isAgg56
  z127 := Tryd.sizeOf56
  v127 := Tryd.zeroValue56 }
theorem Tryd.Builder_Extra_169 : Builder.Extra Tryd.prog Tryd.lays169_ren := {
  sizeBuilder := by kernel_rfl
  liesBuilder := by kernel_rfl
  t5 := Tryd.underlying5
  a5 := Tryd.isAgg5
  z5 := Tryd.sizeOf5
  v5 := Tryd.zeroValue5
  infoByte := by kernel_rfl
  cellsByte := by kernel_rfl
  sizeByte := by kernel_rfl
  neB5 := by decide }
open Go.RowKit in
theorem Tryd.Builder_Grow_fresh (B b n : Nat) (w : World) (hB : B ≤ b) (hbk : w.heap[b]? = some (.cells #[.pointer none, .slice none 0 0] 46 (0, 0))) (hBw : B ≤ w.heap.size) (hn : n ≤ 281474976710656) :
    Calls Tryd.prog 19 #[.pointer (some ⟨b, 0, none⟩), .int .i64 n] w fun e w' => e = .returned (.tuple #[]) ∧ (Lib.BuilderAt 46 5 B b (.pointer (some ⟨b, 0, none⟩)) [] w' ∧ Below B w w') := Any.Builder_Grow_fresh Tryd.lays165 Tryd.Builder_Extra_165 B b n w hB hbk hBw hn
open Go.RowKit in
theorem Tryd.Builder_WriteByte (B b : Nat) (bs : List Value) (c : Int) (w : World) (h : Lib.IsBuilder 46 5 B b bs w) (hlen : bs.length + 1 ≤ 140737488355328) (hBw : B ≤ w.heap.size) :
    Calls Tryd.prog 20 #[.pointer (some ⟨b, 0, none⟩), .int .u8 c] w fun e w' => e = .returned .nilIface ∧ (Lib.BuilderAt 46 5 B b (.pointer (some ⟨b, 0, none⟩)) (bs ++ [.int .u8 c]) w' ∧ Below B w w') := Any.Builder_WriteByte Tryd.lays167 Tryd.Builder_Extra_167 B b bs c w h hlen hBw
open Go.RowKit in
theorem Tryd.Builder_WriteString (B b : Nat) (bs : List Value) (s : ByteArray) (w : World) (h : Lib.IsBuilder 46 5 B b bs w) (hlen : bs.length + s.size ≤ 140737488355328) (hBw : B ≤ w.heap.size) :
    Calls Tryd.prog 21 #[.pointer (some ⟨b, 0, none⟩), .string s] w fun e w' => e = .returned (.tuple #[.int .i64 s.size, .nilIface]) ∧ (Lib.BuilderAt 46 5 B b (.pointer (some ⟨b, 0, none⟩)) (bs ++ Lib.strCells s) w' ∧ Below B w w') := Any.Builder_WriteString Tryd.lays166 Tryd.Builder_Extra_166 B b bs s w h hlen hBw
open Go.RowKit in
theorem Tryd.Builder_String_any (B b : Nat) (l : List UInt8) (w : World) (h : Lib.IsBuilder 46 5 B b (Lib.byteCells l) w) (hBw : B ≤ w.heap.size) :
    Calls Tryd.prog 23 #[.pointer (some ⟨b, 0, none⟩)] w fun e w' => e = .returned (.string ⟨l.toArray⟩) ∧ Below B w w' := Any.Builder_String_any Tryd.lays169 Tryd.Builder_Extra_169 B b l w h hBw
end Go.Proofs
