/- A strings.Builder that a call has made itself, holding these bytes: Grow, WriteByte, WriteString, String. -/
import Derived.Test.YtljnooljfbokoaaDoorShelf
import Derived.Test.YtljnooljfbokoaaDoorPieces
import Derived.Test.YtljnooljfbokoaaDoorWMore
namespace Go.Proofs.YtljnooljfbokoaaDoor.Bld
open Go.RowKit Go.Proofs.YtljnooljfbokoaaDoorW.PrintWords Go.Proofs.YtljnooljfbokoaaDoorW.PrintLast Go.Proofs.YtljnooljfbokoaaDoorW.PrintMore
open Go.Proofs.YtljnooljfbokoaaDoor.Pieces
set_option linter.unusedVariables false

/-- A builder in block B, written on, that holds the bytes l. -/
def Bl (B : Nat) (l : List UInt8) (w : World) : Prop := Lib.BuilderAt 46 5 B B (.pointer (some ⟨B, 0, none⟩)) (Lib.byteCells l) w

theorem cells_snoc (l : List UInt8) (c : UInt8) : Lib.byteCells l ++ [.int .u8 (c.toNat : Int)] = Lib.byteCells (l ++ [c]) := by simp [Lib.byteCells]
theorem cells_app (l m : List UInt8) : Lib.byteCells l ++ Lib.byteCells m = Lib.byteCells (l ++ m) := by simp [Lib.byteCells]
theorem cells_len (l : List UInt8) : (Lib.byteCells l).length = l.length := by simp [Lib.byteCells]
theorem str_cells (s : ByteArray) : Lib.strCells s = Lib.byteCells s.data.toList := by simp [Lib.strCells, Lib.byteCells]

theorem Bl.drewN {B : Nat} {l : List UInt8} {w : World} (h : Bl B l w) (n : Nat) : Bl B l (w.drewN n) := h
theorem Bl.drew {B : Nat} {l : List UInt8} {w : World} (h : Bl B l w) : Bl B l w.drew := h

/-- What a builder's method leaves. -/
def Writes (B : Nat) (l : List UInt8) (v : Value) (w : World) (e : Ending) (w' : World) : Prop := e = .returned v ∧ Aside0 (Bl B l w') ∧ Aside0 (Below B w w')

theorem grow_new (w : World) (n : Int) (h0 : 0 ≤ n) (hn : n ≤ 281474976710656) :
    Calls Tryd.prog 19 #[.pointer (some ⟨w.heap.size, 0, none⟩), .int .i64 n] (w.alloc (.cells #[.pointer none, .slice none 0 0] 46)) (Writes w.heap.size [] (.tuple #[]) (w.alloc (.cells #[.pointer none, .slice none 0 0] 46))) := by
  obtain ⟨m, rfl⟩ := Int.eq_ofNat_of_zero_le h0
  refine (Tryd.Builder_Grow_fresh w.heap.size w.heap.size m _ (Nat.le_refl _) (heap_alloc_new w _) (by simp) (by omega)).mono ?_
  rintro e w' ⟨rfl, h1, h2⟩
  exact ⟨rfl, ⟨h1⟩, ⟨h2⟩⟩

theorem byte_any (B : Nat) (l : List UInt8) (c : UInt8) (w : World) (h : Bl B l w) (hl : l.length ≤ 70368744177664) (hB : B ≤ w.heap.size) :
    Calls Tryd.prog 20 #[.pointer (some ⟨B, 0, none⟩), .int .u8 (c.toNat : Int)] w (Writes B (l ++ [c]) .nilIface w) := by
  refine (Tryd.Builder_WriteByte B B (Lib.byteCells l) c.toNat w (Or.inr h) (by rw [cells_len]; omega) hB).mono ?_
  rintro e w' ⟨rfl, h1, h2⟩
  rw [cells_snoc] at h1
  exact ⟨rfl, ⟨h1⟩, ⟨h2⟩⟩

theorem string_any (B : Nat) (l : List UInt8) (s : ByteArray) (w : World) (h : Bl B l w) (hl : l.length + s.size ≤ 70368744177664) (hB : B ≤ w.heap.size) :
    Calls Tryd.prog 21 #[.pointer (some ⟨B, 0, none⟩), .string s] w (Writes B (l ++ s.data.toList) (.tuple #[.int .i64 s.size, .nilIface]) w) := by
  refine (Tryd.Builder_WriteString B B (Lib.byteCells l) s w (Or.inr h) (by rw [cells_len]; omega) hB).mono ?_
  rintro e w' ⟨rfl, h1, h2⟩
  rw [str_cells, cells_app] at h1
  exact ⟨rfl, ⟨h1⟩, ⟨h2⟩⟩

theorem text_any (B : Nat) (l : List UInt8) (w : World) (h : Bl B l w) (hB : B ≤ w.heap.size) :
    Calls Tryd.prog 23 #[.pointer (some ⟨B, 0, none⟩)] w fun e w' => e = .returned (.string (mk l)) ∧ Aside0 (Below B w w') := by
  refine (Tryd.Builder_String_any B B l w (Or.inr h) hB).mono ?_
  rintro e w' ⟨rfl, h2⟩
  exact ⟨rfl, ⟨h2⟩⟩
end Go.Proofs.YtljnooljfbokoaaDoor.Bld
