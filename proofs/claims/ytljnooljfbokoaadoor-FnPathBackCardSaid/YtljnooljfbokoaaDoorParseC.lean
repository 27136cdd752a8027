/- A byte of a text, and the next place in it: plain words for the proofs on texts; no program in sight. -/
import Derived.Test.YtljnooljfbokoaaDoorWMore
import Derived.Test.YtljnooljfbokoaaDoorPieces
namespace Go.Proofs.YtljnooljfbokoaaDoor.ParseA
open Go.RowKit Go.Proofs.YtljnooljfbokoaaDoorW.PrintWords Go.Proofs.YtljnooljfbokoaaDoorW.PrintLast
open Go.Proofs.YtljnooljfbokoaaDoor.Pieces

theorem bt_data (s : ByteArray) (i : Nat) (h : i < s.data.toList.length) : bt s (i : Int) = (s.data.toList[i].toNat : Int) := by
  have hs : i < s.size := by rw [size_data] at h; exact h
  simp only [bt, Int.toNat_natCast, dif_pos hs]
  rw [Array.getElem_toList]
  rfl
theorem bt_slash (s : ByteArray) (i : Nat) (h : i < s.data.toList.length) : bt s (i : Int) = 47 ↔ s.data.toList[i] = 47 := by
  rw [bt_data s i h]
  constructor
  · intro e
    apply UInt8.toNat_inj.1
    have : (s.data.toList[i]).toNat = 47 := by omega
    rw [this]; rfl
  · intro e
    rw [e]; rfl
theorem wrap_next (i n : Nat) (h : i < n) (hn : n ≤ 2147483647) : wrap64 ((i : Int) + 1) = ((i + 1 : Nat) : Int) := by
  unfold wrap64
  omega
end Go.Proofs.YtljnooljfbokoaaDoor.ParseA
