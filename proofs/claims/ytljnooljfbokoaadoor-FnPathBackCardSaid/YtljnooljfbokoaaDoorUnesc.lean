/- A word with its escapes replaced: a plain function on lists of bytes. -/
import Derived.Test.YtljnooljfbokoaaDoorTable
import Derived.Test.YtljnooljfbokoaaDoorParseC
namespace Go.Proofs.YtljnooljfbokoaaDoor.Unesc
open Go.RowKit Go.Proofs.YtljnooljfbokoaaDoorW.PrintWords Go.Proofs.YtljnooljfbokoaaDoorW.PrintLast
open Go.Proofs.YtljnooljfbokoaaDoor.Pieces Go.Proofs.YtljnooljfbokoaaDoor.ParseA Go.Proofs.YtljnooljfbokoaaDoor.Table

/-- The byte of two hexadecimal digits. -/
def escV (a b : UInt8) : UInt8 := UInt8.ofNat (16 * hexV a + hexV b)

/-- A word with its escapes replaced. -/
def unesc : List UInt8 → Option (List UInt8)
  | [] => some []
  | [c] => if c = 37 then none else some [c]
  | [c, d] => if c = 37 then none else if d = 37 then none else some [c, d]
  | c :: a :: b :: r => if c = 37 then (if hexB a && hexB b then (unesc r).map (escV a b :: ·) else none) else (unesc (a :: b :: r)).map (c :: ·)

theorem unesc_other {c : UInt8} (l : List UInt8) (h : ¬ c = 37) : unesc (c :: l) = (unesc l).map (c :: ·) := by
  match l with
  | [] => simp [unesc, h]
  | [d] => by_cases hd : d = 37 <;> simp [unesc, h, hd]
  | a :: b :: r => simp [unesc, h]
theorem unesc_esc (a b : UInt8) (r : List UInt8) (ha : hexB a = true) (hb : hexB b = true) : unesc (37 :: a :: b :: r) = (unesc r).map (escV a b :: ·) := by simp [unesc, ha, hb]
theorem unesc_bad (a b : UInt8) (r : List UInt8) (h : ¬ (hexB a = true ∧ hexB b = true)) : unesc (37 :: a :: b :: r) = none := by
  have : (hexB a && hexB b) = false := by
    cases ha : hexB a <;> cases hb : hexB b <;> simp_all
  simp [unesc, this]
theorem unesc_short (l : List UInt8) (h : l.length < 2) : unesc (37 :: l) = none := by
  match l with
  | [] => simp [unesc]
  | [d] => simp [unesc]
  | a :: b :: r => simp at h; omega

/-- Bytes as numbers. -/
def toInts (l : List UInt8) : List Int := l.map fun c => (c.toNat : Int)
theorem toInts_str (l : List UInt8) : strOfNums (toInts l) = mk l := by
  unfold strOfNums toInts mk
  congr 1
  rw [List.map_map]
  have : ((fun n : Int => UInt8.ofNat n.toNat) ∘ fun c : UInt8 => (c.toNat : Int)) = id := by
    funext c
    simp
  rw [this, List.map_id]
end Go.Proofs.YtljnooljfbokoaaDoor.Unesc
