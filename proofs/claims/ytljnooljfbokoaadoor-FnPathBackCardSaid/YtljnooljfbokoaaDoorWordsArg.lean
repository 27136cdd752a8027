/- A list of words among the arguments, opened as the walks ask for it. -/
import Derived.Test.YtljnooljfbokoaaDoorWMore
import Derived.SliceStrings
import Derived.ProofKit
namespace Go.Proofs.YtljnooljfbokoaaDoor.WordsArg
open Go.RowKit Go.Proofs.YtljnooljfbokoaaDoorW.PrintWords Go.Proofs.YtljnooljfbokoaaDoorW.PrintLast Go.Proofs.YtljnooljfbokoaaDoorW.PrintMore
open Go.ChangeShapes Go.WideShapes

/-- What a walk is told of a list of words that came in. -/
def IsWords (w : World) (a : Option Addr) (len cap : Nat) (l : List ByteArray) : Prop := Kd.C Kd.string w a l.length l ∧ l.length = len ∧ len ≤ cap

theorem open_words {H : Type} {enc : TypeId × Value → H} {P : Program} {w : World} {base : Nat} {spare : Nat → Bool} {held : Bool} {t e : TypeId} {a : Option Addr} {len cap : Nat} {fuel : Nat} {x : DataW H × List MemPlace}
    (ht : P.underlying t = some (.slice e)) (he : P.underlying e = some .string) (hc : P.cellsOf e = 1)
    (h : DataW.trod enc P w base spare held fuel t [.slice a len cap] = some x) : ∃ l, IsWords w a len cap l := by
  rcases open_strings ht he hc h with ⟨hcs, _⟩ | ⟨ad, l, c, ss, hcs, _, hl, hm, hz, _, hcell, _⟩
  · simp at hcs
    obtain ⟨rfl, rfl, rfl⟩ := hcs
    exact ⟨[], Kd.C_nil _ _, rfl, Nat.le_refl _⟩
  · simp at hcs
    obtain ⟨rfl, rfl, rfl⟩ := hcs
    have hlen : len ≤ ss.length := by rw [hz]; split <;> omega
    have hL : (ss.take len).length = len := List.length_take_of_le hlen
    refine ⟨ss.take len, ?_, hL, hl⟩
    refine Kd.C_of_reads (d := ByteArray.empty) ⟨rfl, by rw [hL]; unfold maxLen at hm; omega, fun _ => ⟨ad, rfl, fun j hj => ?_⟩⟩
    rw [hL] at hj
    rw [hcell j (by omega)]
    simp [List.getD_eq_getElem?_getD, hj]
end Go.Proofs.YtljnooljfbokoaaDoor.WordsArg
