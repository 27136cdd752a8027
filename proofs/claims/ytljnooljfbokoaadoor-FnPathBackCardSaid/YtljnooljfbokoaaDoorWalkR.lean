/- What a law leaves; a path handed back, as later calls read it. -/
import Derived.Test.YtljnooljfbokoaaDoorWalkE
namespace Go.Proofs.YtljnooljfbokoaaDoor.WalkL
open Go.RowKit Go.Proofs.YtljnooljfbokoaaDoorW.PrintWords Go.Proofs.YtljnooljfbokoaaDoorW.PrintLast Go.Proofs.YtljnooljfbokoaaDoorW.PrintMore
open Go.Proofs.YtljnooljfbokoaaDoor.Plain Go.Proofs.YtljnooljfbokoaaDoor.WalkA Go.Proofs.YtljnooljfbokoaaDoor.WalkB Go.Proofs.YtljnooljfbokoaaDoor.Pieces
open Go.Proofs.YtljnooljfbokoaaDoor.Table Go.Proofs.YtljnooljfbokoaaDoor.WalkE
set_option linter.unusedVariables false
set_option linter.unusedSimpArgs false

/-- What a law leaves. -/
def Holds (w : World) (e : Ending) (w' : World) : Prop := e = .returned (.bool true) ∧ Below w.heap.size w w'

theorem eqW_same : ∀ l : List ByteArray, eqW l l = true
  | [] => by simp [eqW]
  | a :: l => by simp [eqW, eqW_same l]

/-- A path handed back, as later calls read it. -/
def PathsR (w : World) (l : List ByteArray) (ok : Bool) (e : Ending) (w' : World) : Prop :=
  ∃ A c, e = .returned (.tuple #[.slice A l.length c, .bool ok]) ∧ Aside0 (Kd.C Kd.string w' A l.length l) ∧ Aside0 (Below w.heap.size w w')
theorem Paths.reads {w : World} {l : List ByteArray} {ok : Bool} {e : Ending} {w' : World} (h : Paths w l ok e w') : PathsR w l ok e w' := by
  obtain ⟨v, rfl, HO, HB⟩ := h
  obtain ⟨A, c, rfl, hl, hc⟩ := Kd.R_reads HO.out
  exact ⟨A, c, rfl, ⟨hc⟩, HB⟩
end Go.Proofs.YtljnooljfbokoaaDoor.WalkL
