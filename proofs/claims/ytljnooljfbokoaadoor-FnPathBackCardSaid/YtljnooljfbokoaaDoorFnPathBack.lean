/- PROVED HERE: the law FnPathBack returns true for every list of words and leaves its argument as it was,
   where the library's variable net/url.table reads as the program's own initialiser lays it (the card ties that to the program's text). -/
import Derived.Test.YtljnooljfbokoaaDoorCards
import Derived.Test.YtljnooljfbokoaaDoorTie
import Derived.Test.YtljnooljfbokoaaDoorWalkP
import Derived.Test.YtljnooljfbokoaaDoorWordsArg
import Derived.ProofKit
import Derived.LaidMore
import Derived.OpenShut
import Derived.ShutString
import Derived.Stop.Joined
import Derived.Lib.LaidTab
import Derived.SevenTiedAt
namespace Go.Proofs.YtljnooljfbokoaaDoor.fnPathBack
open Go.ChangeShapes Go.WideShapes Go.ChangeAt Go.WideMaps Go.WideElems Go.RowKit
open Go.ChangeMaps (open_string shut_string)
open Go.Proofs.YtljnooljfbokoaaDoor.Table Go.Proofs.YtljnooljfbokoaaDoor.WalkP Go.Proofs.YtljnooljfbokoaaDoor.WordsArg
set_option linter.unusedVariables false

theorem own : ownKnob Tryd.prog.godebug = none := by kernel_rfl
theorem laidOut : laidOutB Tryd.prog = true := by kernel_rfl
theorem gTable : Tryd.prog.globalNamed "net/url.table" = some 0 := by kernel_rfl
theorem tTable : (Tryd.prog.globals[0]?).map (·.type) = some 67 := by kernel_rfl

/-- What the row lists, as the table's numbers. -/
theorem laid_tab : (Rows.fnPathBackRow.laid) = [("net/url.table", (Lib.tabData .u8 tab : DataW Unit))] := by kernel_rfl

/-- The door's own heap meets the condition. -/
theorem door_met (os : Os) (args : Array Value) : laidMetH Tryd.prog Rows.fnPathBackRow.laid ((World.doorLaid Tryd.prog 14 os).forCall (fun _ _ => 0) ⟨#[], args, []⟩).memory :=
  laidMetH_of_parts3 (fuel := 8) (laidMet_of_run' 8 (by kernel_rfl) (by kernel_rfl)) (by kernel_rfl) (by kernel_rfl)

/-- What the condition gives the walks: the table's cells. -/
theorem of_laid {W : World} (h : laidMetH Tryd.prog Rows.fnPathBackRow.laid W) : Tb W := by
  rw [MakeChecks.laidMetH_plain _ _ _ (by kernel_rfl)] at h
  rw [laid_tab] at h
  have hT : Lib.TabIs Tryd.prog W "net/url.table" .u8 tab := Lib.tabIs_of_head gTable tTable Tryd.underlying67 Tryd.underlying54 (by kernel_rfl) (by kernel_rfl) h
  intro i hi
  exact hT.cell gTable i (by show i < tab.length; rw [show tab.length = 256 from by decide +kernel]; exact hi)

set_option maxRecDepth 100000 in
theorem lifted (os : Os) (started : os.Started) (H : Type) (enc : TypeId × Value → H) :
    ReturnsInHanded {} Tryd.checked os 4 .any (fun w args => (Rows.fnPathBackSpec.pre enc Tryd.prog Tryd.f4 [] false w args ∧ laidMetH Tryd.prog Rows.fnPathBackRow.laid w) ∧ sizedMet enc Tryd.prog Tryd.f4 (OpenSpec.ofChange Rows.fnPathBackSpec) false w args)
      (Rows.fnPathBackSpec.post enc Tryd.prog Tryd.f4 false true false false) := by
  refine returnsInHanded_of_change_and (C := Tryd.checked) (X := fun w _ => laidMetH Tryd.prog Rows.fnPathBackRow.laid w) (fun _ _ _ hh h => h.of_heap hh) own started (by kernel_rfl) Tryd.func4
    (ChangeSpec.witness_shaped (enc := enc) (C := Tryd.checked) (os := os) (X := fun w _ => laidMetH Tryd.prog Rows.fnPathBackRow.laid w) false (World.doorLaid Tryd.prog 14 os) #[.slice none 0 0] 8 rfl (World.shaped_of_RefB (by kernel_rfl) (by kernel_rfl)) (by kernel_rfl) (by kernel_rfl) (by kernel_rfl) (door_met os _)) ?_
  intro W base args ds gs before hval0 hW _ _ hL _
  have hval : ∀ (j : Nat) t v, Tryd.f4.params[j]? = some t → args[j]? = some v → Value.okWide Tryd.prog W .any base t v := hval0
  have hW' := hW
  obtain ⟨p, q, hA0, hV, rfl, hfz, hnd⟩ := hW
  have hA : DataW.TrodAll enc Tryd.prog W 0 (fun _ => true) true Tryd.f4.params.toList args.toList ds p := hA0
  rw [Tryd.params4] at hA hval
  obtain ⟨v0, vs0, d0, ds0, p0, q0, hargs, rfl, rfl, h0, r0⟩ := trodAll_cons hA
  obtain ⟨rfl, rfl, rfl⟩ := trodAll_nil r0
  obtain rfl : args = #[v0] := by cases args; simp_all
  obtain ⟨rfl, rfl⟩ := trodVars_none hV
  obtain ⟨a0, len0, cap0, rfl⟩ := okWide_slice Tryd.underlying22 (hval 0 22 v0 rfl rfl)
  have k0 := h0
  have lt0 : ∀ x ∈ p0, x.block < W.heap.size := by obtain ⟨m, hm⟩ := k0; exact DataW.trod_lt m _ _ _ hm
  obtain ⟨l0, w0, rfl, e0⟩ : ∃ l, IsWords W a0 len0 cap0 l := by
    obtain ⟨fuel, hf⟩ := h0
    exact open_words Tryd.underlying22 Tryd.underlying9 (by kernel_rfl) (by simpa [Value.cells] using hf)
  have hT := of_laid hL
  clear hA0 hval0
  refine (law_back a0 cap0 l0 W w0 hT).mono fun e W' ⟨he, bel⟩ => ?_
  subst he
  exact ⟨_, rfl, _, _, _, [], _, [], hW', trodAll_mk1 (shut_bool Tryd.underlying4 _), (trodAll_cons_mk (Below.trod laidOut (by kernel_rfl) (of_decide_eq_true (by kernel_rfl)) k0 bel lt0) trodAll_mk0), rfl, bel.frame _, fun h => by cases h⟩

theorem row_holds : Rows.FnPathBackSaid :=
  OpenClaim.holds_of_wide 4 Tryd.f4 rfl rfl rfl rfl rfl rfl rfl ⟨rfl, rfl, rfl, rfl, rfl⟩ rfl rfl rfl rfl rfl (by kernel_rfl) Tryd.func4 (by kernel_rfl)
    (of_decide_eq_true (by kernel_rfl)) (by unfold Func.isWrapper; first | (rw [if_pos (by decide +kernel)]; kernel_rfl) | (rw [if_neg (by decide +kernel)]; exact ⟨rfl, rfl⟩))
    (fun os started H enc _ => lifted os started H enc)

theorem card_holds : Rows.FnPathBackCardSaid :=
  Claim7.holds_tied_plain_at .later [] [.data] true (true, "8c38b158a52c677be220eebe37728f11186e9cb1cfe12ee9d99b7c792a6b95b3") false
    row_holds (fun _ h => by cases h) (by kernel_rfl) (fun _ h => by cases h) fnPathBack_row_tie rfl ⟨rfl, rfl⟩ (by kernel_rfl) rfl
    (fun f fn hf hfn => by
      obtain rfl : f = 4 := Option.some.inj ((show Tryd.prog.funcNamed "opastore/laws.FnPathBack" = some 4 by kernel_rfl).symm.trans hf) |>.symm
      obtain rfl : fn = Tryd.f4 := (Option.some.inj (Tryd.func4.symm.trans hfn)).symm
      exact ⟨by kernel_rfl, fun j t ht => by
        rw [Tryd.params4] at ht
        have hm : t ∈ [22] := by simpa using Array.mem_of_getElem? ht
        have hall : ([22].all fun u => !Tryd.prog.wantsStandIn u) = true := by kernel_rfl
        exact (show Tryd.prog.wantsStandIn t = false by simpa using List.all_eq_true.1 hall t hm)⟩)
    (by kernel_rfl)
#print axioms card_holds
end Go.Proofs.YtljnooljfbokoaaDoor.fnPathBack
namespace Go.Proofs.YtljnooljfbokoaaDoor
/-- The card, under a short name, for the claim. -/
theorem fnPathBack_card_holds : Rows.FnPathBackCardSaid := fnPathBack.card_holds
end Go.Proofs.YtljnooljfbokoaaDoor
