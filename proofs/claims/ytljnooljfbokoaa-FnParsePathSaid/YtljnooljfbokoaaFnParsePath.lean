/- PROVED HERE: the law FnParsePath returns true for every text, and leaves its argument as it was.
   Conditions: none beyond the row's own (the argument within the reach of the form). -/
import Derived.Test.YtljnooljfbokoaaRows
import Derived.Test.YtljnooljfbokoaaWalkB
import Derived.Test.YtljnooljfbokoaaParseB
import Derived.WalkKit
import Derived.ProofKit
import Derived.OpenShut
import Derived.ShutString
import Derived.ChangeOld
import Derived.Below
namespace Go.Proofs.Ytljnooljfbokoaa.fnParsePath
open Go.RowKit Go.Proofs.YtljnooljfbokoaaW.PrintWords Go.Proofs.YtljnooljfbokoaaW.PrintLast Go.Proofs.YtljnooljfbokoaaW.PrintMore
open Go.Proofs.Ytljnooljfbokoaa.Plain Go.Proofs.Ytljnooljfbokoaa.WalkA Go.Proofs.Ytljnooljfbokoaa.WalkB Go.Proofs.Ytljnooljfbokoaa.Pieces Go.Proofs.Ytljnooljfbokoaa.ParseA Go.Proofs.Ytljnooljfbokoaa.ParseB
open Go.ChangeShapes Go.WideShapes Go.ChangeAt
open Go.ChangeMaps (open_string shut_string)
set_option linter.unusedVariables false
set_option linter.unusedSimpArgs false

/-- A path and whether it is one, handed back in new memory. -/
def Paths (w : World) (l : List ByteArray) (ok : Bool) (e : Ending) (w' : World) : Prop :=
  ∃ A c, e = .returned (.tuple #[.slice A l.length c, .bool ok]) ∧ Aside0 (Kd.C Kd.string w' A l.length l) ∧ Aside0 (Below w.heap.size w w')

theorem spec_any (s : ByteArray) (hs : s.size ≤ 2147483647) (w : World) : Calls Try.prog 9 #[.string s] w (Paths w (parse s.data.toList).1 (parse s.data.toList).2) := by
  obtain ⟨k, hk⟩ := spec_parse s hs
  refine (PFnParsePath.spec_ParsePath.calls k s _ _ w hk).mono ?_
  rintro e w' ⟨v, rfl, hr, hb⟩
  obtain ⟨A, c, rfl, hl, hc⟩ := Kd.R_reads hr
  exact ⟨A, c, rfl, ⟨hc⟩, ⟨hb⟩⟩

theorem pkg_any (s : ByteArray) (hs : s.size ≤ 2147483647) (w : World) : Calls Try.prog 10 #[.string s] w (Paths w (parse s.data.toList).1 (parse s.data.toList).2) := by
  obtain ⟨k, hk⟩ := pkg_parse s hs
  refine (PFnParsePath.impl_ParsePath.calls k s _ _ w hk).mono ?_
  rintro e w' ⟨v, rfl, hr, hb⟩
  obtain ⟨A, c, rfl, hl, hc⟩ := Kd.R_reads hr
  exact ⟨A, c, rfl, ⟨hc⟩, ⟨hb⟩⟩

theorem pkg_a (w : World) : Calls Try.prog 10 #[.string ⟨#[47, 97]⟩] w (Paths w [mk [97]] true) :=
  pkg_any ⟨#[47, 97]⟩ (by decide) w

theorem eqW_same : ∀ l : List ByteArray, eqW l l = true
  | [] => by simp [eqW]
  | a :: l => by simp [eqW, eqW_same l]

/-- What the law leaves. -/
def Holds (w : World) (e : Ending) (w' : World) : Prop := e = .returned (.bool true) ∧ Below w.heap.size w w'

theorem walk (s : ByteArray) (w : World) : Calls Try.prog 4 #[.string s] w (Holds w) := by
  by_cases hs : s.size ≤ 2147483647
  · obtain ⟨l, hl⟩ : ∃ l, (parse s.data.toList).1 = l := ⟨_, rfl⟩
    obtain ⟨ok, hok⟩ : ∃ ok, (parse s.data.toList).2 = ok := ⟨_, rfl⟩
    have HS := Aside0.mk (spec_any s hs)
    have HP := Aside0.mk (pkg_any s hs)
    rw [hl, hok] at HS HP
    clear hl hok
    have hokb : (ok == ok) = true := by simp
    go_enter Try.func4, Try.ntmps4
    go_wp2_with fail
    refine (HS.out _).mono ?_
    rintro e w1 ⟨A1, c1, rfl, HC1, HB1⟩
    go_wp2_with fail
    refine (HP.out _).mono ?_
    rintro e w2 ⟨A2, c2, rfl, HC2, HB2⟩
    go_wp2_with fail
    refine (pkg_a _).mono ?_
    rintro e w3 ⟨A3, c3, rfl, HC3, HB3⟩
    have HW := Aside0.mk (words_any A2 c2 l A1 c1 l w3 (Kd.C_below HC2.out HB3.out) (Kd.C_below (Kd.C_below HC1.out HB2.out) HB3.out))
    rw [eqW_same l] at HW
    go_wp2_with fail
    refine (HW.out).mono ?_
    rintro e w4 ⟨rfl, ⟨n4, rfl⟩⟩
    go_wp2_with fail
    go_ret
    exact ⟨rfl, pw_below_drewN (below_step (below_step HB1.out HB2.out) HB3.out) _⟩
  · go_enter Try.func4, Try.ntmps4
    go_wp2
    go_ret
    exact ⟨rfl, Below.refl _ _⟩

theorem own : ownKnob Try.prog.godebug = none := by kernel_rfl
set_option maxRecDepth 100000 in
theorem lifted (os : Os) (started : os.Started) (H : Type) (enc : TypeId × Value → H) :
    ReturnsInHanded {} Try.checked os 4 .any (Rows.fnParsePathSpec.pre6 enc Try.prog Try.f4 Rows.fnParsePathRow.domain false) (Rows.fnParsePathSpec.post enc Try.prog Try.f4 false true false false) := by
  refine returnsInHanded_of_change (C := Try.checked) own started (by kernel_rfl) Try.func4
    (ChangeSpec.witness6 (enc := enc) (C := Try.checked) false ⟨#[], #[.string ByteArray.empty], []⟩ 8 (by kernel_rfl) (by kernel_rfl) (by kernel_rfl) (by kernel_rfl)) ?_
  intro W base args ds gs before hval0 hW hcnd _
  have hval : ∀ (j : Nat) t v, Try.f4.params[j]? = some t → args[j]? = some v → Value.okWide Try.prog W .any base t v := hval0
  have hW' := hW
  obtain ⟨p, q, hA0, hV, rfl, hfz, hnd⟩ := hW
  have hA : DataW.TrodAll enc Try.prog W 0 (fun _ => true) true Try.f4.params.toList args.toList ds p := hA0
  rw [Try.params4] at hA hval
  obtain ⟨v0, vs0, d0, ds0, p0, q0, hargs, rfl, rfl, h0, r0⟩ := trodAll_cons hA
  obtain ⟨rfl, rfl, rfl⟩ := trodAll_nil r0
  obtain rfl : args = #[v0] := by cases args; simp_all
  obtain ⟨rfl, rfl⟩ := trodVars_none hV
  obtain ⟨a0, rfl, rfl, rfl, y0⟩ := open_string Try.underlying9 (hval 0 9 v0 rfl rfl) h0
  clear hA0 hval0
  refine (walk a0 W).mono fun e W' ⟨he, bel⟩ => ?_
  subst he
  exact ⟨_, rfl, _, _, _, [], _, [], hW', trodAll_mk1 (shut_bool Try.underlying4 _), (trodAll_cons_mk (shut_string Try.underlying9 y0) trodAll_mk0), rfl, bel.frame _, fun h => by cases h⟩
theorem over : Rows.fnParsePathRow.holds Try.pinned (OpenSpec.ofChange Rows.fnParsePathSpec) :=
  OpenClaim.holds_of_wide 4 Try.f4 rfl rfl rfl rfl rfl rfl rfl ⟨rfl, rfl, rfl, rfl, rfl⟩ rfl rfl rfl rfl rfl (by kernel_rfl) Try.func4 (by kernel_rfl)
    (of_decide_eq_true (by kernel_rfl)) (by unfold Func.isWrapper; first | (rw [if_pos (by decide +kernel)]; kernel_rfl) | (rw [if_neg (by decide +kernel)]; exact ⟨rfl, rfl⟩))
    (fun os started H enc _ => lifted os started H enc)
theorem proved : Rows.FnParsePathSaid := over
#print axioms proved
end Go.Proofs.Ytljnooljfbokoaa.fnParsePath
namespace Go.Proofs.Ytljnooljfbokoaa
/-- The row, under a short name, for the claim. -/
theorem fnParsePath_holds : Rows.FnParsePathSaid := fnParsePath.proved
end Go.Proofs.Ytljnooljfbokoaa
