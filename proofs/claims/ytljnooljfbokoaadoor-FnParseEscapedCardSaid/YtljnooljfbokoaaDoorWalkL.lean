/- The walk of the law FnParseEscaped, for every text, where the library's table holds what its initialiser lays. -/
import Derived.Test.YtljnooljfbokoaaDoorSpecE
import Derived.Test.YtljnooljfbokoaaDoorWalkR
namespace Go.Proofs.YtljnooljfbokoaaDoor.WalkL
open Go.RowKit Go.Proofs.YtljnooljfbokoaaDoorW.PrintWords Go.Proofs.YtljnooljfbokoaaDoorW.PrintLast Go.Proofs.YtljnooljfbokoaaDoorW.PrintMore
open Go.Proofs.YtljnooljfbokoaaDoor.Plain Go.Proofs.YtljnooljfbokoaaDoor.WalkA Go.Proofs.YtljnooljfbokoaaDoor.WalkB Go.Proofs.YtljnooljfbokoaaDoor.Pieces
open Go.Proofs.YtljnooljfbokoaaDoor.Table Go.Proofs.YtljnooljfbokoaaDoor.WalkE
set_option linter.unusedVariables false
set_option linter.unusedSimpArgs false

theorem escaped_a : parseEsc (⟨#[47, 97, 37, 50, 48]⟩ : ByteArray).data.toList = ([⟨#[97, 32]⟩], true) := by decide +kernel

theorem impl_a (w : World) (hT : Tb w) : Calls Tryd.prog 6 #[.string ⟨#[47, 97, 37, 50, 48]⟩] w (Paths w [⟨#[97, 32]⟩] true) := by
  have := impl_escaped ⟨#[47, 97, 37, 50, 48]⟩ (by decide) w hT
  rw [escaped_a] at this
  exact this

set_option maxHeartbeats 1000000 in
theorem law_escaped (s : ByteArray) (w : World) (hT : Tb w) : Calls Tryd.prog 3 #[.string s] w (Holds w) := by
  by_cases hs : s.size ≤ 2147483647
  · obtain ⟨l, hl⟩ : ∃ l, (parseEsc s.data.toList).1 = l := ⟨_, rfl⟩
    obtain ⟨ok, hok⟩ : ∃ ok, (parseEsc s.data.toList).2 = ok := ⟨_, rfl⟩
    have HT := Aside0.mk hT
    have HS := Aside0.mk (fun w => (spec_escaped s hs w).mono fun e w' h => Paths.reads h)
    have HP := Aside0.mk (fun w (hT : Tb w) => (impl_escaped s hs w hT).mono fun e w' h => Paths.reads h)
    have HA := Aside0.mk (fun w (hT : Tb w) => (impl_a w hT).mono fun e w' h => Paths.reads h)
    rw [hl, hok] at HS HP
    clear hl hok hT
    cases ok with
    | true =>
      go_enter Tryd.func3, Tryd.ntmps3
      go_wp2_with fail
      refine (HS.out _).mono ?_
      rintro e w1 ⟨A1, c1, rfl, HC1, HB1⟩
      go_wp2_with fail
      refine (HP.out _ (HT.out.below HB1.out)).mono ?_
      rintro e w2 ⟨A2, c2, rfl, HC2, HB2⟩
      go_wp2_with fail
      refine (HA.out _ ((HT.out.below HB1.out).below HB2.out)).mono ?_
      rintro e w3 ⟨A3, c3, rfl, HC3, HB3⟩
      have HW := Aside0.mk (words_any A2 c2 l A1 c1 l w3 (Kd.C_below HC2.out HB3.out) (Kd.C_below (Kd.C_below HC1.out HB2.out) HB3.out))
      rw [eqW_same l] at HW
      obtain ⟨ad, rfl, hcell0⟩ := at_ HC3.out 0 (by decide)
      have hcell : w3.cell? ad = some (.string ⟨#[97, 32]⟩) := by simpa [Addr.add] using hcell0
      clear hcell0
      go_wp2_with fail
      refine (HW.out).mono ?_
      rintro e w4 ⟨rfl, ⟨n4, rfl⟩⟩
      go_wp2_with fail
      go_ret
      exact ⟨rfl, pw_below_drewN (below_step (below_step HB1.out HB2.out) HB3.out) _⟩
    | false =>
      go_enter Tryd.func3, Tryd.ntmps3
      go_wp2_with fail
      refine (HS.out _).mono ?_
      rintro e w1 ⟨A1, c1, rfl, HC1, HB1⟩
      go_wp2_with fail
      refine (HP.out _ (HT.out.below HB1.out)).mono ?_
      rintro e w2 ⟨A2, c2, rfl, HC2, HB2⟩
      go_wp2_with fail
      refine (HA.out _ ((HT.out.below HB1.out).below HB2.out)).mono ?_
      rintro e w3 ⟨A3, c3, rfl, HC3, HB3⟩
      obtain ⟨ad, rfl, hcell0⟩ := at_ HC3.out 0 (by decide)
      have hcell : w3.cell? ad = some (.string ⟨#[97, 32]⟩) := by simpa [Addr.add] using hcell0
      clear hcell0
      go_wp2_with fail
      go_ret
      exact ⟨rfl, below_step (below_step HB1.out HB2.out) HB3.out⟩
  · go_enter Tryd.func3, Tryd.ntmps3
    go_wp2
    go_ret
    exact ⟨rfl, Below.refl _ _⟩
end Go.Proofs.YtljnooljfbokoaaDoor.WalkL
