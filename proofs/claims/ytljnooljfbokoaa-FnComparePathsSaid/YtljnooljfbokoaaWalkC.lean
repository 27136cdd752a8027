/- The walks of the laws FnHasPrefix and FnComparePaths, for every two lists of words. -/
import Derived.Test.YtljnooljfbokoaaWalkB
namespace Go.Proofs.Ytljnooljfbokoaa.WalkC
open Go.RowKit Go.Proofs.YtljnooljfbokoaaW.PrintWords Go.Proofs.YtljnooljfbokoaaW.PrintLast Go.Proofs.YtljnooljfbokoaaW.PrintMore
open Go.Proofs.Ytljnooljfbokoaa.Plain Go.Proofs.Ytljnooljfbokoaa.WalkA Go.Proofs.Ytljnooljfbokoaa.WalkB
set_option linter.unusedVariables false
set_option linter.unusedSimpArgs false


/-- What a law leaves. -/
def Holds (w : World) (e : Ending) (w' : World) : Prop := e = .returned (.bool true) ∧ Below w.heap.size w w'

theorem begins_one (a : ByteArray) : begins [a] [] = true := by simp [begins, eqW]

theorem cmpW_ab : cmpW [⟨#[97]⟩] [⟨#[98]⟩] = -1 := by
  have : cmpB ⟨#[97]⟩ ⟨#[98]⟩ = -1 := by decide +kernel
  rw [cmpW, this, if_neg (by decide)]

theorem compare_ab (W : World) (g : Nat) (t : TypeId) (hg : W.heap.size = g) : Calls Try.prog 13 #[.slice (some ⟨g, 0, none⟩) 1 1, .slice (some ⟨g + 1, 0, none⟩) 1 1]
    ((W.alloc (.cells #[.string ⟨#[97]⟩] t)).alloc (.cells #[.string ⟨#[98]⟩] t)) fun e w' => e = .returned (.int .i64 (-1)) ∧ (W.alloc (.cells #[.string ⟨#[97]⟩] t)).alloc (.cells #[.string ⟨#[98]⟩] t) = w' := by
  subst hg
  have hb := one_reads (W.alloc (.cells #[.string ⟨#[97]⟩] t)) ⟨#[98]⟩ t
  have hs : (W.alloc (.cells #[.string ⟨#[97]⟩] t)).heap.size = W.heap.size + 1 := by simp [go_sem]
  rw [hs] at hb
  have := impl_compare (some ⟨W.heap.size, 0, none⟩) 1 [⟨#[97]⟩] (some ⟨W.heap.size + 1, 0, none⟩) 1 [⟨#[98]⟩] _ (Kd.C_alloc (one_reads W ⟨#[97]⟩ t) (.cells #[.string ⟨#[98]⟩] t)) hb
  rw [cmpW_ab] at this
  exact this

section
variable (A0 : Option Addr) (c0 : Nat) (l0 : List ByteArray) (A1 : Option Addr) (c1 : Nat) (l1 : List ByteArray) (w : World)
  (h0 : Kd.C Kd.string w A0 l0.length l0) (h1 : Kd.C Kd.string w A1 l1.length l1) (hc0 : l0.length ≤ c0)

theorem hasPrefix_one (a : ByteArray) (W : World) (t : TypeId) : Calls Try.prog 7 #[.slice (some ⟨W.heap.size, 0, none⟩) 1 1, .slice none 0 0] (W.alloc (.cells #[.string a] t)) (Tells (.bool true) (W.alloc (.cells #[.string a] t))) := by
  have := impl_hasPrefix (some ⟨W.heap.size, 0, none⟩) 1 [a] none 0 [] (W.alloc (.cells #[.string a] t)) (one_reads W a t) (Kd.C_nil _ _) (by simp)
  rw [begins_one] at this
  exact this

include h0 h1 hc0
theorem law_hasPrefix : Calls Try.prog 3 #[.slice A0 l0.length c0, .slice A1 l1.length c1] w (Holds w) := by
  have F0 := Aside0.mk (zzFits2_any A0 l0 c0 w h0)
  have F1 := Aside0.mk (zzFits2_any A1 l1 c1 w h1)
  by_cases f0 : fitsB l0 = true
  · rw [f0] at F0
    by_cases f1 : fitsB l1 = true
    · rw [f1] at F1
      have H := Aside0.mk (impl_hasPrefix A0 c0 l0 A1 c1 l1 w h0 h1 hc0)
      have G := Aside0.mk (fun n => spec_begins A0 c0 l0 A1 c1 l1 (w.drewN n) (Kd.C_drewN h0 n) (Kd.C_drewN h1 n) hc0)
      clear f0 f1 h0 h1
      go_enter Try.func3, Try.ntmps3
      go_wp2_with (first | (go_at_call 6; first | ((with_reducible refine (F0.out).mono ?_); rintro e w' ⟨rfl, rfl⟩) | ((with_reducible refine (F1.out).mono ?_); rintro e w' ⟨rfl, rfl⟩)) | (go_at_call 7; first | ((with_reducible refine (H.out).mono ?_); rintro e w' ⟨rfl, ⟨n1, rfl⟩⟩) | (refine (hasPrefix_one _ _ _).mono ?_; rintro e w' ⟨rfl, ⟨n3, rfl⟩⟩)) | (go_at_call 8; (with_reducible refine (G.out _).mono ?_); rintro e w' ⟨rfl, ⟨n2, rfl⟩⟩))
      go_ret
      exact ⟨rfl, by repeat (first | exact Below.refl _ _ | apply below_alloc | apply pw_below_drewN | apply below_drew)⟩
    · replace f1 : fitsB l1 = false := by simpa using f1
      rw [f1] at F1
      clear f0 f1 h0 h1
      go_enter Try.func3, Try.ntmps3
      go_wp2_with (go_at_call 6; first | ((with_reducible refine (F0.out).mono ?_); rintro e w' ⟨rfl, rfl⟩) | ((with_reducible refine (F1.out).mono ?_); rintro e w' ⟨rfl, rfl⟩))
      go_ret
      exact ⟨rfl, by repeat (first | exact Below.refl _ _ | apply below_alloc | apply pw_below_drewN | apply below_drew)⟩
  · replace f0 : fitsB l0 = false := by simpa using f0
    rw [f0] at F0
    clear f0 F1 h0 h1
    go_enter Try.func3, Try.ntmps3
    go_wp2_with (go_at_call 6; (with_reducible refine (F0.out).mono ?_); rintro e w' ⟨rfl, rfl⟩)
    go_ret
    exact ⟨rfl, by repeat (first | exact Below.refl _ _ | apply below_alloc | apply pw_below_drewN | apply below_drew)⟩

omit hc0 in
theorem law_compare : Calls Try.prog 5 #[.slice A0 l0.length c0, .slice A1 l1.length c1] w (Holds w) := by
  have F0 := Aside0.mk (zzFits2_any A0 l0 c0 w h0)
  have F1 := Aside0.mk (zzFits2_any A1 l1 c1 w h1)
  by_cases f0 : fitsB l0 = true
  · rw [f0] at F0
    by_cases f1 : fitsB l1 = true
    · rw [f1] at F1
      have H := Aside0.mk (compare_any A0 c0 l0 A1 c1 l1 w h0 h1)
      have G := Aside0.mk (fun n => impl_compare A0 c0 l0 A1 c1 l1 (w.drewN n) (Kd.C_drewN h0 n) (Kd.C_drewN h1 n))
      have E := Aside0.mk (fun n => impl_equal A0 c0 l0 A1 c1 l1 (w.drewN n) (Kd.C_drewN h0 n) (Kd.C_drewN h1 n))
      have HZ := cmpW_zero l0 l1
      obtain ⟨c, hcc⟩ : ∃ c, cmpW l0 l1 = c := ⟨_, rfl⟩
      rw [hcc] at H G HZ
      rw [← HZ] at E
      clear f0 f1 h0 h1 hcc HZ
      go_enter Try.func5, Try.ntmps5
      go_wp2_with (first | (go_at_call 6; first | ((with_reducible refine (F0.out).mono ?_); rintro e w' ⟨rfl, rfl⟩) | ((with_reducible refine (F1.out).mono ?_); rintro e w' ⟨rfl, rfl⟩)) | (go_at_call 12; (with_reducible refine (H.out).mono ?_); rintro e w' ⟨rfl, ⟨n1, rfl⟩⟩) | (go_at_call 13; first | ((with_reducible refine (G.out _).mono ?_); rintro e w' ⟨rfl, rfl⟩) | ((with_reducible refine (compare_ab _ _ _ ?hg).mono ?_); (case hg => rfl); rintro e w' ⟨rfl, rfl⟩)) | (go_at_call 14; (with_reducible refine (E.out _).mono ?_); rintro e w' ⟨rfl, ⟨n2, rfl⟩⟩))
      go_ret
      exact ⟨rfl, by repeat (first | exact Below.refl _ _ | apply below_alloc | apply pw_below_drewN | apply below_drew)⟩
    · replace f1 : fitsB l1 = false := by simpa using f1
      rw [f1] at F1
      clear f0 f1 h0 h1
      go_enter Try.func5, Try.ntmps5
      go_wp2_with (go_at_call 6; first | ((with_reducible refine (F0.out).mono ?_); rintro e w' ⟨rfl, rfl⟩) | ((with_reducible refine (F1.out).mono ?_); rintro e w' ⟨rfl, rfl⟩))
      go_ret
      exact ⟨rfl, by repeat (first | exact Below.refl _ _ | apply below_alloc | apply pw_below_drewN | apply below_drew)⟩
  · replace f0 : fitsB l0 = false := by simpa using f0
    rw [f0] at F0
    clear f0 F1 h0 h1
    go_enter Try.func5, Try.ntmps5
    go_wp2_with (go_at_call 6; (with_reducible refine (F0.out).mono ?_); rintro e w' ⟨rfl, rfl⟩)
    go_ret
    exact ⟨rfl, by repeat (first | exact Below.refl _ _ | apply below_alloc | apply pw_below_drewN | apply below_drew)⟩
end
end Go.Proofs.Ytljnooljfbokoaa.WalkC
