/- The walks of the thin functions over paths: Path.Compare, Path.Equal, Path.HasPrefix, impl's wrappers, spec.Begins, laws.words. -/
import Derived.Test.YtljnooljfbokoaaWalkA
namespace Go.Proofs.Ytljnooljfbokoaa.WalkB
open Go.RowKit Go.Proofs.YtljnooljfbokoaaW.PrintWords Go.Proofs.YtljnooljfbokoaaW.PrintLast Go.Proofs.YtljnooljfbokoaaW.PrintMore
open Go.Proofs.Ytljnooljfbokoaa.Plain Go.Proofs.Ytljnooljfbokoaa.WalkA
set_option linter.unusedVariables false
set_option linter.unusedSimpArgs false

/-- Whether a path begins with another one. -/
def begins (l m : List ByteArray) : Bool := decide (m.length ≤ l.length) && eqW (l.take m.length) m

theorem begins_no {l m : List ByteArray} (h : ¬ m.length ≤ l.length) : begins l m = false := by simp [begins, h]
theorem begins_yes {l m : List ByteArray} (h : m.length ≤ l.length) : begins l m = eqW (l.take m.length) m := by simp [begins, h]

/-- A cut at its end reads as the first elements. -/
theorem take_reads {w : World} {A : Option Addr} {l : List ByteArray} {n : Nat} (h : Kd.C Kd.string w A l.length l) (hn : n ≤ l.length) : Kd.C Kd.string w A (l.take n).length (l.take n) :=
  Kd.C_take h hn

theorem info9 : (Try.prog.info? 9).map (fun i => (i.zero, i.size, i.bytes)) = some (some (.string ⟨#[]⟩), 1, 16) := by kernel_rfl

section
variable (A0 : Option Addr) (c0 : Nat) (l0 : List ByteArray) (A1 : Option Addr) (c1 : Nat) (l1 : List ByteArray) (w : World)
  (h0 : Kd.C Kd.string w A0 l0.length l0) (h1 : Kd.C Kd.string w A1 l1.length l1)
include h0 h1

theorem path_compare : Calls Try.prog 17 #[.slice A0 l0.length c0, .slice A1 l1.length c1] w fun e w' => e = .returned (.int .i64 (cmpW l0 l1)) ∧ w = w' := by
  have H := Aside0.mk (slices_compare A0 c0 l0 A1 c1 l1 w h0 h1)
  clear h0 h1
  go_enter Try.func17, Try.ntmps17
  go_wp2_with (go_at_call 20; refine (H.out).mono ?_; rintro e w' ⟨rfl, rfl⟩)
  go_ret
  exact ⟨rfl, rfl⟩

theorem impl_compare : Calls Try.prog 13 #[.slice A0 l0.length c0, .slice A1 l1.length c1] w fun e w' => e = .returned (.int .i64 (cmpW l0 l1)) ∧ w = w' := by
  have H := Aside0.mk (path_compare A0 c0 l0 A1 c1 l1 w h0 h1)
  clear h0 h1
  go_enter Try.func13, Try.ntmps13
  go_wp2_with (go_at_call 17; refine (H.out).mono ?_; rintro e w' ⟨rfl, rfl⟩)
  go_ret
  exact ⟨rfl, rfl⟩

theorem path_equal : Calls Try.prog 18 #[.slice A0 l0.length c0, .slice A1 l1.length c1] w (Tells (.bool (eqW l0 l1)) w) := by
  have H := Aside0.mk (slices_equal A0 c0 l0 A1 c1 l1 w h0 h1)
  clear h0 h1
  go_enter Try.func18, Try.ntmps18
  go_wp2_with (go_at_call 21; refine (H.out).mono ?_; rintro e w' ⟨rfl, ⟨n, rfl⟩⟩)
  go_ret
  exact ⟨rfl, Drawn0.step (Drawn0.refl _) _⟩

theorem impl_equal : Calls Try.prog 14 #[.slice A0 l0.length c0, .slice A1 l1.length c1] w (Tells (.bool (eqW l0 l1)) w) := by
  have H := Aside0.mk (path_equal A0 c0 l0 A1 c1 l1 w h0 h1)
  clear h0 h1
  go_enter Try.func14, Try.ntmps14
  go_wp2_with (go_at_call 18; refine (H.out).mono ?_; rintro e w' ⟨rfl, ⟨n, rfl⟩⟩)
  go_ret
  exact ⟨rfl, Drawn0.step (Drawn0.refl _) _⟩

theorem path_hasPrefix (hc0 : l0.length ≤ c0) : Calls Try.prog 15 #[.slice A0 l0.length c0, .slice A1 l1.length c1] w (Tells (.bool (begins l0 l1)) w) := by
  have hm0 := Kd.C_max h0
  have hm1 := Kd.C_max h1
  by_cases hle : l1.length ≤ l0.length
  · rw [begins_yes hle]
    have H := Aside0.mk (path_equal A0 c0 (l0.take l1.length) A1 c1 l1 w (take_reads h0 hle) h1)
    rw [List.length_take_of_le hle] at H
    clear h0 h1
    obtain ⟨i0, hi, hz0, hz1, hz2⟩ := info_parts info9
    have hcut := print_take_of (P := Try.prog) Value.string ByteArray.empty 29 9 .i64 Try.underlying29 hi hz1 A0 c0 l0 (l1.length : Int) (by omega) (by omega) hc0
    have hcut1 := hcut.1
    rw [Int.toNat_natCast, List.length_take_of_le hle] at hcut1
    clear hcut hi hz0 hz1 hz2
    have hd : decide ((l1.length : Int) ≤ (l0.length : Int)) = true := by simp; omega
    go_enter Try.func15, Try.ntmps15
    go_wp2_with (go_at_call 18; refine (H.out).mono ?_; rintro e w' ⟨rfl, ⟨n, rfl⟩⟩)
    go_ret
    exact ⟨rfl, Drawn0.step (Drawn0.refl _) _⟩
  · rw [begins_no hle]
    clear h0 h1
    go_enter Try.func15, Try.ntmps15
    go_wp2
    go_ret
    exact ⟨rfl, Drawn0.refl _⟩

theorem impl_hasPrefix (hc0 : l0.length ≤ c0) : Calls Try.prog 7 #[.slice A0 l0.length c0, .slice A1 l1.length c1] w (Tells (.bool (begins l0 l1)) w) := by
  have H := Aside0.mk (path_hasPrefix A0 c0 l0 A1 c1 l1 w h0 h1 hc0)
  clear h0 h1
  go_enter Try.func7, Try.ntmps7
  go_wp2_with (go_at_call 15; refine (H.out).mono ?_; rintro e w' ⟨rfl, ⟨n, rfl⟩⟩)
  go_ret
  exact ⟨rfl, Drawn0.step (Drawn0.refl _) _⟩

theorem spec_begins (hc0 : l0.length ≤ c0) : Calls Try.prog 8 #[.slice A0 l0.length c0, .slice A1 l1.length c1] w (Tells (.bool (begins l0 l1)) w) := by
  have hm0 := Kd.C_max h0
  have hm1 := Kd.C_max h1
  by_cases hle : l1.length ≤ l0.length
  · rw [begins_yes hle]
    have H := Aside0.mk (compare_any A0 c0 (l0.take l1.length) A1 c1 l1 w (take_reads h0 hle) h1)
    rw [List.length_take_of_le hle] at H
    have HZ := Aside0.mk (cmpW_zero (l0.take l1.length) l1)
    clear h0 h1
    obtain ⟨i0, hi, hz0, hz1, hz2⟩ := info_parts info9
    have hcut := print_take_of (P := Try.prog) Value.string ByteArray.empty 22 9 .i64 Try.underlying22 hi hz1 A0 c0 l0 (l1.length : Int) (by omega) (by omega) hc0
    have hcut1 := hcut.1
    rw [Int.toNat_natCast, List.length_take_of_le hle] at hcut1
    clear hcut hi hz0 hz1 hz2
    have hd : decide ((l1.length : Int) ≤ (l0.length : Int)) = true := by simp; omega
    obtain ⟨c, hcc⟩ : ∃ c, cmpW (l0.take l1.length) l1 = c := ⟨_, rfl⟩
    rw [hcc] at H HZ
    clear hcc
    go_enter Try.func8, Try.ntmps8
    go_wp2_with (go_at_call 12; refine (H.out).mono ?_; rintro e w' ⟨rfl, ⟨n, rfl⟩⟩)
    go_ret
    exact ⟨by rw [← HZ.out]; rfl, Drawn0.step (Drawn0.refl _) _⟩
  · rw [begins_no hle]
    clear h0 h1
    go_enter Try.func8, Try.ntmps8
    go_wp2
    go_ret
    exact ⟨rfl, Drawn0.refl _⟩

theorem words_any : Calls Try.prog 11 #[.slice A0 l0.length c0, .slice A1 l1.length c1] w (Tells (.bool (eqW l0 l1)) w) := by
  by_cases hle : l0.length = l1.length
  · have hb : ((l0.length : Int) == (l1.length : Int)) = true := by simp [hle]
    have H := Aside0.mk (compare_any A0 c0 l0 A1 c1 l1 w h0 h1)
    have HZ := Aside0.mk (cmpW_zero l0 l1)
    clear h0 h1 hle
    obtain ⟨c, hcc⟩ : ∃ c, cmpW l0 l1 = c := ⟨_, rfl⟩
    rw [hcc] at H HZ
    clear hcc
    go_enter Try.func11, Try.ntmps11
    go_wp2_with (go_at_call 12; refine (H.out).mono ?_; rintro e w' ⟨rfl, ⟨n, rfl⟩⟩)
    go_ret
    exact ⟨by rw [← HZ.out]; rfl, Drawn0.step (Drawn0.refl _) _⟩
  · rw [eqW_lens hle]
    have hb : ((l0.length : Int) == (l1.length : Int)) = false := by simp; omega
    clear h0 h1 hle
    go_enter Try.func11, Try.ntmps11
    go_wp2
    go_ret
    exact ⟨rfl, Drawn0.refl _⟩
end

/-- A list of one string that a law writes out reads as it. -/
theorem one_reads (w : World) (s : ByteArray) (t : TypeId) : Kd.C Kd.string (w.alloc (.cells #[.string s] t)) (some ⟨w.heap.size, 0, none⟩) [s].length [s] := by
  refine Kd.C_of_reads (d := ByteArray.empty) ⟨rfl, by simp, fun _ => ⟨_, rfl, fun j hj => ?_⟩⟩
  obtain rfl : j = 0 := by simpa using hj
  simp [go_sem]
end Go.Proofs.Ytljnooljfbokoaa.WalkB
