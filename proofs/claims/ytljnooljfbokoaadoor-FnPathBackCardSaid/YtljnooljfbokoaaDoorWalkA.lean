/- The walks of laws.zzFits2, spec.Compare, laws.words over lists of strings: what each of them answers. -/
import Derived.Test.YtljnooljfbokoaaDoorProg
import Derived.Test.YtljnooljfbokoaaDoorWMore
import Derived.Test.YtljnooljfbokoaaDoorPlain
import Derived.WalkLawsBesides
import Derived.WalkSpells
namespace Go.Proofs.YtljnooljfbokoaaDoor.WalkA
open Go.RowKit Go.Proofs.YtljnooljfbokoaaDoorW.PrintWords Go.Proofs.YtljnooljfbokoaaDoorW.PrintLast Go.Proofs.YtljnooljfbokoaaDoorW.PrintMore
open Go.Proofs.YtljnooljfbokoaaDoor.Plain
attribute [local go_sem] max2_int min2_int max_two min_two
set_option linter.unusedVariables false
set_option linter.unusedSimpArgs false

theorem info9 : (Tryd.prog.info? 9).map (fun i => (i.zero, i.size, i.bytes)) = some (some (.string ⟨#[]⟩), 1, 16) := by kernel_rfl

/-- A list of strings that is read: an element. -/
theorem at_ {w : World} {A : Option Addr} {l : List ByteArray} (h : Kd.C Kd.string w A l.length l) (k : Nat) (hk : k < l.length) :
    ∃ ad, A = some ad ∧ w.cell? (ad.add k) = some (.string (l.getD k ByteArray.empty)) := by
  have := Kd.at_string h (k : Int) (by omega) (by omega)
  simpa [rdOf] using this

theorem zzFits2_any (A : Option Addr) (l : List ByteArray) (c : Nat) (w : World) (h : Kd.C Kd.string w A l.length l) :
    Calls Tryd.prog 8 #[.slice A l.length c] w fun e w' => e = .returned (.bool (fitsB l)) ∧ w = w' := by
  have hm := Kd.C_max h
  have HC := Aside0.mk h
  clear h
  by_cases hl : l.length ≤ 2147483647
  · rw [fitsB_short hl]
    go_enter Tryd.func8, Tryd.ntmps8
    go_wp2
    go_loop [4, 10] (fun _ i => ∃ k : Nat, k ≤ l.length ∧ i = .int .i64 k ∧ Aside0 (allB (l.drop k) = allB l)) (fun _ i => l.length - (intOf i).toNat)
    case atStart => exact ⟨0, Nat.zero_le _, rfl, ⟨rfl⟩⟩
    case round =>
      obtain ⟨k, hk, rfl, heq⟩ := hrel
      by_cases hlt : k < l.length
      · obtain ⟨ad, rfl, hc⟩ := at_ HC.out k hlt
        have hT := Aside0.mk (allB_step hlt)
        have hL := Aside0.mk (allB_no hlt)
        obtain ⟨s, hs⟩ : ∃ s, l.getD k ByteArray.empty = s := ⟨_, rfl⟩
        rw [hs] at hc hT hL
        clear hs
        by_cases hsz : s.size ≤ 2147483647
        · have E := Aside0.mk (hT.out hsz)
          go_wp2
          go_round
          case rel => exact ⟨k + 1, by omega, by go_num, ⟨by rw [← E.out]; exact heq.out⟩⟩
          case measure => simp [intOf]; omega
        · have E := Aside0.mk (hL.out hsz)
          go_wp2
          go_ret
          exact ⟨by rw [← heq.out, E.out]; rfl, rfl⟩
      · have E := Aside0.mk (allB_end (l := l) (k := k) (by omega))
        go_wp2
        go_ret
        exact ⟨by rw [← heq.out, E.out]; rfl, rfl⟩
  · rw [fitsB_long hl]
    go_enter Tryd.func8, Tryd.ntmps8
    go_wp2
    go_ret
    exact ⟨rfl, rfl⟩

/-- What spec.Compare tells. -/
def Tells (v : Value) (w : World) (e : Ending) (w' : World) : Prop := e = .returned v ∧ Drawn0 w w'

theorem compare_any (A0 : Option Addr) (c0 : Nat) (l0 : List ByteArray) (A1 : Option Addr) (c1 : Nat) (l1 : List ByteArray) (w : World)
    (h0 : Kd.C Kd.string w A0 l0.length l0) (h1 : Kd.C Kd.string w A1 l1.length l1) :
    Calls Tryd.prog 14 #[.slice A0 l0.length c0, .slice A1 l1.length c1] w (Tells (.int .i64 (cmpW l0 l1)) w) := by
  have hm0 := Kd.C_max h0
  have hm1 := Kd.C_max h1
  have HC0 := Aside0.mk h0
  have HC1 := Aside0.mk h1
  clear h0 h1
  rcases Nat.lt_or_ge l1.length l0.length with hmin | hmin
  all_goals
    go_enter Tryd.func14, Tryd.ntmps14
    go_wp2
    go_loopw [5, 11] (fun _ i wr => ∃ k : Nat, k ≤ l0.length ∧ k ≤ l1.length ∧ i = .int .i64 k ∧ Aside0 (cmpW (l0.drop k) (l1.drop k) = cmpW l0 l1) ∧ Drawn0 w wr) (fun _ i _ => l0.length - (intOf i).toNat)
    case atStart => exact ⟨0, Nat.zero_le _, Nat.zero_le _, rfl, ⟨rfl⟩, Drawn0.refl _⟩
    case round =>
      obtain ⟨k, hk0, hk1, rfl, heq, ⟨nd, rfl⟩⟩ := hrel
      by_cases hlt : k < l0.length ∧ k < l1.length
      · obtain ⟨hlt0, hlt1⟩ := hlt
        obtain ⟨ad0, rfl, hc0⟩ := at_ HC0.out k hlt0
        obtain ⟨ad1, rfl, hc1⟩ := at_ HC1.out k hlt1
        have hT := Aside0.mk (cmpW_step hlt0 hlt1)
        have hL := Aside0.mk (cmpW_less hlt0 hlt1)
        have hG := Aside0.mk (cmpW_more hlt0 hlt1)
        obtain ⟨s0, hs0⟩ : ∃ s, l0.getD k ByteArray.empty = s := ⟨_, rfl⟩
        obtain ⟨s1, hs1⟩ : ∃ s, l1.getD k ByteArray.empty = s := ⟨_, rfl⟩
        rw [hs0] at hc0 hT hL hG
        rw [hs1] at hc1 hT hL hG
        clear hs0 hs1
        have i0 : (k : Int) < (l0.length : Int) := by omega
        have i1 : (k : Int) < (l1.length : Int) := by omega
        by_cases hless : Op.bytesLess s0.toList s1.toList = true
        · have E := Aside0.mk (hL.out hless)
          go_wp2
          go_quiet (fail)
          go_wp2
          go_ret
          exact ⟨by rw [← heq.out, E.out]; rfl, by repeat (first | exact Drawn0.refl _ | apply Drawn0.step)⟩
        · replace hless : Op.bytesLess s0.toList s1.toList = false := by simpa using hless
          by_cases hsame : s0.toList = s1.toList
          · have E := Aside0.mk (hT.out hsame)
            have hb : (s0.toList == s1.toList) = true := by simpa using hsame
            clear hsame
            go_wp2
            go_quiet (fail)
            go_wp2
            go_quiet (fail)
            go_wp2
            go_roundw
            case rel => exact ⟨k + 1, by omega, by omega, by go_num, ⟨by rw [← E.out]; exact heq.out⟩, by repeat (first | exact Drawn0.refl _ | apply Drawn0.step)⟩
            case measure => simp [intOf]; omega
          · have E := Aside0.mk (hG.out hless hsame)
            have hb : (s0.toList == s1.toList) = false := by simpa using hsame
            clear hsame
            go_wp2
            go_quiet (fail)
            go_wp2
            go_quiet (fail)
            go_wp2
            go_ret
            exact ⟨by rw [← heq.out, E.out]; rfl, by repeat (first | exact Drawn0.refl _ | apply Drawn0.step)⟩
      · by_cases e0 : k < l0.length
        · have e1 : l1.length = k := by omega
          have E := Aside0.mk (cmpW_end_gt e0 e1)
          have i0 : ¬ (l0.length : Int) < (l1.length : Int) := by omega
          have i1 : (l1.length : Int) < (l0.length : Int) := by omega
          clear e1
          first
          | (exfalso; omega)
          | (go_wp2; go_ret; exact ⟨by rw [← heq.out, E.out]; rfl, by repeat (first | exact Drawn0.refl _ | apply Drawn0.step)⟩)
        · by_cases e1 : k < l1.length
          · have e2 : l0.length = k := by omega
            have E := Aside0.mk (cmpW_end_lt e2 e1)
            have i1 : (l0.length : Int) < (l1.length : Int) := by omega
            clear e2
            first
            | (exfalso; omega)
            | (go_wp2; go_ret; exact ⟨by rw [← heq.out, E.out]; rfl, by repeat (first | exact Drawn0.refl _ | apply Drawn0.step)⟩)
          · have E := Aside0.mk (cmpW_end_eq (l := l0) (m := l1) (k := k) (by omega) (by omega))
            have i0 : ¬ (l0.length : Int) < (l1.length : Int) := by omega
            have i1 : ¬ (l1.length : Int) < (l0.length : Int) := by omega
            go_wp2
            go_ret
            exact ⟨by rw [← heq.out, E.out]; rfl, by repeat (first | exact Drawn0.refl _ | apply Drawn0.step)⟩

section
variable (A0 : Option Addr) (c0 : Nat) (l0 : List ByteArray) (A1 : Option Addr) (c1 : Nat) (l1 : List ByteArray) (w : World)
  (h0 : Kd.C Kd.string w A0 l0.length l0) (h1 : Kd.C Kd.string w A1 l1.length l1)
include h0 h1
theorem words_any : Calls Tryd.prog 7 #[.slice A0 l0.length c0, .slice A1 l1.length c1] w (Tells (.bool (eqW l0 l1)) w) := by
  by_cases hle : l0.length = l1.length
  · have hb : ((l0.length : Int) == (l1.length : Int)) = true := by simp [hle]
    have H := Aside0.mk (compare_any A0 c0 l0 A1 c1 l1 w h0 h1)
    have HZ := Aside0.mk (cmpW_zero l0 l1)
    clear h0 h1 hle
    obtain ⟨c, hcc⟩ : ∃ c, cmpW l0 l1 = c := ⟨_, rfl⟩
    rw [hcc] at H HZ
    clear hcc
    go_enter Tryd.func7, Tryd.ntmps7
    go_wp2_with (go_at_call 14; refine (H.out).mono ?_; rintro e w' ⟨rfl, ⟨n, rfl⟩⟩)
    go_ret
    exact ⟨by rw [← HZ.out]; rfl, Drawn0.step (Drawn0.refl _) _⟩
  · rw [eqW_lens hle]
    have hb : ((l0.length : Int) == (l1.length : Int)) = false := by simp; omega
    clear h0 h1 hle
    go_enter Tryd.func7, Tryd.ntmps7
    go_wp2
    go_ret
    exact ⟨rfl, Drawn0.refl _⟩
end
end Go.Proofs.YtljnooljfbokoaaDoor.WalkA
