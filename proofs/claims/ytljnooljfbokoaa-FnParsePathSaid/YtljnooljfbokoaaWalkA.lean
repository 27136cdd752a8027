/- The walks of laws.zzFits2, spec.Compare, cmp.isNaN, cmp.Compare, slices.Compare, slices.Equal over lists of strings: what each of them answers. -/
import Derived.Test.YtljnooljfbokoaaProg
import Derived.Test.YtljnooljfbokoaaWMore
import Derived.Test.YtljnooljfbokoaaPlain
import Derived.WalkLawsBesides
import Derived.WalkSpells
namespace Go.Proofs.Ytljnooljfbokoaa.WalkA
open Go.RowKit Go.Proofs.YtljnooljfbokoaaW.PrintWords Go.Proofs.YtljnooljfbokoaaW.PrintLast Go.Proofs.YtljnooljfbokoaaW.PrintMore
open Go.Proofs.Ytljnooljfbokoaa.Plain
attribute [local go_sem] max2_int min2_int max_two min_two
set_option linter.unusedVariables false
set_option linter.unusedSimpArgs false

/-- A list of strings that is read: an element. -/
theorem at_ {w : World} {A : Option Addr} {l : List ByteArray} (h : Kd.C Kd.string w A l.length l) (k : Nat) (hk : k < l.length) :
    ∃ ad, A = some ad ∧ w.cell? (ad.add k) = some (.string (l.getD k ByteArray.empty)) := by
  have := Kd.at_string h (k : Int) (by omega) (by omega)
  simpa [rdOf] using this

theorem isNaN_any (s : ByteArray) (w : World) : Calls Try.prog 24 #[.string s] w fun e w' => e = .returned (.bool false) ∧ w = w' := by
  go_enter Try.func24, Try.ntmps24
  go_wp2
  go_ret
  exact ⟨by simp, rfl⟩

theorem cmp_less (a b : ByteArray) (w : World) (h : Op.bytesLess a.toList b.toList = true) : Calls Try.prog 23 #[.string a, .string b] w fun e w' => e = .returned (.int .i64 (-1)) ∧ w = w' := by
  go_enter Try.func23, Try.ntmps23
  go_wp2_with (go_at_call 24; refine (isNaN_any _ _).mono ?_; rintro e w' ⟨rfl, rfl⟩)
  go_ret
  exact ⟨rfl, rfl⟩

theorem cmp_any (a b : ByteArray) (w : World) : Calls Try.prog 23 #[.string a, .string b] w fun e w' => e = .returned (.int .i64 (cmpB a b)) ∧ w = w' := by
  by_cases h : Op.bytesLess a.toList b.toList = true
  · rw [cmpB_less h]
    exact cmp_less a b w h
  · replace h : Op.bytesLess a.toList b.toList = false := by simpa using h
    by_cases h' : a.toList = b.toList
    · rw [cmpB_eq h']
      have hb : (a.toList == b.toList) = true := by simpa using h'
      clear h'
      go_enter Try.func23, Try.ntmps23
      go_wp2_with (go_at_call 24; refine (isNaN_any _ _).mono ?_; rintro e w' ⟨rfl, rfl⟩)
      go_ret
      exact ⟨rfl, rfl⟩
    · rw [cmpB_more h h']
      have hb : (a.toList == b.toList) = false := by simpa using h'
      clear h'
      go_enter Try.func23, Try.ntmps23
      go_wp2_with (go_at_call 24; refine (isNaN_any _ _).mono ?_; rintro e w' ⟨rfl, rfl⟩)
      go_ret
      exact ⟨rfl, rfl⟩

theorem zzFits2_any (A : Option Addr) (l : List ByteArray) (c : Nat) (w : World) (h : Kd.C Kd.string w A l.length l) :
    Calls Try.prog 6 #[.slice A l.length c] w fun e w' => e = .returned (.bool (fitsB l)) ∧ w = w' := by
  have hm := Kd.C_max h
  have HC := Aside0.mk h
  clear h
  by_cases hl : l.length ≤ 2147483647
  · rw [fitsB_short hl]
    go_enter Try.func6, Try.ntmps6
    go_wp2
    go_loop [4, 10] (fun _ i => ∃ k : Nat, k ≤ l.length ∧ i = .int .i64 k ∧ Aside0 (allB (l.drop k) = allB l)) (fun _ i => l.length - (intOf i).toNat)
    case atStart => exact ⟨0, Nat.zero_le _, rfl, ⟨rfl⟩⟩
    case round =>
      obtain ⟨k, hk, rfl, heq⟩ := hrel
      by_cases hlt : k < l.length
      · obtain ⟨ad, rfl, hc⟩ := at_ HC.out k hlt
        have hT := Aside0.mk (allB_step hlt)
        have hL := Aside0.mk (allB_no hlt)
        obtain ⟨s, hs⟩ : ∃ s, l.getD k ByteArray.empty = s := ⟨_, rfl⟩
        rw [hs] at hc hT hL
        clear hs
        by_cases hsz : s.size ≤ 2147483647
        · have E := Aside0.mk (hT.out hsz)
          go_wp2
          go_round
          case rel => exact ⟨k + 1, by omega, by go_num, ⟨by rw [← E.out]; exact heq.out⟩⟩
          case measure => simp [intOf]; omega
        · have E := Aside0.mk (hL.out hsz)
          go_wp2
          go_ret
          exact ⟨by rw [← heq.out, E.out]; rfl, rfl⟩
      · have E := Aside0.mk (allB_end (l := l) (k := k) (by omega))
        go_wp2
        go_ret
        exact ⟨by rw [← heq.out, E.out]; rfl, rfl⟩
  · rw [fitsB_long hl]
    go_enter Try.func6, Try.ntmps6
    go_wp2
    go_ret
    exact ⟨rfl, rfl⟩

/-- What spec.Compare tells. -/
def Tells (v : Value) (w : World) (e : Ending) (w' : World) : Prop := e = .returned v ∧ Drawn0 w w'

theorem compare_any (A0 : Option Addr) (c0 : Nat) (l0 : List ByteArray) (A1 : Option Addr) (c1 : Nat) (l1 : List ByteArray) (w : World)
    (h0 : Kd.C Kd.string w A0 l0.length l0) (h1 : Kd.C Kd.string w A1 l1.length l1) :
    Calls Try.prog 12 #[.slice A0 l0.length c0, .slice A1 l1.length c1] w (Tells (.int .i64 (cmpW l0 l1)) w) := by
  have hm0 := Kd.C_max h0
  have hm1 := Kd.C_max h1
  have HC0 := Aside0.mk h0
  have HC1 := Aside0.mk h1
  clear h0 h1
  rcases Nat.lt_or_ge l1.length l0.length with hmin | hmin
  all_goals
    go_enter Try.func12, Try.ntmps12
    go_wp2
    go_loopw [5, 11] (fun _ i wr => ∃ k : Nat, k ≤ l0.length ∧ k ≤ l1.length ∧ i = .int .i64 k ∧ Aside0 (cmpW (l0.drop k) (l1.drop k) = cmpW l0 l1) ∧ Drawn0 w wr) (fun _ i _ => l0.length - (intOf i).toNat)
    case atStart => exact ⟨0, Nat.zero_le _, Nat.zero_le _, rfl, ⟨rfl⟩, Drawn0.refl _⟩
    case round =>
      obtain ⟨k, hk0, hk1, rfl, heq, ⟨nd, rfl⟩⟩ := hrel
      by_cases hlt : k < l0.length ∧ k < l1.length
      · obtain ⟨hlt0, hlt1⟩ := hlt
        obtain ⟨ad0, rfl, hc0⟩ := at_ HC0.out k hlt0
        obtain ⟨ad1, rfl, hc1⟩ := at_ HC1.out k hlt1
        have hT := Aside0.mk (cmpW_step hlt0 hlt1)
        have hL := Aside0.mk (cmpW_less hlt0 hlt1)
        have hG := Aside0.mk (cmpW_more hlt0 hlt1)
        obtain ⟨s0, hs0⟩ : ∃ s, l0.getD k ByteArray.empty = s := ⟨_, rfl⟩
        obtain ⟨s1, hs1⟩ : ∃ s, l1.getD k ByteArray.empty = s := ⟨_, rfl⟩
        rw [hs0] at hc0 hT hL hG
        rw [hs1] at hc1 hT hL hG
        clear hs0 hs1
        have i0 : (k : Int) < (l0.length : Int) := by omega
        have i1 : (k : Int) < (l1.length : Int) := by omega
        by_cases hless : Op.bytesLess s0.toList s1.toList = true
        · have E := Aside0.mk (hL.out hless)
          go_wp2
          go_quiet (fail)
          go_wp2
          go_ret
          exact ⟨by rw [← heq.out, E.out]; rfl, by repeat (first | exact Drawn0.refl _ | apply Drawn0.step)⟩
        · replace hless : Op.bytesLess s0.toList s1.toList = false := by simpa using hless
          by_cases hsame : s0.toList = s1.toList
          · have E := Aside0.mk (hT.out hsame)
            have hb : (s0.toList == s1.toList) = true := by simpa using hsame
            clear hsame
            go_wp2
            go_quiet (fail)
            go_wp2
            go_quiet (fail)
            go_wp2
            go_roundw
            case rel => exact ⟨k + 1, by omega, by omega, by go_num, ⟨by rw [← E.out]; exact heq.out⟩, by repeat (first | exact Drawn0.refl _ | apply Drawn0.step)⟩
            case measure => simp [intOf]; omega
          · have E := Aside0.mk (hG.out hless hsame)
            have hb : (s0.toList == s1.toList) = false := by simpa using hsame
            clear hsame
            go_wp2
            go_quiet (fail)
            go_wp2
            go_quiet (fail)
            go_wp2
            go_ret
            exact ⟨by rw [← heq.out, E.out]; rfl, by repeat (first | exact Drawn0.refl _ | apply Drawn0.step)⟩
      · by_cases e0 : k < l0.length
        · have e1 : l1.length = k := by omega
          have E := Aside0.mk (cmpW_end_gt e0 e1)
          have i0 : ¬ (l0.length : Int) < (l1.length : Int) := by omega
          have i1 : (l1.length : Int) < (l0.length : Int) := by omega
          clear e1
          first
          | (exfalso; omega)
          | (go_wp2; go_ret; exact ⟨by rw [← heq.out, E.out]; rfl, by repeat (first | exact Drawn0.refl _ | apply Drawn0.step)⟩)
        · by_cases e1 : k < l1.length
          · have e2 : l0.length = k := by omega
            have E := Aside0.mk (cmpW_end_lt e2 e1)
            have i1 : (l0.length : Int) < (l1.length : Int) := by omega
            clear e2
            first
            | (exfalso; omega)
            | (go_wp2; go_ret; exact ⟨by rw [← heq.out, E.out]; rfl, by repeat (first | exact Drawn0.refl _ | apply Drawn0.step)⟩)
          · have E := Aside0.mk (cmpW_end_eq (l := l0) (m := l1) (k := k) (by omega) (by omega))
            have i0 : ¬ (l0.length : Int) < (l1.length : Int) := by omega
            have i1 : ¬ (l1.length : Int) < (l0.length : Int) := by omega
            go_wp2
            go_ret
            exact ⟨by rw [← heq.out, E.out]; rfl, by repeat (first | exact Drawn0.refl _ | apply Drawn0.step)⟩

theorem slices_compare (A0 : Option Addr) (c0 : Nat) (l0 : List ByteArray) (A1 : Option Addr) (c1 : Nat) (l1 : List ByteArray) (w : World)
    (h0 : Kd.C Kd.string w A0 l0.length l0) (h1 : Kd.C Kd.string w A1 l1.length l1) :
    Calls Try.prog 20 #[.slice A0 l0.length c0, .slice A1 l1.length c1] w fun e w' => e = .returned (.int .i64 (cmpW l0 l1)) ∧ w = w' := by
  have hm0 := Kd.C_max h0
  have hm1 := Kd.C_max h1
  have HC0 := Aside0.mk h0
  have HC1 := Aside0.mk h1
  clear h0 h1
  go_enter Try.func20, Try.ntmps20
  go_wp2
  go_loop [5, 6, 7, 8, 11] (fun _ _ _ _ i => ∃ k : Nat, k ≤ l0.length ∧ k ≤ l1.length ∧ i = .int .i64 k ∧ Aside0 (cmpW (l0.drop k) (l1.drop k) = cmpW l0 l1)) (fun _ _ _ _ i => l0.length - (intOf i).toNat)
  case atStart => exact ⟨0, Nat.zero_le _, Nat.zero_le _, rfl, ⟨rfl⟩⟩
  case round =>
    obtain ⟨k, hk0, hk1, rfl, heq⟩ := hrel
    by_cases hlt0 : k < l0.length
    · obtain ⟨ad0, rfl, hc0⟩ := at_ HC0.out k hlt0
      by_cases hlt1 : k < l1.length
      · obtain ⟨ad1, rfl, hc1⟩ := at_ HC1.out k hlt1
        have hT := Aside0.mk (cmpW_zero_step hlt0 hlt1)
        have hL := Aside0.mk (cmpW_ne hlt0 hlt1)
        obtain ⟨s0, hs0⟩ : ∃ s, l0.getD k ByteArray.empty = s := ⟨_, rfl⟩
        obtain ⟨s1, hs1⟩ : ∃ s, l1.getD k ByteArray.empty = s := ⟨_, rfl⟩
        rw [hs0] at hc0 hT hL
        rw [hs1] at hc1 hT hL
        clear hs0 hs1
        have i0 : (k : Int) < (l0.length : Int) := by omega
        have i1 : (k : Int) < (l1.length : Int) := by omega
        obtain ⟨c, hcc⟩ : ∃ c, cmpB s0 s1 = c := ⟨_, rfl⟩
        have HCMP := Aside0.mk (cmp_any s0 s1)
        rw [hcc] at hT hL HCMP
        clear hcc
        by_cases hz : c = 0
        · have E := Aside0.mk (hT.out hz)
          have hzb : (c == 0) = true := by simp [hz]
          clear hz
          go_wp2_with (go_at_call 23; refine (HCMP.out _).mono ?_; rintro e w' ⟨rfl, rfl⟩)
          go_round
          case rel => exact ⟨k + 1, by omega, by omega, by go_num, ⟨by rw [← E.out]; exact heq.out⟩⟩
          case measure => simp [intOf]; omega
        · have E := Aside0.mk (hL.out hz)
          have hzb : (c == 0) = false := by simp [hz]
          clear hz
          go_wp2_with (go_at_call 23; refine (HCMP.out _).mono ?_; rintro e w' ⟨rfl, rfl⟩)
          go_ret
          exact ⟨by rw [← heq.out, E.out]; rfl, rfl⟩
      · have e1 : l1.length = k := by omega
        have E := Aside0.mk (cmpW_end_gt hlt0 e1)
        clear e1
        go_wp2
        go_ret
        exact ⟨by rw [← heq.out, E.out]; rfl, rfl⟩
    · by_cases e1 : k < l1.length
      · have e2 : l0.length = k := by omega
        have E := Aside0.mk (cmpW_end_lt e2 e1)
        have i1 : (l0.length : Int) < (l1.length : Int) := by omega
        clear e2
        go_wp2
        go_ret
        exact ⟨by rw [← heq.out, E.out]; rfl, rfl⟩
      · have E := Aside0.mk (cmpW_end_eq (l := l0) (m := l1) (k := k) (by omega) (by omega))
        have i0 : ¬ (l0.length : Int) < (l1.length : Int) := by omega
        go_wp2
        go_ret
        exact ⟨by rw [← heq.out, E.out]; rfl, rfl⟩

theorem slices_equal (A0 : Option Addr) (c0 : Nat) (l0 : List ByteArray) (A1 : Option Addr) (c1 : Nat) (l1 : List ByteArray) (w : World)
    (h0 : Kd.C Kd.string w A0 l0.length l0) (h1 : Kd.C Kd.string w A1 l1.length l1) :
    Calls Try.prog 21 #[.slice A0 l0.length c0, .slice A1 l1.length c1] w (Tells (.bool (eqW l0 l1)) w) := by
  have hm0 := Kd.C_max h0
  have hm1 := Kd.C_max h1
  have HC0 := Aside0.mk h0
  have HC1 := Aside0.mk h1
  clear h0 h1
  by_cases hlen : l0.length = l1.length
  · have hb : ((l0.length : Int) == (l1.length : Int)) = true := by simp [hlen]
    have HLEN := Aside0.mk hlen
    clear hlen
    go_enter Try.func21, Try.ntmps21
    go_wp2
    go_loopw [5, 13] (fun _ i wr => ∃ k : Nat, k ≤ l0.length ∧ i = .int .i64 k ∧ Aside0 (eqW (l0.drop k) (l1.drop k) = eqW l0 l1) ∧ Drawn0 w wr) (fun _ i _ => l0.length - (intOf i).toNat)
    case atStart => exact ⟨0, Nat.zero_le _, rfl, ⟨rfl⟩, Drawn0.refl _⟩
    case round =>
      obtain ⟨k, hk0, rfl, heq, ⟨nd, rfl⟩⟩ := hrel
      by_cases hlt0 : k < l0.length
      · have hlt1 : k < l1.length := by rw [← HLEN.out]; exact hlt0
        obtain ⟨ad0, rfl, hc0⟩ := at_ HC0.out k hlt0
        obtain ⟨ad1, rfl, hc1⟩ := at_ HC1.out k hlt1
        have hT := Aside0.mk (eqW_step hlt0 hlt1)
        have hL := Aside0.mk (eqW_no hlt0 hlt1)
        obtain ⟨s0, hs0⟩ : ∃ s, l0.getD k ByteArray.empty = s := ⟨_, rfl⟩
        obtain ⟨s1, hs1⟩ : ∃ s, l1.getD k ByteArray.empty = s := ⟨_, rfl⟩
        rw [hs0] at hc0 hT hL
        rw [hs1] at hc1 hT hL
        clear hs0 hs1
        have i0 : (k : Int) < (l0.length : Int) := by omega
        have i1 : (k : Int) < (l1.length : Int) := by omega
        by_cases hsame : s0.toList = s1.toList
        · have E := Aside0.mk (hT.out hsame)
          have hb : (s0.toList == s1.toList) = true := by simpa using hsame
          clear hsame
          go_wp2
          go_quiet (fail)
          go_wp2
          go_roundw
          case rel => exact ⟨k + 1, by omega, by go_num, ⟨by rw [← E.out]; exact heq.out⟩, by repeat (first | exact Drawn0.refl _ | apply Drawn0.step)⟩
          case measure => simp [intOf]; omega
        · have E := Aside0.mk (hL.out hsame)
          have hb : (s0.toList == s1.toList) = false := by simpa using hsame
          clear hsame
          go_wp2
          go_quiet (fail)
          go_wp2
          go_ret
          exact ⟨by rw [← heq.out, E.out]; rfl, by repeat (first | exact Drawn0.refl _ | apply Drawn0.step)⟩
      · have E := Aside0.mk (eqW_end (l := l0) (m := l1) (k := k) (by omega) (by rw [← HLEN.out]; omega))
        go_wp2
        go_ret
        exact ⟨by rw [← heq.out, E.out]; rfl, by repeat (first | exact Drawn0.refl _ | apply Drawn0.step)⟩
  · have E := Aside0.mk (eqW_lens hlen)
    have hb : ((l0.length : Int) == (l1.length : Int)) = false := by simp; omega
    clear hlen
    go_enter Try.func21, Try.ntmps21
    go_wp2
    go_ret
    exact ⟨by rw [E.out]; rfl, by repeat (first | exact Drawn0.refl _ | apply Drawn0.step)⟩
end Go.Proofs.Ytljnooljfbokoaa.WalkA
