/- The walks of zzIndex, zzSplit, the package's ParsePath: each tells what 'parse' tells, in new memory. -/
import Derived.Test.YtljnooljfbokoaaDoorWalkA
import Derived.Test.YtljnooljfbokoaaDoorParseC
namespace Go.Proofs.YtljnooljfbokoaaDoor.WalkB
open Go.RowKit Go.Proofs.YtljnooljfbokoaaDoorW.PrintWords Go.Proofs.YtljnooljfbokoaaDoorW.PrintLast Go.Proofs.YtljnooljfbokoaaDoorW.PrintMore
open Go.Proofs.YtljnooljfbokoaaDoor.Plain Go.Proofs.YtljnooljfbokoaaDoor.WalkA Go.Proofs.YtljnooljfbokoaaDoor.Pieces Go.Proofs.YtljnooljfbokoaaDoor.ParseA
set_option linter.unusedVariables false
set_option linter.unusedSimpArgs false

/-- A list of words in new memory of the call's own. -/
abbrev Own (w w' : World) (v : Value) (l : List ByteArray) : Prop := Kd.R Kd.string 9 w' w.heap.size (fun _ => True) v l

/-- Where the first stroke stands, from place k on; -1: nowhere. -/
def idxL : List UInt8 → Nat → Int
  | [], _ => -1
  | c :: l, k => if c = 47 then (k : Int) else idxL l (k + 1)
theorem idxL_tells : ∀ (l : List UInt8) (k : Nat), (idxL l k = -1 ∧ ∀ c ∈ l, c ≠ 47) ∨ ∃ a b, idxL l k = ((k + a.length : Nat) : Int) ∧ l = a ++ 47 :: b ∧ ∀ c ∈ a, c ≠ 47
  | [], k => .inl ⟨rfl, fun c hc => absurd hc (by simp)⟩
  | c :: l, k => by
    by_cases h : c = 47
    · exact .inr ⟨[], l, by simp [idxL, h], by simp [h], fun c hc => absurd hc (by simp)⟩
    · rw [idxL, if_neg h]
      rcases idxL_tells l (k + 1) with ⟨h1, h2⟩ | ⟨a, b, h1, h2, h3⟩
      · refine .inl ⟨h1, fun d hd => ?_⟩
        rcases List.mem_cons.1 hd with rfl | hd
        · exact h
        · exact h2 d hd
      · refine .inr ⟨c :: a, b, ?_, by rw [h2]; rfl, fun d hd => ?_⟩
        · rw [h1, List.length_cons]
          congr 1
          omega
        · rcases List.mem_cons.1 hd with rfl | hd
          · exact h
          · exact h3 d hd

/-- What the search for a stroke says of the pieces. -/
def Found (s : ByteArray) (r : Int) : Prop :=
  (r = -1 ∧ segs s.data.toList = [s]) ∨ ∃ m : Nat, r = m ∧ m < s.size ∧ segs s.data.toList = s.extract 0 m :: segs (s.extract (m + 1) s.size).data.toList
theorem idx_found (s : ByteArray) : Found s (idxL s.data.toList 0) := by
  have hsz := size_data s
  rcases idxL_tells s.data.toList 0 with ⟨h1, h2⟩ | ⟨a, b, h1, h2, h3⟩
  · refine .inl ⟨h1, ?_⟩
    rw [segs, splitG_none _ _ h2]
    simp only [List.map_cons, List.map_nil, List.nil_append, mk_of]
  · have hlen : s.size = a.length + (b.length + 1) := by rw [← hsz, h2, List.length_append, List.length_cons]
    refine .inr ⟨a.length, by rw [h1, Nat.zero_add], by omega, ?_⟩
    have e1 : (s.extract (a.length + 1) s.size).data.toList = b := by
      rw [Lib.extract_data, h2]
      have e2 : (a ++ 47 :: b).drop (a.length + 1) = b := by
        rw [List.drop_append]
        simp
      rw [e2, List.take_of_length_le (by omega)]
    have e3 : s.extract 0 a.length = mk a := by
      rw [extract_mk, h2]
      simp
    rw [e1, e3, segs, h2, splitG_first _ _ _ h3]
    rfl

/-- One word of a text of one byte. -/
theorem piece (s : ByteArray) (k : Nat) (h : k < s.data.toList.length) : (s.extract k (k + 1)).toList = [s.data.toList[k]] := by
  rw [Lib.extract_toList, take_grow _ k k h (Nat.le_refl _)]
  simp

theorem index_any (s : ByteArray) (hs : s.size ≤ 2147483647) : ∃ r : Int, Found s r ∧ ∀ w, Calls Tryd.prog 29 #[.string s, .string ⟨#[47]⟩] w (Tells (.int .i64 r) w) := by
  refine ⟨_, idx_found s, fun w => ?_⟩
  have HSZ := Aside0.mk (size_data s)
  have h1 : ((⟨#[47]⟩ : ByteArray).size : Int) = 1 := rfl
  have hone : (⟨#[47]⟩ : ByteArray).toList = [47] := by rw [Lib.toList_data]
  go_enter Tryd.func29, Tryd.ntmps29
  go_wp2_with fail
  go_loop [5] (fun v5 => ∃ k : Nat, v5 = .int .i64 k ∧ k ≤ s.size ∧ Aside0 (idxL (s.data.toList.drop k) k = idxL s.data.toList 0)) (fun v5 => s.size - (intOf v5).toNat)
  case atStart => exact ⟨0, rfl, Nat.zero_le _, ⟨by rw [List.drop_zero]⟩⟩
  case round =>
    obtain ⟨k, rfl, hk, HI⟩ := hrel
    by_cases hlt : k < s.size
    · have hl : k < s.data.toList.length := by rw [HSZ.out]; exact hlt
      have hp := piece s k hl
      by_cases hc : s.data.toList[k] = 47
      · have E := Aside0.mk (show idxL (s.data.toList.drop k) k = (k : Int) by rw [drop_data _ k hl, idxL, if_pos hc])
        have hb : ((s.extract k (k + 1)).toList == [47]) = true := by rw [hp, hc]; rfl
        clear hp hc hl
        go_wp2_with fail
        go_ret
        exact ⟨by rw [← HI.out, E.out]; rfl, Drawn0.refl _⟩
      · have E := Aside0.mk (show idxL (s.data.toList.drop k) k = idxL (s.data.toList.drop (k + 1)) (k + 1) by rw [drop_data _ k hl, idxL, if_neg hc])
        have hb : ((s.extract k (k + 1)).toList == [47]) = false := by rw [hp]; simpa using hc
        clear hp hc hl
        go_wp2_with fail
        go_round
        case rel => exact ⟨k + 1, by go_num, by omega, ⟨by rw [← E.out]; exact HI.out⟩⟩
        case measure => simp [intOf]; omega
    · have hnil : s.data.toList.drop k = [] := List.drop_eq_nil_of_le (by rw [HSZ.out]; omega)
      have E := Aside0.mk (show idxL (s.data.toList.drop k) k = -1 by rw [hnil, idxL])
      clear hnil
      go_wp2_with fail
      go_ret
      exact ⟨by rw [← HI.out, E.out]; rfl, Drawn0.refl _⟩

/-- What zzSplit leaves. -/
def Splits (w : World) (l : List ByteArray) (e : Ending) (w' : World) : Prop := ∃ v, e = .returned v ∧ Aside0 (Own w w' v l) ∧ Aside0 (Below w.heap.size w w')

/-- A string's length, out of a slot. -/
def strLen (v : Value) : Nat := match v with | .string s => s.size | _ => 0

set_option maxHeartbeats 1000000 in
theorem split_any (s : ByteArray) (hs : s.size ≤ 2147483647) (w : World) : Calls Tryd.prog 24 #[.string s, .string ⟨#[47]⟩] w (Splits w (segs s.data.toList)) := by
  obtain ⟨L, hL⟩ : ∃ L, segs s.data.toList = L := ⟨_, rfl⟩
  have HL := Aside0.mk hL
  rw [hL]
  clear hL
  have hone : ((⟨#[47]⟩ : ByteArray).size : Int) = 1 := rfl
  go_enter Tryd.func24, Tryd.ntmps24
  go_wp2
  go_loopw [0, 5, 6] (fun v0 v5 _ wr => ∃ (x : ByteArray) (out : List ByteArray), v0 = .string x ∧ x.size ≤ 2147483647 ∧ Aside0 (out ++ segs x.data.toList = L) ∧ out.length + x.size ≤ 2147483647 ∧ Aside0 (Own w wr v5 out) ∧ Aside0 (Below w.heap.size w wr)) (fun v0 _ _ _ => strLen v0)
  case atStart => exact ⟨s, [], rfl, hs, ⟨by rw [List.nil_append]; exact HL.out⟩, by simpa using hs, ⟨Kd.R_nil _ _ _ _ _⟩, ⟨Below.refl _ _⟩⟩
  case round =>
    obtain ⟨x, out, rfl, hx, heq, hlen, HO, HB⟩ := hrel
    obtain ⟨r, hF, hcall⟩ := index_any x hx
    have HI := Aside0.mk hcall
    clear hcall HL hs
    rcases hF with ⟨rfl, hseg⟩ | ⟨m, rfl, hm, hseg⟩
    · have E := Aside0.mk hseg
      clear hseg
      go_wp2_with (first | (go_at_call 29; (with_reducible refine (HI.out _).mono ?_); rintro e w' ⟨rfl, ⟨nd, rfl⟩⟩) | (at_builtin; refine Kd.R_append Kd.string (w0 := w) w.heap.size rfl (.tmp 12) (.tmp 14) 22 9 (.string ⟨#[]⟩) 16 rfl Tryd.underlying22 info9 rfl (by decide) (by omega) u5 out x [.string x] (fun _ => True) (fun _ => False) rfl rfl rfl (fun _ hk => hk.elim) ?aF ?aO ?aB ?aS ?aL ?_; (case aF => exact (fun _ _ => trivial)); (case aO => exact Kd.R_drewN HO.out _); (case aB => exact pw_below_drewN HB.out _); (case aS => exact below_size (pw_below_drewN HB.out _)); (case aL => omega); intro v1 w1 ho hb _ _; have HO1 := Aside0.mk ho; have HB1 := Aside0.mk hb; clear ho hb))
      go_ret
      exact ⟨_, rfl, ⟨by rw [← heq.out, E.out]; exact HO1.out⟩, HB1⟩
    · have E := Aside0.mk hseg
      clear hseg
      have hwn := wrap_next m x.size hm hx
      have h1 : (0 : Int) ≤ (m : Int) := by omega
      have h2 : (m : Int) ≤ (x.size : Int) := by omega
      have e2 : (x.extract (m + 1) x.size).size = x.size - (m + 1) := by
        rw [← size_data, Lib.extract_data, List.length_take, List.length_drop, size_data]; omega
      have E2 := Aside0.mk e2
      clear e2
      go_wp2_with (first | (go_at_call 29; (with_reducible refine (HI.out _).mono ?_); rintro e w' ⟨rfl, ⟨nd, rfl⟩⟩) | (at_builtin; refine Kd.R_append Kd.string (w0 := w) w.heap.size rfl (.tmp 16) (.tmp 20) 22 9 (.string ⟨#[]⟩) 16 rfl Tryd.underlying22 info9 rfl (by decide) (by omega) u5 out (x.extract 0 m) [.string (x.extract 0 m)] (fun _ => True) (fun _ => False) rfl rfl rfl (fun _ hk => hk.elim) ?aF ?aO ?aB ?aS ?aL ?_; (case aF => exact (fun _ _ => trivial)); (case aO => exact Kd.R_drewN HO.out _); (case aB => exact pw_below_drewN HB.out _); (case aS => exact below_size (pw_below_drewN HB.out _)); (case aL => omega); intro v1 w1 ho hb _ _; have HO1 := Aside0.mk ho; have HB1 := Aside0.mk hb; clear ho hb))
      go_roundw
      case rel => exact ⟨x.extract (m + 1) x.size, out ++ [x.extract 0 m], rfl, by rw [E2.out]; omega, ⟨by rw [← heq.out, E.out, List.append_assoc]; rfl⟩, by rw [E2.out, List.length_append, List.length_singleton]; omega, HO1, HB1⟩
      case measure => show (x.extract (m + 1) x.size).size < x.size; rw [E2.out]; omega

/-- A path and whether it is one, handed back in new memory. -/
def Paths (w : World) (l : List ByteArray) (ok : Bool) (e : Ending) (w' : World) : Prop :=
  ∃ v, e = .returned (.tuple #[v, .bool ok]) ∧ Aside0 (Own w w' v l) ∧ Aside0 (Below w.heap.size w w')

theorem parse_nil {s : ByteArray} (h : s.size = 0) : parse s.data.toList = ([], false) := by
  have : s.data.toList = [] := List.length_eq_zero_iff.1 (by rw [size_data, h])
  rw [this, parse]
theorem parse_cons {s : ByteArray} (h : 0 < s.size) : ∃ c l, s.data.toList = c :: l ∧ bt s 0 = (c.toNat : Int) ∧ s.size = l.length + 1 ∧ (s.extract 1 s.size).data.toList = l ∧ (s.extract 1 s.size).size = l.length := by
  rcases hl : s.data.toList with _ | ⟨c, l⟩
  · have := size_data s
    rw [hl] at this
    simp at this
    omega
  · have h0 : 0 < s.data.toList.length := by rw [size_data]; exact h
    have hsz : s.size = l.length + 1 := by rw [← size_data, hl]; rfl
    have e1 : (s.extract 1 s.size).data.toList = l := by
      rw [Lib.extract_data, hl, List.drop_succ_cons, List.drop_zero, List.take_of_length_le (by omega)]
    refine ⟨c, l, rfl, ?_, hsz, e1, by rw [← size_data, e1]⟩
    have := bt_data s 0 h0
    simp only [hl, List.getElem_cons_zero] at this
    exact this

/-- An empty list that is written out. -/
theorem own_empty (w : World) : Own w (w.alloc (.cells #[] 9)) (.slice (some ⟨w.heap.size, 0, none⟩) 0 0) [] := by
  refine ⟨fun _ _ => trivial, [], ?_, Reps.none _ _⟩
  have h2 := World.ownsRow_lit (base := w.heap.size) (e := 9) (size := 1) w #[] 0 (Nat.le_refl _) (by simp [maxLen]) (by simp)
  have h3 : (w.alloc (.cells #[] 9)).ownsRow w.heap.size 9 1 (.slice (some ⟨w.heap.size, 0, none⟩) 0 0) 0 [] := by simpa using h2
  exact h3

theorem is_slash {c : UInt8} (h : (((c.toNat : Nat) : Int) != 47) = false) : c = 47 := by
  have h1 : ((c.toNat : Nat) : Int) = 47 := by simpa using h
  apply UInt8.toNat_inj.1
  have : c.toNat = 47 := by omega
  rw [this]; rfl
theorem slash_end {c : UInt8} {l : List UInt8} {n : Nat} (h : (((c.toNat : Nat) : Int) != 47) = false) (hn : n = l.length + 1) (h1 : ((n : Int) == 1) = true) : parse (c :: l) = ([], true) := by
  have h2 : (n : Int) = 1 := by simpa using h1
  have h3 : l = [] := List.length_eq_zero_iff.1 (by omega)
  rw [parse, if_pos (is_slash h), if_pos h3]
theorem slash_more {c : UInt8} {l : List UInt8} {n : Nat} (h : (((c.toNat : Nat) : Int) != 47) = false) (hn : n = l.length + 1) (h1 : ((n : Int) == 1) = false) : parse (c :: l) = (segs l, true) := by
  have h2 : ¬ (n : Int) = 1 := by simpa using h1
  have h3 : ¬ l = [] := fun e => by subst e; simp at hn; omega
  rw [parse, if_pos (is_slash h), if_neg h3]

theorem pkg_any (s : ByteArray) (hs : s.size ≤ 2147483647) (w : World) : Calls Tryd.prog 16 #[.string s] w (Paths w (parse s.data.toList).1 (parse s.data.toList).2) := by
  by_cases h0 : s.size = 0
  · rw [parse_nil h0]
    have hb : ((s.size : Int) == 0) = true := by simp [h0]
    clear h0
    go_enter Tryd.func16, Tryd.ntmps16
    go_wp2
    go_ret2
    exact ⟨_, rfl, ⟨Kd.R_nil _ _ _ _ _⟩, ⟨Below.refl _ _⟩⟩
  · obtain ⟨c, l, hl, hbt, hsz, he1, he2⟩ := parse_cons (Nat.pos_of_ne_zero h0)
    rw [hl]
    have hb : ((s.size : Int) == 0) = false := by simp [h0]
    have hp : 0 < s.size := by omega
    have HS := Aside0.mk (split_any (s.extract 1 s.size) (by omega))
    rw [he1] at HS
    have HBT := Aside0.mk ((bt_at s 0 (by simpa using hp)).trans hbt)
    have HSZ := Aside0.mk hsz
    clear hsz he1 he2 hbt h0 hl
    go_enter Tryd.func16, Tryd.ntmps16
    go_wp2_with fail
    · have ht : ((s[0].toNat : Int) != 47) = true := by assumption
      have hc : ¬ c = 47 := fun e => by
        subst e
        rw [show ((s[0].toNat : Nat) : Int) = ((47 : UInt8).toNat : Int) from HBT.out] at ht
        simp at ht
      have hpar : parse (c :: l) = ([], false) := by rw [parse, if_neg hc]
      rw [hpar]
      go_ret2
      exact ⟨_, rfl, ⟨Kd.R_nil _ _ _ _ _⟩, ⟨Below.refl _ _⟩⟩
    · have ht : ((s[0].toNat : Int) != 47) = false := by assumption
      have h1 : ((s.size : Int) == 1) = true := by assumption
      have hpar : parse (c :: l) = ([], true) := slash_end (by rw [← HBT.out]; exact ht) HSZ.out h1
      rw [hpar]
      go_ret2
      exact ⟨_, rfl, ⟨own_empty w⟩, ⟨below_alloc (Below.refl _ _) _⟩⟩
    · have ht : ((s[0].toNat : Int) != 47) = false := by assumption
      have h1 : ((s.size : Int) == 1) = false := by assumption
      have hpar : parse (c :: l) = (segs l, true) := slash_more (by rw [← HBT.out]; exact ht) HSZ.out h1
      have HP := Aside0.mk hpar
      clear hpar
      refine (HS.out _).mono ?_
      rintro e w1 ⟨v, rfl, HO1, HB1⟩
      go_wp2
      go_ret2
      exact ⟨_, by rw [HP.out]; rfl, ⟨by rw [HP.out]; exact HO1.out⟩, HB1⟩

theorem impl_any (s : ByteArray) (hs : s.size ≤ 2147483647) (w : World) : Calls Tryd.prog 10 #[.string s] w (Paths w (parse s.data.toList).1 (parse s.data.toList).2) := by
  have HP := Aside0.mk (pkg_any s hs)
  obtain ⟨l, hl⟩ : ∃ l, (parse s.data.toList).1 = l := ⟨_, rfl⟩
  obtain ⟨ok, hok⟩ : ∃ ok, (parse s.data.toList).2 = ok := ⟨_, rfl⟩
  rw [hl, hok] at HP ⊢
  clear hl hok
  go_enter Tryd.func10, Tryd.ntmps10
  go_wp2_with fail
  refine (HP.out _).mono ?_
  rintro e w1 ⟨v, rfl, HO1, HB1⟩
  go_wp2
  go_ret2
  exact ⟨_, rfl, HO1, HB1⟩
end Go.Proofs.YtljnooljfbokoaaDoor.WalkB
