/- The walk of the package's ParsePathEscaped: it tells what 'parseEsc' tells, in new memory. -/
import Derived.Test.YtljnooljfbokoaaDoorWalkB
import Derived.Test.YtljnooljfbokoaaDoorWalkU
namespace Go.Proofs.YtljnooljfbokoaaDoor.WalkE
open Go.RowKit Go.Proofs.YtljnooljfbokoaaDoorW.PrintWords Go.Proofs.YtljnooljfbokoaaDoorW.PrintLast Go.Proofs.YtljnooljfbokoaaDoorW.PrintMore
open Go.Proofs.YtljnooljfbokoaaDoor.Plain Go.Proofs.YtljnooljfbokoaaDoor.WalkA Go.Proofs.YtljnooljfbokoaaDoor.WalkB Go.Proofs.YtljnooljfbokoaaDoor.Pieces Go.Proofs.YtljnooljfbokoaaDoor.ParseA
open Go.Proofs.YtljnooljfbokoaaDoor.Table Go.Proofs.YtljnooljfbokoaaDoor.Unesc Go.Proofs.YtljnooljfbokoaaDoor.WalkU
set_option linter.unusedVariables false
set_option linter.unusedSimpArgs false

/-- A list of words, each with its escapes replaced. -/
def unall : List ByteArray → Option (List ByteArray)
  | [] => some []
  | x :: l => match unesc x.data.toList with
    | none => none
    | some u => (unall l).map (mk u :: ·)

/-- A text as an escaped path. -/
def parseEsc (l : List UInt8) : List ByteArray × Bool := match unall (parse l).1 with
  | some m => (m, (parse l).2)
  | none => ([], false)

/-- How far a loop has come: k words have been replaced, cur is what the list is now. -/
def Gone (L cur : List ByteArray) (k : Nat) : Prop := ∃ dn : List ByteArray, dn.length = k ∧ cur = dn ++ L.drop k ∧ unall L = (unall (L.drop k)).map (dn ++ ·)

theorem Gone.start (L : List ByteArray) : Gone L L 0 := ⟨[], rfl, by simp, by simp⟩
theorem Gone.len {L cur : List ByteArray} {k : Nat} (h : Gone L cur k) (hk : k ≤ L.length) : cur.length = L.length := by
  obtain ⟨dn, h1, rfl, _⟩ := h
  rw [List.length_append, List.length_drop]; omega
theorem Gone.at_ {L cur : List ByteArray} {k : Nat} (h : Gone L cur k) (hk : k < L.length) : cur.getD k ByteArray.empty = L.getD k ByteArray.empty := by
  obtain ⟨dn, h1, rfl, _⟩ := h
  subst h1
  rw [List.getD_eq_getElem?_getD, List.getElem?_append_right (Nat.le_refl _), Nat.sub_self, List.getElem?_drop, Nat.add_zero, List.getD_eq_getElem?_getD]
theorem Gone.next {L cur : List ByteArray} {k : Nat} (h : Gone L cur k) (hk : k < L.length) {u : List UInt8} (hu : unesc (L.getD k ByteArray.empty).data.toList = some u) : Gone L (cur.set k (mk u)) (k + 1) := by
  obtain ⟨dn, h1, rfl, h2⟩ := h
  refine ⟨dn ++ [mk u], by rw [List.length_append, List.length_singleton, h1], ?_, ?_⟩
  · rw [drop_get L k hk]
    subst h1
    simp
  · rw [h2, drop_get L k hk, unall, hu]
    simp only [Option.map_map]
    congr 1
    funext x
    simp
theorem Gone.bad {L cur : List ByteArray} {k : Nat} (h : Gone L cur k) (hk : k < L.length) (hu : unesc (L.getD k ByteArray.empty).data.toList = none) : unall L = none := by
  obtain ⟨dn, h1, rfl, h2⟩ := h
  rw [h2, drop_get L k hk, unall, hu]
  rfl
theorem Gone.all {L cur : List ByteArray} {k : Nat} (h : Gone L cur k) (hk : L.length ≤ k) : unall L = some cur := by
  obtain ⟨dn, h1, rfl, h2⟩ := h
  have hnil : L.drop k = [] := List.drop_eq_nil_of_le hk
  rw [h2, hnil]
  simp [unall]

/-- A path handed back, with its slice's form. -/
def PathsS (w : World) (l : List ByteArray) (ok : Bool) (e : Ending) (w' : World) : Prop :=
  ∃ A c, e = .returned (.tuple #[.slice A l.length c, .bool ok]) ∧ Aside0 (Own w w' (.slice A l.length c) l) ∧ Aside0 (Below w.heap.size w w')
theorem Paths.form {w : World} {l : List ByteArray} {ok : Bool} {e : Ending} {w' : World} (h : Paths w l ok e w') : PathsS w l ok e w' := by
  obtain ⟨v, rfl, HO, HB⟩ := h
  obtain ⟨A, c, rfl⟩ := Kd.R_slice HO.out
  exact ⟨A, c, rfl, HO, HB⟩
theorem Own.head {w w' : World} {A : Option Addr} {c n : Nat} {l : List ByteArray} (h : Own w w' (.slice A n c) l) (hn : l.length = n) (hp : 0 < n) : ∃ g, A = some ⟨g, 0, none⟩ ∧ w.heap.size ≤ g := by
  subst hn
  obtain ⟨g, cap, he, hg, _⟩ := Kd.R_form h hp
  injection he with h1 _ _
  exact ⟨g, h1, hg⟩
theorem Own.cell {w w' : World} {g c n : Nat} {l : List ByteArray} (h : Own w w' (.slice (some ⟨g, 0, none⟩) n c) l) (hn : l.length = n) (k : Nat) (hk : k < n) :
    w'.cell? ⟨g, k, none⟩ = some (.string (l.getD k ByteArray.empty)) ∧ w'.frozen? ⟨g, k, none⟩ = false := by
  subst hn
  have := Kd.R_cell (enc := Value.string) ByteArray.empty h (k : Int) (by omega) (by omega)
  simpa [rdOf] using this
theorem Own.put {w w' : World} {g c n : Nat} {l : List ByteArray} (h : Own w w' (.slice (some ⟨g, 0, none⟩) n c) l) (hn : l.length = n) (k : Nat) (x : ByteArray) :
    Own w (w'.setCell ⟨g, k, none⟩ (.string x)) (.slice (some ⟨g, 0, none⟩) n c) (l.set k x) := by
  subst hn
  have := (Kd.R_put (enc := Value.string) h (k : Int) x).1
  simp only [Int.toNat_natCast] at this
  exact this
theorem Own.step {w w' w2 : World} {v : Value} {l : List ByteArray} (h : Own w w' v l) (hb : Below w'.heap.size w' w2) : Own w w2 v l := Kd.R_below h hb

theorem pathUnescape_some {s : ByteArray} {u : List UInt8} (hu : unesc s.data.toList = some u) (hs : s.size ≤ 2147483647) (w : World) (hT : Tb w) : Calls Tryd.prog 18 #[.string s] w fun e w' =>
    e = .returned (.tuple #[.string (mk u), .nilIface]) ∧ Aside0 (Below w.heap.size w w') := by
  refine (pathUnescape_any s hs w hT).mono ?_
  rintro e w' ⟨h1, h2, hb⟩
  exact ⟨h1 u hu, ⟨hb⟩⟩
theorem pathUnescape_none {s : ByteArray} (hu : unesc s.data.toList = none) (hs : s.size ≤ 2147483647) (w : World) (hT : Tb w) : Calls Tryd.prog 18 #[.string s] w fun e w' =>
    (∃ x, e = .returned (.tuple #[.string ⟨#[]⟩, .iface 59 (.string x)])) ∧ Aside0 (Below w.heap.size w w') := by
  refine (pathUnescape_any s hs w hT).mono ?_
  rintro e w' ⟨h1, h2, hb⟩
  exact ⟨h2 hu, ⟨hb⟩⟩

/-- The words of a text are not longer than it. -/
theorem splitG_sizes : ∀ (l p : List UInt8), ∀ x ∈ splitG p l, x.length ≤ p.length + l.length
  | [], p, x, hx => by simp [splitG] at hx; subst hx; simp
  | c :: l, p, x, hx => by
    unfold splitG at hx
    split at hx
    · rcases List.mem_cons.1 hx with rfl | hx
      · simp
      · have := splitG_sizes l [] x hx
        simp at this ⊢; omega
    · have := splitG_sizes l (p ++ [c]) x hx
      simp at this ⊢; omega
theorem parse_sizes (l : List UInt8) : ∀ x ∈ (parse l).1, x.size ≤ l.length := by
  intro x hx
  unfold parse at hx
  split at hx
  · simp at hx
  · split at hx
    · split at hx
      · simp at hx
      · simp only [segs, List.mem_map] at hx
        obtain ⟨y, hy, rfl⟩ := hx
        have := splitG_sizes _ _ y hy
        rw [mk_size]
        simp at this ⊢; omega
    · simp at hx
theorem parse_no (l : List UInt8) (h : (parse l).2 = false) : (parse l).1 = [] := by
  unfold parse at h ⊢
  split
  · rfl
  · split
    · split <;> simp_all
    · rfl
theorem getD_mem (l : List ByteArray) (k : Nat) (h : k < l.length) : l.getD k ByteArray.empty ∈ l := by
  rw [List.getD_eq_getElem?_getD, List.getElem?_eq_getElem h]
  exact List.getElem_mem h

set_option maxHeartbeats 1000000 in
theorem pkg_escaped (s : ByteArray) (hs : s.size ≤ 2147483647) (w : World) (hT : Tb w) : Calls Tryd.prog 13 #[.string s] w (Paths w (parseEsc s.data.toList).1 (parseEsc s.data.toList).2) := by
  have HT := Aside0.mk hT
  have HP := Aside0.mk (fun w => (pkg_any s hs w).mono fun e w' h => Paths.form h)
  have hsz := parse_sizes s.data.toList
  rw [size_data] at hsz
  obtain ⟨R, hR⟩ : ∃ R, parseEsc s.data.toList = R := ⟨_, rfl⟩
  have hR' := hR
  unfold parseEsc at hR'
  have hno := parse_no s.data.toList
  obtain ⟨L, hL⟩ : ∃ L, (parse s.data.toList).1 = L := ⟨_, rfl⟩
  obtain ⟨ok, hok⟩ : ∃ ok, (parse s.data.toList).2 = ok := ⟨_, rfl⟩
  rw [hL] at hR' hsz HP hno
  rw [hok] at hR' HP hno
  rw [hR]
  have HRES := Aside0.mk hR'
  have HSZ := Aside0.mk hsz
  clear hR hR' hL hok hsz hT
  cases ok with
  | false =>
    obtain rfl := hno rfl
    go_enter Tryd.func13, Tryd.ntmps13
    go_wp2_with fail
    refine (HP.out _).mono ?_
    rintro e w1 ⟨A, c, rfl, HO, HB⟩
    go_wp2_with fail
    go_ret2
    have hres := HRES.out
    simp only [unall] at hres
    subst hres
    exact ⟨_, rfl, HO, HB⟩
  | true =>
    clear hno
    go_enter Tryd.func13, Tryd.ntmps13
    go_wp2_with fail
    refine (HP.out _).mono ?_
    rintro e w1 ⟨A, c, rfl, HO, HB⟩
    have hmax := Kd.C_max (Kd.R_reads' HO.out).2.2
    go_wp2_with fail
    go_loopw [2, 3, 15] (fun v2 v3 v15 wr => ∃ (k : Nat) (cur : List ByteArray), v2 = .slice A L.length c ∧ v3 = .bool true ∧ v15 = .int .i64 k ∧ k ≤ L.length ∧ Aside0 (Gone L cur k) ∧ Aside0 (Own w wr (.slice A L.length c) cur) ∧ Aside0 (Below w.heap.size w wr)) (fun _ _ v15 _ => L.length - (intOf v15).toNat)
    case atStart => exact ⟨0, L, rfl, rfl, rfl, Nat.zero_le _, ⟨Gone.start L⟩, HO, HB⟩
    case round =>
      clear HO HB
      obtain ⟨k, cur, rfl, rfl, rfl, hk, HG, HO, HB⟩ := hrel
      by_cases hlt : k < L.length
      · have hcl := HG.out.len hk
        obtain ⟨g, rfl, hg⟩ := Own.head HO.out hcl (by omega)
        obtain ⟨hcell, hfz⟩ := Own.cell HO.out hcl k hlt
        rw [HG.out.at_ hlt] at hcell
        have hx := HSZ.out _ (getD_mem L k hlt)
        have HN := Aside0.mk (fun u hu => HG.out.next hlt (u := u) hu)
        have HF := Aside0.mk (HG.out.bad hlt)
        obtain ⟨x, hxe⟩ : ∃ x, L.getD k ByteArray.empty = x := ⟨_, rfl⟩
        rw [hxe] at hcell hx HN HF
        clear hxe
        rcases hu : unesc x.data.toList with _ | u
        · have HU := Aside0.mk (pathUnescape_none hu (by omega) wr (HT.out.below HB.out))
          have HZ := Aside0.mk (HF.out hu)
          clear hu hcl HN HF
          go_wp2_with fail
          refine (HU.out).mono ?_
          rintro e w2 ⟨⟨y, rfl⟩, HB2⟩
          go_wp2_with fail
          go_ret2
          have hres := HRES.out
          rw [HZ.out] at hres
          subst hres
          exact ⟨_, rfl, ⟨Kd.R_nil _ _ _ _ _⟩, ⟨below_step HB.out HB2.out⟩⟩
        · have HU := Aside0.mk (pathUnescape_some hu (by omega) wr (HT.out.below HB.out))
          have HZ := Aside0.mk (HN.out u hu)
          have HCL := Aside0.mk hcl
          clear hu hcl HN HF
          go_wp2_with fail
          refine (HU.out).mono ?_
          rintro e w2 ⟨rfl, HB2⟩
          have HO2 := Aside0.mk (Own.step HO.out HB2.out)
          obtain ⟨hcell2, hfz2⟩ := Own.cell HO2.out HCL.out k hlt
          go_wp2_with fail
          go_roundw
          case rel => exact ⟨k + 1, cur.set k (mk u), rfl, rfl, by go_num, by omega, HZ, ⟨Own.put HO2.out HCL.out k (mk u)⟩, ⟨(below_step HB.out HB2.out).setCell (p := ⟨g, k, none⟩) hg _⟩⟩
          case measure => simp [intOf]; omega
      · have HZ := Aside0.mk (HG.out.all (by omega))
        have HCL := Aside0.mk (HG.out.len hk)
        go_wp2_with fail
        go_ret2
        have hres := HRES.out
        rw [HZ.out] at hres
        subst hres
        exact ⟨_, rfl, HO, HB⟩

theorem impl_escaped (s : ByteArray) (hs : s.size ≤ 2147483647) (w : World) (hT : Tb w) : Calls Tryd.prog 6 #[.string s] w (Paths w (parseEsc s.data.toList).1 (parseEsc s.data.toList).2) := by
  have HP := Aside0.mk (pkg_escaped s hs w hT)
  obtain ⟨l, hl⟩ : ∃ l, (parseEsc s.data.toList).1 = l := ⟨_, rfl⟩
  obtain ⟨ok, hok⟩ : ∃ ok, (parseEsc s.data.toList).2 = ok := ⟨_, rfl⟩
  rw [hl, hok] at HP ⊢
  clear hl hok hT
  go_enter Tryd.func6, Tryd.ntmps6
  go_wp2_with fail
  refine (HP.out).mono ?_
  rintro e w1 ⟨v, rfl, HO1, HB1⟩
  go_wp2
  go_ret2
  exact ⟨_, rfl, HO1, HB1⟩
end Go.Proofs.YtljnooljfbokoaaDoor.WalkE
