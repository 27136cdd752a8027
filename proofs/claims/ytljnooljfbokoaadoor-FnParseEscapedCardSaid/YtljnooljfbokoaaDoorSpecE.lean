/- The reference's ParsePath and ParsePathEscaped tell what 'parse' and 'parseEsc' tell, in new memory. -/
import Derived.Test.YtljnooljfbokoaaDoorWalkE
import Derived.Test.YtljnooljfbokoaaDoorSpecU
namespace Go.Proofs.YtljnooljfbokoaaDoor.WalkE
open Go.RowKit Go.Proofs.YtljnooljfbokoaaDoorW.PrintWords Go.Proofs.YtljnooljfbokoaaDoorW.PrintLast Go.Proofs.YtljnooljfbokoaaDoorW.PrintMore
open Go.Proofs.YtljnooljfbokoaaDoor.Plain Go.Proofs.YtljnooljfbokoaaDoor.WalkA Go.Proofs.YtljnooljfbokoaaDoor.WalkB Go.Proofs.YtljnooljfbokoaaDoor.Pieces Go.Proofs.YtljnooljfbokoaaDoor.ParseA
open Go.Proofs.YtljnooljfbokoaaDoor.Table Go.Proofs.YtljnooljfbokoaaDoor.Unesc Go.Proofs.YtljnooljfbokoaaDoor.WalkU
set_option linter.unusedVariables false
set_option linter.unusedSimpArgs false

theorem spec_any (s : ByteArray) (hs : s.size ≤ 2147483647) (w : World) : Calls Tryd.prog 11 #[.string s] w (Paths w (parse s.data.toList).1 (parse s.data.toList).2) := by
  obtain ⟨k, hk⟩ := spec_parse s hs
  refine (PFnParseEscaped.spec_ParsePath.calls k s _ _ w hk).mono ?_
  rintro e w' ⟨v, rfl, hr, hb⟩
  exact ⟨v, rfl, ⟨hr⟩, ⟨hb⟩⟩

theorem unescaped_some {s : ByteArray} {u : List UInt8} (hu : unesc s.data.toList = some u) (hs : s.size ≤ 2147483647) (w : World) : Calls Tryd.prog 12 #[.string s] w fun e w' =>
    e = .returned (.tuple #[.string (mk u), .bool true]) ∧ Aside0 (Below w.heap.size w w') := by
  refine (spec_unescaped s hs w).mono ?_
  rintro e w' ⟨rfl, hb⟩
  rw [hu]
  simp only [tell, List.nil_append, toInts_str]
  exact ⟨trivial, ⟨hb⟩⟩
theorem unescaped_none {s : ByteArray} (hu : unesc s.data.toList = none) (hs : s.size ≤ 2147483647) (w : World) : Calls Tryd.prog 12 #[.string s] w fun e w' =>
    e = .returned (.tuple #[.string ⟨#[]⟩, .bool false]) ∧ Aside0 (Below w.heap.size w w') := by
  refine (spec_unescaped s hs w).mono ?_
  rintro e w' ⟨rfl, hb⟩
  rw [hu]
  exact ⟨rfl, ⟨hb⟩⟩

set_option maxHeartbeats 1000000 in
theorem spec_escaped (s : ByteArray) (hs : s.size ≤ 2147483647) (w : World) : Calls Tryd.prog 5 #[.string s] w (Paths w (parseEsc s.data.toList).1 (parseEsc s.data.toList).2) := by
  have HP := Aside0.mk (fun w => (spec_any s hs w).mono fun e w' h => Paths.form h)
  have hsz := parse_sizes s.data.toList
  rw [size_data] at hsz
  obtain ⟨R, hR⟩ : ∃ R, parseEsc s.data.toList = R := ⟨_, rfl⟩
  have hR' := hR
  unfold parseEsc at hR'
  obtain ⟨L, hL⟩ : ∃ L, (parse s.data.toList).1 = L := ⟨_, rfl⟩
  obtain ⟨ok, hok⟩ : ∃ ok, (parse s.data.toList).2 = ok := ⟨_, rfl⟩
  rw [hL] at hR' hsz HP
  rw [hok] at hR' HP
  rw [hR]
  have HRES := Aside0.mk hR'
  have HSZ := Aside0.mk hsz
  clear hR hR' hL hok hsz
  go_enter Tryd.func5, Tryd.ntmps5
  go_wp2_with fail
  refine (HP.out _).mono ?_
  rintro e w1 ⟨A, c, rfl, HO, HB⟩
  have hmax := Kd.C_max (Kd.R_reads' HO.out).2.2
  go_wp2_with fail
  go_loopw [17] (fun v17 wr => ∃ (k : Nat) (cur : List ByteArray), v17 = .int .i64 k ∧ k ≤ L.length ∧ Aside0 (Gone L cur k) ∧ Aside0 (Own w wr (.slice A L.length c) cur) ∧ Aside0 (Below w.heap.size w wr)) (fun v17 _ => L.length - (intOf v17).toNat)
  case atStart => exact ⟨0, L, rfl, Nat.zero_le _, ⟨Gone.start L⟩, HO, HB⟩
  case round =>
    clear HO HB
    obtain ⟨k, cur, rfl, hk, HG, HO, HB⟩ := hrel
    by_cases hlt : k < L.length
    · have hcl := HG.out.len hk
      obtain ⟨g, rfl, hg⟩ := Own.head HO.out hcl (by omega)
      obtain ⟨hcell, hfz⟩ := Own.cell HO.out hcl k hlt
      rw [HG.out.at_ hlt] at hcell
      have hx := HSZ.out _ (getD_mem L k hlt)
      have HN := Aside0.mk (fun u hu => HG.out.next hlt (u := u) hu)
      have HF := Aside0.mk (HG.out.bad hlt)
      obtain ⟨x, hxe⟩ : ∃ x, L.getD k ByteArray.empty = x := ⟨_, rfl⟩
      rw [hxe] at hcell hx HN HF
      clear hxe
      rcases hu : unesc x.data.toList with _ | u
      · have HU := Aside0.mk (unescaped_none hu (by omega))
        have HZ := Aside0.mk (HF.out hu)
        clear hu hcl HN HF
        go_wp2_with fail
        refine (HU.out _).mono ?_
        rintro e w2 ⟨rfl, HB2⟩
        go_wp2_with fail
        go_ret2
        have hres := HRES.out
        rw [HZ.out] at hres
        subst hres
        exact ⟨_, rfl, ⟨Kd.R_nil _ _ _ _ _⟩, ⟨below_step HB.out HB2.out⟩⟩
      · have HU := Aside0.mk (unescaped_some hu (by omega))
        have HZ := Aside0.mk (HN.out u hu)
        have HCL := Aside0.mk hcl
        clear hu hcl HN HF
        go_wp2_with fail
        refine (HU.out _).mono ?_
        rintro e w2 ⟨rfl, HB2⟩
        have HO2 := Aside0.mk (Own.step HO.out HB2.out)
        obtain ⟨hcell2, hfz2⟩ := Own.cell HO2.out HCL.out k hlt
        go_wp2_with fail
        go_roundw
        case rel => exact ⟨k + 1, cur.set k (mk u), by go_num, by omega, HZ, ⟨Own.put HO2.out HCL.out k (mk u)⟩, ⟨(below_step HB.out HB2.out).setCell (p := ⟨g, k, none⟩) hg _⟩⟩
        case measure => simp [intOf]; omega
    · have HZ := Aside0.mk (HG.out.all (by omega))
      have HCL := Aside0.mk (HG.out.len hk)
      go_wp2_with fail
      go_ret2
      have hres := HRES.out
      rw [HZ.out] at hres
      subst hres
      exact ⟨_, rfl, HO, HB⟩
end Go.Proofs.YtljnooljfbokoaaDoor.WalkE
