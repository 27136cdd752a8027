/- The walk of net/url's unescape at the mode of path segments, and PathUnescape: it tells what 'unesc' tells. -/
import Derived.Test.YtljnooljfbokoaaDoorUnesc
import Derived.WalkLawsBesides
import Derived.WalkSpells
import Derived.Test.YtljnooljfbokoaaDoorBld
import Derived.StillTailTactics
namespace Go.Proofs.YtljnooljfbokoaaDoor.WalkU
open Go.RowKit Go.Proofs.YtljnooljfbokoaaDoorW.PrintWords Go.Proofs.YtljnooljfbokoaaDoorW.PrintLast Go.Proofs.YtljnooljfbokoaaDoorW.PrintMore
open Go.Proofs.YtljnooljfbokoaaDoor.Pieces Go.Proofs.YtljnooljfbokoaaDoor.Table Go.Proofs.YtljnooljfbokoaaDoor.Unesc Go.Proofs.YtljnooljfbokoaaDoor.Bld
set_option linter.unusedVariables false
set_option linter.unusedSimpArgs false

/-- What unescape leaves. -/
def Unescs (o : Option (List UInt8)) (w : World) (e : Ending) (w' : World) : Prop :=
  (∀ u, o = some u → e = .returned (.tuple #[.string (mk u), .nilIface])) ∧ (o = none → ∃ x, e = .returned (.tuple #[.string ⟨#[]⟩, .iface 59 (.string x)])) ∧ Below w.heap.size w w'

theorem Unescs.some_ {o : Option (List UInt8)} {u : List UInt8} {x : ByteArray} {w w' : World} (h : o = some u) (hx : x = mk u) (hb : Below w.heap.size w w') : Unescs o w (.returned (.tuple #[.string x, .nilIface])) w' := by
  subst hx
  exact ⟨fun v hv => (by rw [h] at hv; rw [Option.some.inj hv]), fun hn => (by rw [h] at hn; exact absurd hn (by simp)), hb⟩
theorem Unescs.none_ {o : Option (List UInt8)} {x : ByteArray} {w w' : World} (h : o = none) (hb : Below w.heap.size w w') : Unescs o w (.returned (.tuple #[.string ⟨#[]⟩, .iface 59 (.string x)])) w' :=
  ⟨fun v hv => (by rw [h] at hv; exact absurd hv (by simp)), fun _ => ⟨x, rfl⟩, hb⟩

/-- How far the first loop has come: k bytes looked at, m of the escapes met. -/
def Seen (l : List UInt8) (k m : Nat) : Prop := ∃ p, unesc l = (unesc (l.drop k)).map (p ++ ·) ∧ (m = 0 → p = l.take k)

theorem Seen.start (l : List UInt8) : Seen l 0 0 := ⟨[], by simp, fun _ => rfl⟩
theorem Seen.other {l : List UInt8} {k m : Nat} (h : Seen l k m) (hk : k < l.length) (hc : ¬ l[k] = 37) : Seen l (k + 1) m := by
  obtain ⟨p, h1, h2⟩ := h
  refine ⟨p ++ [l[k]], ?_, fun hm => ?_⟩
  · rw [h1, drop_data l k hk, unesc_other _ hc, Option.map_map]
    congr 1
    funext x
    simp
  · rw [h2 hm, List.take_succ_eq_append_getElem hk]
theorem Seen.esc {l : List UInt8} {k m : Nat} (h : Seen l k m) (hk : k + 2 < l.length) (hc : l[k] = 37) (ha : hexB l[k + 1] = true) (hb : hexB l[k + 2] = true) : Seen l (k + 3) (m + 1) := by
  obtain ⟨p, h1, h2⟩ := h
  refine ⟨p ++ [escV l[k + 1] l[k + 2]], ?_, fun hm => by omega⟩
  rw [h1, drop_data l k (by omega), drop_data l (k + 1) (by omega), drop_data l (k + 2) hk, hc]
  have e1 : l[k + 1 + 1] = l[k + 2] := rfl
  rw [unesc_esc _ _ _ ha hb, Option.map_map]
  congr 1
  funext x
  simp
theorem Seen.bad {l : List UInt8} {k m : Nat} (h : Seen l k m) (hk : k + 2 < l.length) (hc : l[k] = 37) (hab : ¬ (hexB l[k + 1] = true ∧ hexB l[k + 2] = true)) : unesc l = none := by
  obtain ⟨p, h1, h2⟩ := h
  rw [h1, drop_data l k (by omega), drop_data l (k + 1) (by omega), drop_data l (k + 2) hk, hc, unesc_bad _ _ _ hab]
  rfl
theorem Seen.short {l : List UInt8} {k m : Nat} (h : Seen l k m) (hk : k < l.length) (h2 : l.length ≤ k + 2) (hc : l[k] = 37) : unesc l = none := by
  obtain ⟨p, h1, _⟩ := h
  rw [h1, drop_data l k hk, hc, unesc_short _ (by rw [List.length_drop]; omega)]
  rfl
theorem Seen.all {l : List UInt8} {k : Nat} (h : Seen l k 0) (hk : l.length ≤ k) : unesc l = some l := by
  obtain ⟨p, h1, h2⟩ := h
  have hnil : l.drop k = [] := List.drop_eq_nil_of_le hk
  have ht : l.take k = l := List.take_of_length_le hk
  rw [h1, hnil, h2 rfl, ht]
  simp [unesc]
theorem Seen.some_ {l : List UInt8} {k m : Nat} (h : Seen l k m) (hk : l.length ≤ k) : ∃ u, unesc l = some u := by
  obtain ⟨p, h1, h2⟩ := h
  have hnil : l.drop k = [] := List.drop_eq_nil_of_le hk
  rw [h1, hnil]
  exact ⟨p ++ [], by simp [unesc]⟩

/-- What comes next in a word that has no wrong escape. -/
theorem next_esc {l : List UInt8} {k : Nat} {u : List UInt8} (h : unesc (l.drop k) = some u) (hk : k < l.length) (hc : l[k] = 37) :
    ∃ h2 : k + 2 < l.length, ∃ u', u = escV l[k + 1] l[k + 2] :: u' ∧ unesc (l.drop (k + 3)) = some u' ∧ hexB l[k + 1] = true ∧ hexB l[k + 2] = true := by
  by_cases h2 : k + 2 < l.length
  · refine ⟨h2, ?_⟩
    rw [drop_data l k (by omega), drop_data l (k + 1) (by omega), drop_data l (k + 2) h2, hc] at h
    have e1 : l[k + 1 + 1] = l[k + 2] := rfl
    rw [e1] at h
    by_cases hab : hexB l[k + 1] = true ∧ hexB l[k + 2] = true
    · rw [unesc_esc _ _ _ hab.1 hab.2] at h
      obtain ⟨u', hu, rfl⟩ := Option.map_eq_some_iff.1 h
      exact ⟨u', rfl, hu, hab.1, hab.2⟩
    · rw [unesc_bad _ _ _ hab] at h
      exact absurd h (by simp)
  · rw [drop_data l k hk, hc, unesc_short _ (by rw [List.length_drop]; omega)] at h
    exact absurd h (by simp)
theorem next_other {l : List UInt8} {k : Nat} {u : List UInt8} (h : unesc (l.drop k) = some u) (hk : k < l.length) (hc : ¬ l[k] = 37) :
    ∃ u', u = l[k] :: u' ∧ unesc (l.drop (k + 1)) = some u' := by
  rw [drop_data l k hk, unesc_other _ hc] at h
  obtain ⟨u', hu, rfl⟩ := Option.map_eq_some_iff.1 h
  exact ⟨u', rfl, hu⟩
theorem next_end {l : List UInt8} {k : Nat} {u : List UInt8} (h : unesc (l.drop k) = some u) (hk : l.length ≤ k) : u = [] := by
  have hnil : l.drop k = [] := List.drop_eq_nil_of_le hk
  rw [hnil, unesc] at h
  exact (Option.some.inj h).symm

theorem or_u8_fin : ∀ a : Fin 16, ∀ b : Fin 16, bits BinOp.or IntKind.u8 (IntKind.u8.wrap ((a.val : Int) * 16)) (b.val : Int) = ((UInt8.ofNat (16 * a.val + b.val)).toNat : Int) := by decide +kernel
theorem or_u8 {a b : UInt8} (ha : hexB a = true) (hb : hexB b = true) : bits BinOp.or IntKind.u8 (IntKind.u8.wrap ((hexV a : Int) * 16)) (hexV b : Int) = ((escV a b).toNat : Int) :=
  or_u8_fin ⟨hexV a, hexV_small ha⟩ ⟨hexV b, hexV_small hb⟩

/-- A byte of a string, in the walk's spelling. -/
theorem at_byte {s : ByteArray} {k : Nat} {c : UInt8} (h : k < s.data.toList.length) (hc : s.data.toList[k] = c) : ∀ hk : k < s.size, ((s[k]'hk).toNat : Int) = (c.toNat : Int) := fun hk => by
  subst hc
  rw [Array.getElem_toList]
  rfl
theorem not_byte {c d : UInt8} (h : ¬ c = d) : ((c.toNat : Int) == (d.toNat : Int)) = false := by
  have : ¬ (c.toNat : Int) = (d.toNat : Int) := fun e => h (UInt8.toNat_inj.1 (by omega))
  simpa using this

set_option maxRecDepth 100000 in
set_option maxHeartbeats 2000000 in
theorem unescape_any (s : ByteArray) (hs : s.size ≤ 2147483647) (w : World) (hT : Tb w) : Calls Tryd.prog 25 #[.string s, .int .u8 2] w (Unescs (unesc s.data.toList) w) := by
  have hsz := size_data s
  have HT := Aside0.mk hT
  have HSZ := Aside0.mk hsz
  clear hT hsz
  go_enter Tryd.func25, Tryd.ntmps25
  go_wp2_with fail
  go_loop [0, 6, 7, 8] (fun v0 v6 v7 v8 => ∃ k m : Nat, v0 = .string s ∧ v6 = .int .i64 m ∧ v7 = .bool false ∧ v8 = .int .i64 k ∧ k ≤ s.size ∧ 3 * m ≤ k ∧ Aside0 (Seen s.data.toList k m)) (fun _ _ _ v8 => s.size - (intOf v8).toNat)
  case atStart => exact ⟨0, 0, rfl, rfl, rfl, rfl, Nat.zero_le _, Nat.zero_le _, ⟨Seen.start _⟩⟩
  case round =>
    obtain ⟨k, m, rfl, rfl, rfl, rfl, hk, hm, HS⟩ := hrel
    by_cases hlt : k < s.size
    · have hl : k < s.data.toList.length := by rw [HSZ.out]; exact hlt
      by_cases h37 : s.data.toList[k] = 37
      · have hat : ∀ hk : k < s.size, ((s[k]'hk).toNat : Int) = 37 := at_byte (c := 37) hl h37
        by_cases hshort : k + 2 < s.size
        · have hl2 : k + 2 < s.data.toList.length := by rw [HSZ.out]; exact hshort
          have hl1 : k + 1 < s.data.toList.length := by omega
          have HE := Aside0.mk (fun ha hb => HS.out.esc hl2 h37 ha hb)
          have HF := Aside0.mk (fun hab => HS.out.bad hl2 h37 hab)
          obtain ⟨a, ha⟩ : ∃ c, s.data.toList[k + 1] = c := ⟨_, rfl⟩
          obtain ⟨b, hb⟩ : ∃ c, s.data.toList[k + 2] = c := ⟨_, rfl⟩
          have hat1 := at_byte hl1 ha
          have hat2 := at_byte hl2 hb
          rw [ha, hb] at HE HF
          clear ha hb h37 hl hl1 hl2
          have A := Aside0.mk (ishex_any a w HT.out)
          have B := Aside0.mk (ishex_any b w HT.out)
          by_cases hha : hexB a = true
          · rw [hha] at A
            by_cases hhb : hexB b = true
            · rw [hhb] at B
              have HN := Aside0.mk (HE.out hha hhb)
              clear hha hhb
              go_wp2_with (go_at_call 30; first | ((with_reducible refine (A.out).mono ?_); rintro e w' ⟨rfl, rfl⟩) | ((with_reducible refine (B.out).mono ?_); rintro e w' ⟨rfl, rfl⟩))
              go_round
              case rel => exact ⟨k + 3, m + 1, rfl, by go_num, rfl, by go_num, by omega, by omega, HN⟩
              case measure => simp [intOf]; omega
            · have hhb' : hexB b = false := by simpa using hhb
              rw [hhb'] at B
              have HN := Aside0.mk (HF.out (fun h => hhb h.2))
              clear hha hhb hhb'
              go_wp2_with (go_at_call 30; first | ((with_reducible refine (A.out).mono ?_); rintro e w' ⟨rfl, rfl⟩) | ((with_reducible refine (B.out).mono ?_); rintro e w' ⟨rfl, rfl⟩))
              all_goals go_ret2
              all_goals exact Unescs.none_ HN.out (Below.refl _ _)
          · have hha' : hexB a = false := by simpa using hha
            rw [hha'] at A
            have HN := Aside0.mk (HF.out (fun h => hha h.1))
            clear hha hha'
            go_wp2_with (go_at_call 30; first | ((with_reducible refine (A.out).mono ?_); rintro e w' ⟨rfl, rfl⟩) | ((with_reducible refine (B.out).mono ?_); rintro e w' ⟨rfl, rfl⟩))
            all_goals go_ret2
            all_goals exact Unescs.none_ HN.out (Below.refl _ _)
        · have HN := Aside0.mk (HS.out.short hl (by rw [HSZ.out]; omega) h37)
          clear h37
          go_wp2_with fail
          all_goals go_ret2
          all_goals exact Unescs.none_ HN.out (Below.refl _ _)
      · have HN := Aside0.mk (HS.out.other hl h37)
        obtain ⟨c, hc⟩ : ∃ c, s.data.toList[k] = c := ⟨_, rfl⟩
        have hat := at_byte hl hc
        have t37 : ((c.toNat : Int) == 37) = false := not_byte (d := 37) (by rw [← hc]; exact h37)
        clear hc h37 hl
        by_cases h43 : c = 43
        · have t43 : ((c.toNat : Int) == 43) = true := by subst h43; rfl
          clear h43
          go_wp2_with fail
          go_round
          case rel => exact ⟨k + 1, m, rfl, rfl, rfl, by go_num, by omega, by omega, HN⟩
          case measure => simp [intOf]; omega
        · have t43 : ((c.toNat : Int) == 43) = false := not_byte (d := 43) h43
          clear h43
          go_wp2_with fail
          go_round
          case rel => exact ⟨k + 1, m, rfl, rfl, rfl, by go_num, by omega, by omega, HN⟩
          case measure => simp [intOf]; omega
    · by_cases hm0 : m = 0
      · subst hm0
        have HU := Aside0.mk (HS.out.all (by rw [HSZ.out]; omega))
        go_wp2_with fail
        go_ret2
        exact Unescs.some_ HU.out (mk_of s).symm (Below.refl _ _)
      · have HU := Aside0.mk (HS.out.some_ (by rw [HSZ.out]; omega))
        have t0 : ((m : Int) == 0) = false := by simpa using hm0
        have g0 : (0 : Int) ≤ (s.size : Int) - 2 * (m : Int) := by omega
        have g1 : (s.size : Int) - 2 * (m : Int) ≤ 281474976710656 := by omega
        clear hm0
        obtain ⟨u, hu⟩ := HU.out
        have HV := Aside0.mk hu
        clear hu HU HS
        go_wp2_with fail
        refine (grow_new w _ g0 g1).mono ?_
        rintro e w1 ⟨rfl, HB0, HW0⟩
        have HW := Aside0.mk ((below_alloc (Below.refl w.heap.size w) _).trans HW0.out)
        go_wp2_with fail
        go_loopw [12] (fun v12 wr => ∃ (k : Nat) (out rest : List UInt8), v12 = .int .i64 k ∧ k ≤ s.size ∧ out.length ≤ k ∧ Aside0 (unesc (s.data.toList.drop k) = some rest) ∧ Aside0 (out ++ rest = u) ∧ Aside0 (Bl w.heap.size out wr) ∧ Aside0 (Below w.heap.size w wr)) (fun v12 _ => s.size - (intOf v12).toNat)
        case atStart => exact ⟨0, [], u, rfl, Nat.zero_le _, Nat.zero_le _, ⟨by rw [List.drop_zero]; exact HV.out⟩, ⟨List.nil_append u⟩, HB0, HW⟩
        case round =>
          clear hk hm g0 g1 t0 HB0 HW HW0
          obtain ⟨k2, out, rest, rfl, hk2, hout, HR, HQ, HB, HW⟩ := hrel
          have hsize := below_size HW.out
          by_cases hlt2 : k2 < s.size
          · have hl : k2 < s.data.toList.length := by rw [HSZ.out]; exact hlt2
            by_cases h37 : s.data.toList[k2] = 37
            · obtain ⟨hl2, rest', hrest, hr', hha, hhb⟩ := next_esc HR.out hl h37
              have hshort : k2 + 2 < s.size := by rw [← HSZ.out]; exact hl2
              have hl1 : k2 + 1 < s.data.toList.length := by omega
              have hat : ∀ hk : k2 < s.size, ((s[k2]'hk).toNat : Int) = 37 := at_byte (c := 37) hl h37
              obtain ⟨a, ha⟩ : ∃ c, s.data.toList[k2 + 1] = c := ⟨_, rfl⟩
              obtain ⟨b, hb⟩ : ∃ c, s.data.toList[k2 + 2] = c := ⟨_, rfl⟩
              have hat1 := at_byte hl1 ha
              have hat2 := at_byte hl2 hb
              rw [ha, hb] at hrest
              rw [ha] at hha
              rw [hb] at hhb
              have HR' := Aside0.mk hr'
              have HREST := Aside0.mk hrest
              have HC := Aside0.mk (byte_any w.heap.size out (escV a b) wr.drew HB.out.drew (by omega) hsize)
              rw [← or_u8 hha hhb] at HC
              clear ha hb h37 hl hl1 hl2 hrest hr' hha hhb
              have x1 : (k2 : Int) + 1 < (s.size : Int) := by omega
              have x2 : (k2 : Int) + 2 < (s.size : Int) := by omega
              have x3 : (0 : Int) ≤ (k2 : Int) + 1 := by omega
              have x4 : (0 : Int) ≤ (k2 : Int) + 2 := by omega
              have x5 : ((k2 : Int) + 1).toNat = k2 + 1 := by omega
              have x6 : ((k2 : Int) + 2).toNat = k2 + 2 := by omega
              have x7 : IntKind.i64.wrap ((k2 : Int) + 1) = (k2 : Int) + 1 := IntWalk.i64_in _ (by omega)
              have x8 : IntKind.i64.wrap ((k2 : Int) + 2) = (k2 : Int) + 2 := IntWalk.i64_in _ (by omega)
              have UA := Aside0.mk (unhex_any a)
              have UB := Aside0.mk (unhex_any b)
              go_wp2_with fail
              go_still_tail 12, (by kernel_rfl)
              still_call ((UA.out _).mono fun e w' h => ⟨h.1, h.2.symm⟩)
              repeat still_step
              still_call ((UB.out _).mono fun e w' h => ⟨h.1, h.2.symm⟩)
              repeat still_step
              refine wpStill_nil ?_
              change wpList _ _ _ _ _ wr.drew
              go_wp2_with fail
              refine (HC.out).mono ?_
              rintro e w2 ⟨rfl, HB2, HW2⟩
              go_wp2_with fail
              go_roundw
              case rel => exact ⟨k2 + 3, out ++ [escV a b], rest', by go_num, by omega, by simp; omega, HR', ⟨by rw [List.append_assoc, ← HQ.out, HREST.out]; rfl⟩, HB2, ⟨(below_drew HW.out).trans HW2.out⟩⟩
              case measure => simp [intOf]; omega
            · obtain ⟨rest', hrest, hr'⟩ := next_other HR.out hl h37
              obtain ⟨c, hc⟩ : ∃ c, s.data.toList[k2] = c := ⟨_, rfl⟩
              have hat := at_byte hl hc
              have t37 : ((c.toNat : Int) == 37) = false := not_byte (d := 37) (by rw [← hc]; exact h37)
              rw [hc] at hrest
              have HR' := Aside0.mk hr'
              have HREST := Aside0.mk hrest
              clear hc h37 hl hrest hr'
              have HC := Aside0.mk (byte_any w.heap.size out c wr HB.out (by omega) hsize)
              by_cases h43 : c = 43
              · have t43 : ((c.toNat : Int) == 43) = true := by subst h43; rfl
                subst h43
                have e43 : (((43 : UInt8).toNat : Nat) : Int) = 43 := rfl
                rw [e43] at HC
                clear e43
                go_wp2_with fail
                refine (HC.out).mono ?_
                rintro e w2 ⟨rfl, HB2, HW2⟩
                go_wp2_with fail
                go_roundw
                case rel => exact ⟨k2 + 1, out ++ [43], rest', by go_num, by omega, by simp; omega, HR', ⟨by rw [List.append_assoc, ← HQ.out, HREST.out]; rfl⟩, HB2, ⟨HW.out.trans HW2.out⟩⟩
                case measure => simp [intOf]; omega
              · have t43 : ((c.toNat : Int) == 43) = false := not_byte (d := 43) h43
                clear h43
                go_wp2_with fail
                refine (HC.out).mono ?_
                rintro e w2 ⟨rfl, HB2, HW2⟩
                go_wp2_with fail
                go_roundw
                case rel => exact ⟨k2 + 1, out ++ [c], rest', by go_num, by omega, by simp; omega, HR', ⟨by rw [List.append_assoc, ← HQ.out, HREST.out]; rfl⟩, HB2, ⟨HW.out.trans HW2.out⟩⟩
                case measure => simp [intOf]; omega
          · have E := Aside0.mk (next_end HR.out (by rw [HSZ.out]; omega))
            have HX := Aside0.mk (text_any w.heap.size out wr HB.out hsize)
            go_wp2_with fail
            refine (HX.out).mono ?_
            rintro e w2 ⟨rfl, HW2⟩
            go_wp2_with fail
            go_ret2
            exact Unescs.some_ HV.out (by rw [← HQ.out, E.out, List.append_nil]) (HW.out.trans HW2.out)

theorem pathUnescape_any (s : ByteArray) (hs : s.size ≤ 2147483647) (w : World) (hT : Tb w) : Calls Tryd.prog 18 #[.string s] w (Unescs (unesc s.data.toList) w) := by
  have H := Aside0.mk (unescape_any s hs w hT)
  obtain ⟨o, ho⟩ : ∃ o, unesc s.data.toList = o := ⟨_, rfl⟩
  rw [ho] at H ⊢
  clear ho hT
  cases o with
  | some u =>
    go_enter Tryd.func18, Tryd.ntmps18
    go_wp2_with fail
    refine (H.out).mono ?_
    rintro e w1 ⟨h1, h2, hb⟩
    obtain rfl := h1 u rfl
    have HB := Aside0.mk hb
    clear h1 h2 hb
    go_wp2_with fail
    go_ret2
    exact Unescs.some_ rfl rfl HB.out
  | none =>
    go_enter Tryd.func18, Tryd.ntmps18
    go_wp2_with fail
    refine (H.out).mono ?_
    rintro e w1 ⟨h1, h2, hb⟩
    obtain ⟨x, rfl⟩ := h2 rfl
    have HB := Aside0.mk hb
    clear h1 h2 hb
    go_wp2_with fail
    go_ret2
    exact Unescs.none_ rfl HB.out
end Go.Proofs.YtljnooljfbokoaaDoor.WalkU
