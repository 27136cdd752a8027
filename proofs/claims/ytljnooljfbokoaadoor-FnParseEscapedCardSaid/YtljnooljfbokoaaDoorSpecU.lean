/- The reference's Unescaped, as it is printed, tells what 'unesc' tells. -/
import Derived.Test.YtljnooljfbokoaaDoorParseA
import Derived.Test.YtljnooljfbokoaaDoorUnesc
namespace Go.Proofs.YtljnooljfbokoaaDoor.Unesc
open Go.RowKit Go.Proofs.YtljnooljfbokoaaDoor.PFnParseEscaped Go.Proofs.YtljnooljfbokoaaDoorW.PrintWords Go.Proofs.YtljnooljfbokoaaDoorW.PrintLast
open Go.Proofs.YtljnooljfbokoaaDoor.Pieces Go.Proofs.YtljnooljfbokoaaDoor.ParseA Go.Proofs.YtljnooljfbokoaaDoor.Table

/-- What the reference's digit tells. -/
theorem digit_fin : ∀ n : Fin 256, spec_digit.f 3 (n.val : Int) = some (if hexB (UInt8.ofNat n.val) then ((hexV (UInt8.ofNat n.val) : Int), true) else (0, false)) := by decide +kernel
theorem digit_any (c : UInt8) (k : Nat) (hk : 3 ≤ k) : spec_digit.f k (c.toNat : Int) = some (if hexB c then ((hexV c : Int), true) else (0, false)) := by
  have := digit_fin ⟨c.toNat, c.toNat_lt⟩
  simp only [UInt8.ofNat_toNat] at this
  exact at_rounds (spec_digit.mono _) hk this

/-- What a loop that has made out already tells of the rest. -/
def tell (out : List Int) : Option (List UInt8) → ByteArray × Bool
  | some u => (strOfNums (out ++ toInts u), true)
  | none => (⟨#[]⟩, false)
theorem tell_cons (out : List Int) (c : UInt8) (o : Option (List UInt8)) : tell out (o.map (c :: ·)) = tell (out ++ [(c.toNat : Int)]) o := by
  cases o with
  | none => rfl
  | some u => simp [tell, toInts]

theorem or_fin : ∀ a : Fin 16, ∀ b : Fin 16, (Go.bits .or .i64 (wrap64 ((a.val : Int) * 16)) (b.val : Int)) % 256 = ((UInt8.ofNat (16 * a.val + b.val)).toNat : Int) := by decide +kernel
theorem or_esc {a b : UInt8} (ha : hexB a = true) (hb : hexB b = true) : (Go.bits .or .i64 (wrap64 ((hexV a : Int) * 16)) (hexV b : Int)) % 256 = ((escV a b).toNat : Int) :=
  or_fin ⟨hexV a, hexV_small ha⟩ ⟨hexV b, hexV_small hb⟩

theorem wrap_two (i n : Nat) (h : i < n) (hn : n ≤ 2147483647) : wrap64 ((i : Int) + 2) = ((i + 2 : Nat) : Int) := by
  unfold wrap64
  omega

theorem spec_loop (s : ByteArray) (hs : s.size ≤ 2147483647) (d : Nat) : ∀ (k i : Nat) (out : List Int), i ≤ s.size → s.size - i = d → d + 3 < k → out.length + d < 140737488355328 →
    spec_Unescaped.l0 k s out (i : Int) = some (tell out (unesc (s.data.toList.drop i))) := by
  have hsz := size_data s
  induction d using Nat.strongRecOn with
  | _ d ih =>
    intro k i out hi hd hk ho
    obtain ⟨k, rfl⟩ : ∃ m, k = m + 1 := ⟨k - 1, by omega⟩
    simp only [spec_Unescaped.l0]
    by_cases hlt : i < s.size
    · have hl : i < s.data.toList.length := by omega
      rw [if_pos (by omega), if_pos (by omega), wrap_next i s.size hlt hs, wrap_two i s.size hlt hs, bt_data s i hl, drop_data _ i hl]
      obtain ⟨c, hc⟩ : ∃ c, s.data.toList[i] = c := ⟨_, rfl⟩
      rw [hc]
      by_cases h37 : c = 37
      · subst h37
        rw [if_pos (by decide)]
        by_cases hshort : i + 2 < s.size
        · have hl1 : i + 1 < s.data.toList.length := by omega
          have hl2 : i + 2 < s.data.toList.length := by omega
          rw [if_neg (by omega), if_pos (by omega), if_pos (by omega), bt_data s (i + 1) hl1, digit_any _ k (by omega)]
          simp only [Option.bind_some]
          rw [if_pos (by omega), if_pos (by omega), bt_data s (i + 2) hl2, digit_any _ k (by omega)]
          simp only [Option.bind_some]
          rw [drop_data _ (i + 1) hl1, drop_data _ (i + 2) hl2]
          obtain ⟨a, ha⟩ : ∃ c, s.data.toList[i + 1] = c := ⟨_, rfl⟩
          obtain ⟨b, hb⟩ : ∃ c, s.data.toList[i + 2] = c := ⟨_, rfl⟩
          have hb' : s.data.toList[i + 1 + 1] = b := hb
          rw [ha, hb]
          by_cases hha : hexB a = true
          · rw [if_pos hha]
            simp only [if_true]
            by_cases hhb : hexB b = true
            · rw [if_pos hhb]
              simp only [if_true]
              rw [if_pos (by omega), or_esc hha hhb]
              have hw3 : wrap64 (((i + 2 : Nat) : Int) + 1) = ((i + 3 : Nat) : Int) := wrap_next (i + 2) s.size hshort hs
              rw [hw3, ih (s.size - (i + 3)) (by omega) k (i + 3) _ (by omega) rfl (by omega) (by rw [List.length_append, List.length_singleton]; omega)]
              rw [unesc_esc a b _ hha hhb, tell_cons]
            · rw [if_neg hhb]
              simp only [Bool.false_eq_true, if_false]
              rw [unesc_bad a b _ (fun h => hhb h.2)]
              rfl
          · rw [if_neg hha]
            simp only [Bool.false_eq_true, if_false]
            rw [unesc_bad a b _ (fun h => hha h.1)]
            rfl
        · rw [if_pos (by omega), unesc_short _ (by rw [List.length_drop]; omega)]
          rfl
      · have hne : ¬ (c.toNat : Int) = 37 := fun e => h37 (by
          apply UInt8.toNat_inj.1
          have : c.toNat = 37 := by omega
          rw [this]; rfl)
        rw [if_neg hne, if_pos (by omega), ih (s.size - (i + 1)) (by omega) k (i + 1) _ (by omega) rfl (by omega) (by rw [List.length_append, List.length_singleton]; omega)]
        rw [unesc_other _ h37, tell_cons]
    · have hnil : s.data.toList.drop i = [] := List.drop_eq_nil_of_le (by omega)
      rw [if_neg (by omega), hnil]
      simp [unesc, tell, toInts]

/-- The reference's word with its escapes replaced. -/
theorem spec_unescaped (s : ByteArray) (hs : s.size ≤ 2147483647) (w : World) : Calls Tryd.prog 12 #[.string s] w fun e w' =>
    e = .returned (.tuple #[.string (tell [] (unesc s.data.toList)).1, .bool (tell [] (unesc s.data.toList)).2]) ∧ Below w.heap.size w w' := by
  have := spec_loop s hs s.size (s.size + 4) 0 [] (Nat.zero_le _) rfl (by omega) (by simp; omega)
  simp only [List.drop_zero] at this
  exact spec_Unescaped.calls (s.size + 4) s _ _ w this
end Go.Proofs.YtljnooljfbokoaaDoor.Unesc
