/- The reference's ParsePath, as it is printed, tells what 'parse' tells; no memory and no Go in sight. -/
import Derived.Test.YtljnooljfbokoaaDoorPFnParseEscapedx1
import Derived.Test.YtljnooljfbokoaaDoorParseC
namespace Go.Proofs.YtljnooljfbokoaaDoor.ParseA
open Go.RowKit Go.Proofs.YtljnooljfbokoaaDoor.PFnParseEscaped Go.Proofs.YtljnooljfbokoaaDoorW.PrintWords Go.Proofs.YtljnooljfbokoaaDoorW.PrintLast
open Go.Proofs.YtljnooljfbokoaaDoor.Pieces

/-- The reference's loop. -/
theorem spec_loop (s : ByteArray) (hs : s.size ≤ 2147483647) (d : Nat) : ∀ (k : Nat) (out : List ByteArray) (a i : Nat), a ≤ i → i ≤ s.size → s.size - i = d → d < k → out.length + d < 8796093022208 →
    spec_ParsePath.l0 k s out (a : Int) (i : Int) = some (out ++ (splitG ((s.data.toList.drop a).take (i - a)) (s.data.toList.drop i)).map mk, true) := by
  have hsz := size_data s
  induction d with
  | zero =>
    intro k out a i ha hi hd hk ho
    obtain ⟨k, rfl⟩ : ∃ m, k = m + 1 := ⟨k - 1, by omega⟩
    simp only [spec_ParsePath.l0]
    rw [if_neg (by omega), if_pos (by omega), if_pos (by omega), if_pos (by omega)]
    have hnil : s.data.toList.drop i = [] := List.drop_eq_nil_of_le (by omega)
    rw [hnil]
    have hi' : i = s.size := by omega
    subst hi'
    simp only [splitG, List.map_cons, List.map_nil, Int.toNat_natCast, extract_mk]
  | succ d ih =>
    intro k out a i ha hi hd hk ho
    obtain ⟨k, rfl⟩ : ∃ m, k = m + 1 := ⟨k - 1, by omega⟩
    have hlt : i < s.data.toList.length := by omega
    simp only [spec_ParsePath.l0]
    rw [if_pos (by omega), if_pos (by omega), wrap_next i s.size (by omega) hs, drop_data _ i hlt]
    by_cases hc : s.data.toList[i] = 47
    · rw [if_pos ((bt_slash s i hlt).2 hc), if_pos (by omega), if_pos (by omega), if_pos (by omega), if_pos (by omega)]
      rw [ih k _ (i + 1) (i + 1) (Nat.le_refl _) (by omega) (by omega) (by omega) (by simp; omega)]
      simp only [splitG, if_pos hc, Nat.sub_self, List.take_zero, Int.toNat_natCast, extract_mk, List.map_cons, List.append_assoc, List.cons_append, List.nil_append]
    · rw [if_neg (fun e => hc ((bt_slash s i hlt).1 e))]
      rw [ih k out a (i + 1) (by omega) (by omega) (by omega) (by omega) (by omega), take_grow _ a i hlt ha]
      simp only [splitG, if_neg hc]

theorem nil_iff (s : ByteArray) : s.toList = ([] : List UInt8) ↔ s.data.toList = [] := by rw [Lib.toList_data]

theorem spec_parse (s : ByteArray) (hs : s.size ≤ 2147483647) : ∃ k, spec_ParsePath.f k s = some (parse s.data.toList) := by
  have hsz := size_data s
  unfold spec_ParsePath.f
  refine ⟨s.size + 3, ?_⟩
  have h47 : ∀ h : 0 < s.data.toList.length, ((bt s 0 != 47) = true ↔ ¬ s.data.toList[0] = 47) := fun h => by
    have : bt s 0 = 47 ↔ s.data.toList[0] = 47 := bt_slash s 0 h
    rw [bne_iff_ne]
    exact not_congr this
  rcases hl : s.data.toList with _ | ⟨c, l⟩
  · rw [if_pos ((nil_iff s).2 hl)]
    simp only [spec_ParsePath.j0, if_true, parse]
  · have hlen : s.size = l.length + 1 := by rw [← hsz, hl]; rfl
    have h0 : 0 < s.data.toList.length := by omega
    have hc0 : s.data.toList[0] = c := by simp only [hl, List.getElem_cons_zero]
    rw [if_neg (fun e => by rw [(nil_iff s).1 e] at hl; simp at hl), if_pos (by omega)]
    simp only [spec_ParsePath.j0]
    by_cases hc : c = 47
    · rw [if_neg (fun e => (h47 h0).1 e (by rw [hc0]; exact hc))]
      subst hc
      rw [Lib.toList_data, hl]
      by_cases hn : l = []
      · subst hn
        rw [if_pos rfl]
        simp [parse]
      · rw [if_neg (by simpa using hn)]
        have := spec_loop s hs (s.size - 1) (s.size + 2) [] 1 1 (Nat.le_refl _) (by omega) rfl (by omega) (by simp; omega)
        simp only [Nat.sub_self, List.take_zero, List.nil_append, hl, List.drop_succ_cons, List.drop_zero] at this
        rw [show ((1 : Nat) : Int) = 1 from rfl] at this
        rw [this]
        simp [parse, hn, segs]
    · rw [if_pos ((h47 h0).2 (by rw [hc0]; exact hc))]
      simp [parse, hc]
end Go.Proofs.YtljnooljfbokoaaDoor.ParseA
