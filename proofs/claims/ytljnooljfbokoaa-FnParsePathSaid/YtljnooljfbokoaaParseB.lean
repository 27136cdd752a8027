/- The package's ParsePath as it is printed tells what 'parse' tells; no memory and no Go in sight. -/
import Derived.Test.YtljnooljfbokoaaParseA
namespace Go.Proofs.Ytljnooljfbokoaa.ParseB
open Go.RowKit Go.Proofs.Ytljnooljfbokoaa.PFnParsePath Go.Proofs.YtljnooljfbokoaaW.PrintWords Go.Proofs.YtljnooljfbokoaaW.PrintLast
open Go.Proofs.Ytljnooljfbokoaa.Pieces Go.Proofs.Ytljnooljfbokoaa.ParseA

theorem part_at (l : List UInt8) (m : Nat) (h : m < l.length) (hc : l[m] = 47) (hno : ∀ j (h : j < l.length), j < m → l[j] ≠ 47) :
    (∀ c ∈ l.take m, c ≠ 47) ∧ l = l.take m ++ 47 :: l.drop (m + 1) := by
  constructor
  · intro c hcm
    obtain ⟨j, hj, rfl⟩ := List.getElem_of_mem hcm
    have hj' : j < m := by rw [List.length_take] at hj; omega
    rw [List.getElem_take]
    exact hno j (by omega) hj'
  · have e1 := List.take_append_drop m l
    rw [drop_data l m h, hc] at e1
    exact e1.symm

theorem split_loop (n : Nat) : ∀ (s : ByteArray) (k : Nat) (out : List ByteArray), s.size = n → s.size ≤ 2147483647 → s.size + 1 < k → out.length + s.size < 8796093022208 →
    opastorage_zzSplit.l0 k s ⟨#[47]⟩ out = some (out ++ segs s.data.toList) := by
  induction n using Nat.strongRecOn with
  | _ n ih =>
    intro s k out hn hs hk ho
    have hsz := size_data s
    have h1 : ((⟨#[47]⟩ : ByteArray).size : Int) = 1 := rfl
    obtain ⟨k, rfl⟩ : ∃ m, k = m + 1 := ⟨k - 1, by omega⟩
    obtain ⟨r, hr, h⟩ := index_loop s hs s.size k 0 (Nat.zero_le _) rfl (by omega)
    have hr' : opastorage_zzIndex.f k s ⟨#[47]⟩ = some r := hr
    simp only [opastorage_zzSplit.l0, hr', Option.bind_some, h1]
    rcases h with ⟨rfl, hno⟩ | ⟨m, rfl, _, ⟨hm, hat⟩, hno⟩
    · rw [if_pos (by decide), if_pos (by omega), segs, splitG_none _ _ (fun c hc => by
        obtain ⟨j, hj, rfl⟩ := List.getElem_of_mem hc
        exact hno j hj (Nat.zero_le _))]
      simp only [List.map_cons, List.map_nil, List.nil_append, mk_of]
    · rw [wrap_next m s.size (by omega) hs, if_neg (by omega), if_pos (by omega), if_pos (by omega), if_pos (by omega), if_pos (by omega), if_pos (by omega)]
      simp only [Int.toNat_natCast]
      obtain ⟨ha, hl⟩ := part_at s.data.toList m hm hat (fun j h hjm => hno j h (Nat.zero_le _) hjm)
      have e1 : (s.extract (m + 1) s.size).data.toList = s.data.toList.drop (m + 1) := by
        rw [Lib.extract_data, List.take_of_length_le (by rw [List.length_drop, hsz]; exact Nat.le_refl _)]
      have e2 : (s.extract (m + 1) s.size).size = s.size - (m + 1) := by rw [← size_data, e1, List.length_drop, hsz]
      rw [ih (s.size - (m + 1)) (by omega) (s.extract (m + 1) s.size) k _ e2 (by omega) (by omega) (by rw [List.length_append, List.length_singleton]; omega)]
      have e3 : segs s.data.toList = mk (s.data.toList.take m) :: segs (s.data.toList.drop (m + 1)) := by
        rw [segs, hl, splitG_first _ _ _ ha]
        simp only [List.map_cons, List.nil_append, segs]
        rw [← hl]
      rw [e1, e3, extract_mk]
      simp only [List.append_assoc, List.cons_append, List.nil_append, Nat.sub_zero, List.drop_zero]

theorem pkg_parse (s : ByteArray) (hs : s.size ≤ 2147483647) : ∃ k, impl_ParsePath.f k s = some (parse s.data.toList) := by
  have hsz := size_data s
  refine ⟨s.size + 3, ?_⟩
  unfold impl_ParsePath.f opastorage_ParsePath.f
  rcases hl : s.data.toList with _ | ⟨c, l⟩
  · have h0 : s.size = 0 := by rw [← hsz, hl]; rfl
    rw [if_pos (by omega)]
    simp only [opastorage_ParsePath.j0, if_true, parse, Option.bind_some]
  · have hlen : s.size = l.length + 1 := by rw [← hsz, hl]; rfl
    have h0 : 0 < s.data.toList.length := by omega
    have hc0 : s.data.toList[0] = c := by simp only [hl, List.getElem_cons_zero]
    have h47 : (bt s 0 != 47) = true ↔ ¬ c = 47 := by
      have : bt s 0 = 47 ↔ s.data.toList[0] = 47 := bt_slash s 0 h0
      rw [bne_iff_ne, ← hc0]
      exact not_congr this
    rw [if_neg (by omega), if_pos (by omega)]
    simp only [opastorage_ParsePath.j0]
    by_cases hc : c = 47
    · rw [if_neg (fun e => h47.1 e hc)]
      subst hc
      by_cases hn : l = []
      · subst hn
        have h1 : s.size = 1 := hlen
        rw [if_pos (by omega)]
        simp [parse]
      · have : 0 < l.length := List.length_pos_iff.2 hn
        have e1 : (s.extract 1 s.size).data.toList = l := by
          rw [Lib.extract_data, hl, List.drop_succ_cons, List.drop_zero, List.take_of_length_le (by omega)]
        have e2 : (s.extract 1 s.size).size = l.length := by rw [← size_data, e1]
        have := split_loop l.length (s.extract 1 s.size) (s.size + 2) [] e2 (by omega) (by omega) (by simp; omega)
        rw [e1] at this
        rw [if_neg (by omega), if_pos (by omega), opastorage_zzSplit.f, this]
        simp [parse, hn]
    · rw [if_pos (h47.2 hc)]
      simp [parse, hc]
end Go.Proofs.Ytljnooljfbokoaa.ParseB
