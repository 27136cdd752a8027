/- What stands between the strokes of a text: plain functions on lists of bytes; no program in sight. -/
import Derived.Lib.Strings
namespace Go.Proofs.YtljnooljfbokoaaDoor.Pieces

/-- A string of these bytes. -/
def mk (l : List UInt8) : ByteArray := ⟨l.toArray⟩
theorem mk_data (l : List UInt8) : (mk l).data.toList = l := by simp [mk]
theorem mk_toList (l : List UInt8) : (mk l).toList = l := by rw [Lib.toList_data, mk_data]
theorem mk_of (s : ByteArray) : mk s.data.toList = s := by cases s; simp [mk]
theorem size_data (s : ByteArray) : s.data.toList.length = s.size := by rw [Array.length_toList]; rfl
theorem mk_size (l : List UInt8) : (mk l).size = l.length := by rw [← size_data, mk_data]
theorem extract_mk (s : ByteArray) (a b : Nat) : s.extract a b = mk ((s.data.toList.drop a).take (b - a)) := Lib.extract_eq s a b

/-- The pieces between strokes; p: what stands before the first stroke already. -/
def splitG (p : List UInt8) : List UInt8 → List (List UInt8)
  | [] => [p]
  | c :: l => if c = 47 then p :: splitG [] l else splitG (p ++ [c]) l

theorem splitG_none : ∀ (l p : List UInt8), (∀ c ∈ l, c ≠ 47) → splitG p l = [p ++ l]
  | [], p, _ => by simp [splitG]
  | c :: l, p, h => by
    rw [splitG, if_neg (h c (by simp)), splitG_none l (p ++ [c]) (fun x hx => h x (by simp [hx]))]
    simp
theorem splitG_first : ∀ (a p b : List UInt8), (∀ c ∈ a, c ≠ 47) → splitG p (a ++ 47 :: b) = (p ++ a) :: splitG [] b
  | [], p, b, _ => by simp [splitG]
  | c :: a, p, b, h => by
    rw [List.cons_append, splitG, if_neg (h c (by simp)), splitG_first a (p ++ [c]) b (fun x hx => h x (by simp [hx]))]
    simp
theorem splitG_length : ∀ (l p : List UInt8), (splitG p l).length ≤ l.length + 1
  | [], p => by simp [splitG]
  | c :: l, p => by
    unfold splitG
    split
    · have := splitG_length l []
      simp; omega
    · have := splitG_length l (p ++ [c])
      simp; omega

/-- The pieces of a text. -/
def segs (l : List UInt8) : List ByteArray := (splitG [] l).map mk
theorem segs_length (l : List UInt8) : (segs l).length ≤ l.length + 1 := by
  rw [segs, List.length_map]; exact splitG_length l []

/-- A text as a path. -/
def parse : List UInt8 → List ByteArray × Bool
  | [] => ([], false)
  | c :: l => if c = 47 then (if l = [] then ([], true) else (segs l, true)) else ([], false)
theorem parse_length (l : List UInt8) : (parse l).1.length ≤ l.length := by
  unfold parse
  split
  · simp
  · split
    · split
      · simp
      · simpa using segs_length _
    · simp

/-- A byte of a text. -/
theorem drop_data (l : List UInt8) (i : Nat) (h : i < l.length) : l.drop i = l[i] :: l.drop (i + 1) := List.drop_eq_getElem_cons h
theorem take_grow (l : List UInt8) (a i : Nat) (h : i < l.length) (ha : a ≤ i) : (l.drop a).take (i + 1 - a) = (l.drop a).take (i - a) ++ [l[i]] := by
  have e : i + 1 - a = (i - a) + 1 := by omega
  rw [e, List.take_succ_eq_append_getElem (by rw [List.length_drop]; omega)]
  simp only [List.getElem_drop, show a + (i - a) = i by omega]
end Go.Proofs.YtljnooljfbokoaaDoor.Pieces
