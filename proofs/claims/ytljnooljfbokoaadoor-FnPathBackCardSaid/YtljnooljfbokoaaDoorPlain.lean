/- Plain functions on paths (lists of words): comparing two words, comparing two paths, equality of paths; no program in sight. -/
import GoSem.Op.String
namespace Go.Proofs.YtljnooljfbokoaaDoor.Plain

/-- The order of two words by their bytes. -/
def cmpB (a b : ByteArray) : Int := if Op.bytesLess a.toList b.toList then -1 else if a.toList = b.toList then 0 else 1

/-- The order of two paths, word by word. -/
def cmpW : List ByteArray → List ByteArray → Int
  | [], [] => 0
  | [], _ :: _ => -1
  | _ :: _, [] => 1
  | a :: l, b :: m => if cmpB a b = 0 then cmpW l m else cmpB a b

/-- Whether two paths are the same. -/
def eqW : List ByteArray → List ByteArray → Bool
  | [], [] => true
  | [], _ :: _ => false
  | _ :: _, [] => false
  | a :: l, b :: m => if a.toList = b.toList then eqW l m else false

theorem less_irrefl : ∀ l : List UInt8, Op.bytesLess l l = false
  | [] => by simp [Op.bytesLess]
  | a :: l => by simp [Op.bytesLess, less_irrefl l]

theorem cmpB_less {a b : ByteArray} (h : Op.bytesLess a.toList b.toList = true) : cmpB a b = -1 := by simp [cmpB, h]
theorem cmpB_eq {a b : ByteArray} (h : a.toList = b.toList) : cmpB a b = 0 := by simp [cmpB, h, less_irrefl]
theorem cmpB_more {a b : ByteArray} (h : Op.bytesLess a.toList b.toList = false) (h' : ¬ a.toList = b.toList) : cmpB a b = 1 := by simp [cmpB, h, h']
theorem cmpB_zero {a b : ByteArray} : cmpB a b = 0 ↔ a.toList = b.toList := by
  constructor
  · intro h
    unfold cmpB at h
    split at h
    · simp at h
    · split at h
      · assumption
      · simp at h
  · exact cmpB_eq

theorem cmpB_range (a b : ByteArray) : -1 ≤ cmpB a b ∧ cmpB a b ≤ 1 := by
  unfold cmpB
  repeat' split <;> omega

theorem cmpW_zero : ∀ l m : List ByteArray, (cmpW l m == 0) = eqW l m
  | [], [] => by simp [cmpW, eqW]
  | [], _ :: _ => by simp [cmpW, eqW]
  | _ :: _, [] => by simp [cmpW, eqW]
  | a :: l, b :: m => by
    by_cases h : a.toList = b.toList
    · simp only [cmpW, eqW, cmpB_eq h, if_pos h, if_true]
      exact cmpW_zero l m
    · have h0 : ¬ cmpB a b = 0 := fun e => h (cmpB_zero.1 e)
      simp [cmpW, eqW, h, h0]

theorem cmpW_range : ∀ l m : List ByteArray, -1 ≤ cmpW l m ∧ cmpW l m ≤ 1
  | [], [] => by simp [cmpW]
  | [], _ :: _ => by simp [cmpW]
  | _ :: _, [] => by simp [cmpW]
  | a :: l, b :: m => by
    unfold cmpW
    split
    · exact cmpW_range l m
    · exact cmpB_range a b

/-- One round. -/
theorem drop_get (l : List ByteArray) (k : Nat) (h : k < l.length) : l.drop k = l.getD k ByteArray.empty :: l.drop (k + 1) := by
  rw [List.drop_eq_getElem_cons h, List.getD_eq_getElem?_getD, List.getElem?_eq_getElem h]
  rfl

theorem cmpW_step {l m : List ByteArray} {k : Nat} (hl : k < l.length) (hm : k < m.length) (h : (l.getD k ByteArray.empty).toList = (m.getD k ByteArray.empty).toList) :
    cmpW (l.drop k) (m.drop k) = cmpW (l.drop (k + 1)) (m.drop (k + 1)) := by
  rw [drop_get l k hl, drop_get m k hm, cmpW, if_pos (cmpB_eq h)]
theorem cmpW_less {l m : List ByteArray} {k : Nat} (hl : k < l.length) (hm : k < m.length) (h : Op.bytesLess (l.getD k ByteArray.empty).toList (m.getD k ByteArray.empty).toList = true) :
    cmpW (l.drop k) (m.drop k) = -1 := by
  rw [drop_get l k hl, drop_get m k hm, cmpW, cmpB_less h, if_neg (by decide)]
theorem cmpW_more {l m : List ByteArray} {k : Nat} (hl : k < l.length) (hm : k < m.length) (h : Op.bytesLess (l.getD k ByteArray.empty).toList (m.getD k ByteArray.empty).toList = false)
    (h' : ¬ (l.getD k ByteArray.empty).toList = (m.getD k ByteArray.empty).toList) : cmpW (l.drop k) (m.drop k) = 1 := by
  rw [drop_get l k hl, drop_get m k hm, cmpW, cmpB_more h h', if_neg (by decide)]
theorem cmpW_zero_step {l m : List ByteArray} {k : Nat} (hl : k < l.length) (hm : k < m.length) (h : cmpB (l.getD k ByteArray.empty) (m.getD k ByteArray.empty) = 0) :
    cmpW (l.drop k) (m.drop k) = cmpW (l.drop (k + 1)) (m.drop (k + 1)) := by
  rw [drop_get l k hl, drop_get m k hm, cmpW, if_pos h]
theorem cmpW_ne {l m : List ByteArray} {k : Nat} (hl : k < l.length) (hm : k < m.length) (h : ¬ cmpB (l.getD k ByteArray.empty) (m.getD k ByteArray.empty) = 0) :
    cmpW (l.drop k) (m.drop k) = cmpB (l.getD k ByteArray.empty) (m.getD k ByteArray.empty) := by
  rw [drop_get l k hl, drop_get m k hm, cmpW, if_neg h]
theorem cmpW_end_lt {l m : List ByteArray} {k : Nat} (hl : l.length = k) (hm : k < m.length) : cmpW (l.drop k) (m.drop k) = -1 := by
  rw [List.drop_eq_nil_of_le (by omega), drop_get m k hm, cmpW]
theorem cmpW_end_gt {l m : List ByteArray} {k : Nat} (hl : k < l.length) (hm : m.length = k) : cmpW (l.drop k) (m.drop k) = 1 := by
  rw [List.drop_eq_nil_of_le (as := m) (by omega), drop_get l k hl, cmpW]
theorem cmpW_end_eq {l m : List ByteArray} {k : Nat} (hl : l.length ≤ k) (hm : m.length ≤ k) : cmpW (l.drop k) (m.drop k) = 0 := by
  rw [List.drop_eq_nil_of_le (as := m) hm, List.drop_eq_nil_of_le hl, cmpW]

theorem eqW_lens : ∀ {l m : List ByteArray}, l.length ≠ m.length → eqW l m = false
  | [], [], h => absurd rfl h
  | [], _ :: _, _ => by simp [eqW]
  | _ :: _, [], _ => by simp [eqW]
  | a :: l, b :: m, h => by
    unfold eqW
    split
    · exact eqW_lens (by simpa using h)
    · rfl
theorem eqW_step {l m : List ByteArray} {k : Nat} (hl : k < l.length) (hm : k < m.length) (h : (l.getD k ByteArray.empty).toList = (m.getD k ByteArray.empty).toList) :
    eqW (l.drop k) (m.drop k) = eqW (l.drop (k + 1)) (m.drop (k + 1)) := by
  rw [drop_get l k hl, drop_get m k hm, eqW, if_pos h]
theorem eqW_no {l m : List ByteArray} {k : Nat} (hl : k < l.length) (hm : k < m.length) (h : ¬ (l.getD k ByteArray.empty).toList = (m.getD k ByteArray.empty).toList) :
    eqW (l.drop k) (m.drop k) = false := by
  rw [drop_get l k hl, drop_get m k hm, eqW, if_neg h]
theorem eqW_end {l m : List ByteArray} {k : Nat} (hl : l.length ≤ k) (hm : m.length ≤ k) : eqW (l.drop k) (m.drop k) = true := by
  rw [List.drop_eq_nil_of_le (as := m) hm, List.drop_eq_nil_of_le hl, eqW]


/-- Whether no word is too long. -/
def allB (l : List ByteArray) : Bool := l.all fun s => decide (s.size ≤ 2147483647)
/-- Whether a list of words fits: what laws.zzFits2 tells. -/
def fitsB (l : List ByteArray) : Bool := decide (l.length ≤ 2147483647) && allB l
theorem fitsB_long {l : List ByteArray} (h : ¬ l.length ≤ 2147483647) : fitsB l = false := by simp [fitsB, h]
theorem fitsB_short {l : List ByteArray} (h : l.length ≤ 2147483647) : fitsB l = allB l := by simp [fitsB, h]
theorem allB_step {l : List ByteArray} {k : Nat} (h : k < l.length) (hs : (l.getD k ByteArray.empty).size ≤ 2147483647) : allB (l.drop k) = allB (l.drop (k + 1)) := by
  unfold allB
  rw [drop_get l k h]
  simp only [List.all_cons, decide_eq_true hs, Bool.true_and]
theorem allB_no {l : List ByteArray} {k : Nat} (h : k < l.length) (hs : ¬ (l.getD k ByteArray.empty).size ≤ 2147483647) : allB (l.drop k) = false := by
  unfold allB
  rw [drop_get l k h]
  simp only [List.all_cons, decide_eq_false hs, Bool.false_and]
theorem allB_end {l : List ByteArray} {k : Nat} (h : l.length ≤ k) : allB (l.drop k) = true := by
  rw [List.drop_eq_nil_of_le h]; rfl
theorem fitsB_len {l : List ByteArray} (h : fitsB l = true) : l.length ≤ 2147483647 := by
  simp only [fitsB, Bool.and_eq_true, decide_eq_true_eq] at h
  exact h.1
theorem fitsB_word {l : List ByteArray} (h : fitsB l = true) : ∀ s ∈ l, s.size ≤ 2147483647 := by
  simp only [fitsB, allB, Bool.and_eq_true, decide_eq_true_eq, List.all_eq_true] at h
  exact h.2

end Go.Proofs.YtljnooljfbokoaaDoor.Plain
