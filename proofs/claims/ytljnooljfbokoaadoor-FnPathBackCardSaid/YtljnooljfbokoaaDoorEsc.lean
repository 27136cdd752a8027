/- A word with what must be replaced replaced by escapes, the text of a path, and that reading it gives the path back: plain functions on lists of bytes. -/
import Derived.Test.YtljnooljfbokoaaDoorWalkE
namespace Go.Proofs.YtljnooljfbokoaaDoor.Esc
open Go.Proofs.YtljnooljfbokoaaDoor.Pieces Go.Proofs.YtljnooljfbokoaaDoor.Table Go.Proofs.YtljnooljfbokoaaDoor.Unesc Go.Proofs.YtljnooljfbokoaaDoor.WalkE
set_option linter.unusedVariables false

/-- The digits of 16. -/
def digs : List UInt8 := [48, 49, 50, 51, 52, 53, 54, 55, 56, 57, 65, 66, 67, 68, 69, 70]
/-- The first and the second digit of a byte. -/
def hi (c : UInt8) : UInt8 := digs.getD (c.toNat / 16) 0
def lo (c : UInt8) : UInt8 := digs.getD (c.toNat % 16) 0
/-- What a byte becomes. -/
def escB (c : UInt8) : List UInt8 := if mustB c then [37, hi c, lo c] else [c]
/-- What a word becomes. -/
def esc (l : List UInt8) : List UInt8 := l.flatMap escB
/-- How many bytes are replaced. -/
def cnt (l : List UInt8) : Nat := l.countP mustB

theorem esc_cons (c : UInt8) (l : List UInt8) : esc (c :: l) = escB c ++ esc l := by simp [esc]
theorem esc_snoc (l : List UInt8) (c : UInt8) : esc (l ++ [c]) = esc l ++ escB c := by simp [esc]
theorem escB_length (c : UInt8) : (escB c).length = 1 + 2 * (if mustB c then 1 else 0) := by
  unfold escB
  split <;> simp
theorem esc_length (l : List UInt8) : (esc l).length = l.length + 2 * cnt l := by
  induction l with
  | nil => simp [esc, cnt]
  | cons c l ih =>
    rw [esc_cons, List.length_append, ih, escB_length]
    simp only [cnt, List.countP_cons, List.length_cons]
    split <;> omega
theorem cnt_le (l : List UInt8) : cnt l ≤ l.length := List.countP_le_length
theorem cnt_snoc (l : List UInt8) (c : UInt8) : cnt (l ++ [c]) = cnt l + if mustB c then 1 else 0 := by
  simp [cnt, List.countP_append, List.countP_cons]
theorem esc_none {l : List UInt8} (h : cnt l = 0) : esc l = l := by
  induction l with
  | nil => rfl
  | cons c l ih =>
    have h1 : cnt l = 0 ∧ mustB c = false := by
      unfold cnt at h ⊢
      rw [List.countP_cons] at h
      cases hm : mustB c with
      | false =>
        rw [hm, if_neg (by decide)] at h
        exact ⟨by omega, rfl⟩
      | true =>
        rw [hm, if_pos rfl] at h
        omega
    rw [esc_cons, ih h1.1, escB, h1.2]
    rfl
theorem esc_nil_iff {l : List UInt8} : esc l = [] ↔ l = [] := by
  constructor
  · intro h
    have := esc_length l
    rw [h] at this
    simp at this
    exact List.length_eq_zero_iff.1 (by omega)
  · rintro rfl; rfl

theorem byte_fin : ∀ n : Fin 256, mustB (UInt8.ofNat n.val) = true → hexB (hi (UInt8.ofNat n.val)) = true ∧ hexB (lo (UInt8.ofNat n.val)) = true ∧ escV (hi (UInt8.ofNat n.val)) (lo (UInt8.ofNat n.val)) = UInt8.ofNat n.val ∧
    hi (UInt8.ofNat n.val) ≠ 47 ∧ lo (UInt8.ofNat n.val) ≠ 47 := by decide +kernel
theorem byte_must {c : UInt8} (h : mustB c = true) : hexB (hi c) = true ∧ hexB (lo c) = true ∧ escV (hi c) (lo c) = c ∧ hi c ≠ 47 ∧ lo c ≠ 47 := by
  have := byte_fin ⟨c.toNat, c.toNat_lt⟩
  simp only [UInt8.ofNat_toNat] at this
  exact this h
theorem must_percent : mustB 37 = true := by decide +kernel
theorem must_stroke : mustB 47 = true := by decide +kernel

theorem unesc_esc_all (l : List UInt8) : unesc (esc l) = some l := by
  induction l with
  | nil => rfl
  | cons c l ih =>
    rw [esc_cons, escB]
    by_cases h : mustB c = true
    · obtain ⟨h1, h2, h3, _⟩ := byte_must h
      rw [if_pos h, List.cons_append, List.cons_append, List.cons_append, List.nil_append, unesc_esc _ _ _ h1 h2, ih, h3]
      rfl
    · have hc : ¬ c = 37 := fun e => h (by rw [e]; exact must_percent)
      rw [if_neg h, List.cons_append, List.nil_append, unesc_other _ hc, ih]
      rfl
theorem esc_no_stroke (l : List UInt8) : ∀ c ∈ esc l, c ≠ 47 := by
  intro c hc
  simp only [esc, List.mem_flatMap] at hc
  obtain ⟨d, _, hd⟩ := hc
  unfold escB at hd
  split at hd
  · rename_i h
    obtain ⟨_, _, _, h4, h5⟩ := byte_must h
    simp at hd
    rcases hd with rfl | rfl | rfl
    · decide
    · exact h4
    · exact h5
  · rename_i h
    simp at hd
    subst hd
    intro e
    exact h (by rw [e]; exact must_stroke)

/-- The text of a path. -/
def body (p : List ByteArray) : List UInt8 := p.flatMap fun x => 47 :: esc x.data.toList
def text (p : List ByteArray) : List UInt8 := if p = [] then [47] else body p

theorem body_snoc (p : List ByteArray) (x : ByteArray) : body (p ++ [x]) = body p ++ (47 :: esc x.data.toList) := by simp [body]

theorem split_body : ∀ (p : List ByteArray) (x : List UInt8), splitG [] (esc x ++ body p) = (esc x) :: p.map fun y => esc y.data.toList
  | [], x => by
    simp only [body, List.flatMap_nil, List.append_nil, List.map_nil]
    rw [splitG_none _ _ (esc_no_stroke x), List.nil_append]
  | y :: p, x => by
    have : esc x ++ body (y :: p) = esc x ++ 47 :: (esc y.data.toList ++ body p) := by simp [body]
    rw [this, splitG_first _ _ _ (esc_no_stroke x), split_body p y.data.toList, List.nil_append]
    simp

theorem unall_esc : ∀ p : List ByteArray, unall (p.map fun y => mk (esc y.data.toList)) = some p
  | [] => rfl
  | y :: p => by
    simp only [List.map_cons, unall, mk_data, unesc_esc_all, unall_esc p, Option.map_some, mk_of]

/-- The text of a path, read as an escaped one, is the path, but for a path of one empty word. -/
theorem back {p : List ByteArray} (h : ¬ ∃ x, p = [x] ∧ x.data.toList = []) : parseEsc (text p) = (p, true) := by
  cases p with
  | nil => rfl
  | cons x p =>
    have hb : text (x :: p) = 47 :: (esc x.data.toList ++ body p) := by simp [text, body]
    have hne : ¬ (esc x.data.toList ++ body p = []) := by
      intro e
      rw [List.append_eq_nil_iff] at e
      apply h
      refine ⟨x, ?_, esc_nil_iff.1 e.1⟩
      cases p with
      | nil => rfl
      | cons y p => simp [body] at e
    have hp : parse (text (x :: p)) = ((x :: p).map (fun y => mk (esc y.data.toList)), true) := by
      rw [hb, parse, if_pos rfl, if_neg hne, segs, split_body]
      simp
    rw [parseEsc, hp]
    simp only [unall_esc]
end Go.Proofs.YtljnooljfbokoaaDoor.Esc
