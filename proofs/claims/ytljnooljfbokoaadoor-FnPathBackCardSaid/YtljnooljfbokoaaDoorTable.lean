/- The table of the library's net/url as numbers, and what ishex, unhex and shouldEscape tell of a byte by it. -/
import Derived.Test.YtljnooljfbokoaaDoorProg
import Derived.Test.YtljnooljfbokoaaDoorWMore
import Derived.WalkLawsBesides
import Derived.WalkSpells
namespace Go.Proofs.YtljnooljfbokoaaDoor.Table
open Go.RowKit Go.Proofs.YtljnooljfbokoaaDoorW.PrintWords Go.Proofs.YtljnooljfbokoaaDoorW.PrintLast Go.Proofs.YtljnooljfbokoaaDoorW.PrintMore
set_option linter.unusedVariables false
set_option linter.unusedSimpArgs false

/-- The table's numbers. -/
def tab : List Int := [
  0, 0, 0, 0, 0, 0, 0, 0, 0, 0, 0, 0, 0, 0, 0, 0, 0, 0, 0, 0, 0, 0, 0, 0, 0, 0, 0, 0, 0, 0, 0, 0,
  0, 76, 12, 0, 95, 0, 95, 12, 76, 76, 76, 95, 93, 127, 127, 65, 255, 255, 255, 255, 255, 255, 255, 255, 255, 255, 79, 93, 12, 95, 12, 64,
  67, 255, 255, 255, 255, 255, 255, 127, 127, 127, 127, 127, 127, 127, 127, 127, 127, 127, 127, 127, 127, 127, 127, 127, 127, 127, 127, 12, 0, 12, 0, 127,
  0, 255, 255, 255, 255, 255, 255, 127, 127, 127, 127, 127, 127, 127, 127, 127, 127, 127, 127, 127, 127, 127, 127, 127, 127, 127, 127, 0, 0, 0, 127, 0,
  0, 0, 0, 0, 0, 0, 0, 0, 0, 0, 0, 0, 0, 0, 0, 0, 0, 0, 0, 0, 0, 0, 0, 0, 0, 0, 0, 0, 0, 0, 0, 0,
  0, 0, 0, 0, 0, 0, 0, 0, 0, 0, 0, 0, 0, 0, 0, 0, 0, 0, 0, 0, 0, 0, 0, 0, 0, 0, 0, 0, 0, 0, 0, 0,
  0, 0, 0, 0, 0, 0, 0, 0, 0, 0, 0, 0, 0, 0, 0, 0, 0, 0, 0, 0, 0, 0, 0, 0, 0, 0, 0, 0, 0, 0, 0, 0,
  0, 0, 0, 0, 0, 0, 0, 0, 0, 0, 0, 0, 0, 0, 0, 0, 0, 0, 0, 0, 0, 0, 0, 0, 0, 0, 0, 0, 0, 0, 0, 0]

/-- The variable 'table' holds just these numbers. -/
def Tb (w : World) : Prop := ∀ i : Nat, i < 256 → w.cell? ⟨0, i, none⟩ = some (.int .u8 (tab.getD i 0))
theorem Tb.below {w w' : World} (h : Tb w) (hb : Below w.heap.size w w') : Tb w' := fun i hi => pw_cell_below hb (h i hi)
theorem Tb.at_ {w : World} (h : Tb w) (c : UInt8) : w.cell? ⟨0, c.toNat, none⟩ = some (.int .u8 (tab.getD c.toNat 0)) := h _ c.toNat_lt


/-- A hexadecimal digit. -/
def hexB (c : UInt8) : Bool := (48 ≤ c && c ≤ 57) || (65 ≤ c && c ≤ 70) || (97 ≤ c && c ≤ 102)
/-- The value of one. -/
def hexV (c : UInt8) : Nat := 9 * (c.toNat / 64) + c.toNat % 16
/-- A byte that PathEscape replaces. -/
def mustB (c : UInt8) : Bool := bits BinOp.and IntKind.u8 (tab.getD c.toNat 0) 2 == 0

theorem tab_hex : ∀ n : Fin 256, (bits BinOp.and IntKind.u8 (tab.getD n.val 0) 128 != 0) = hexB (UInt8.ofNat n.val) := by decide +kernel
theorem hex_tab (c : UInt8) : (bits BinOp.and IntKind.u8 (tab.getD c.toNat 0) 128 != 0) = hexB c := by
  have := tab_hex ⟨c.toNat, c.toNat_lt⟩
  simpa using this
theorem hexV_lt : ∀ n : Fin 256, hexB (UInt8.ofNat n.val) = true → hexV (UInt8.ofNat n.val) < 16 := by decide +kernel
theorem hexV_small {c : UInt8} (h : hexB c = true) : hexV c < 16 := by
  have := hexV_lt ⟨c.toNat, c.toNat_lt⟩
  simp only [UInt8.ofNat_toNat] at this
  exact this h

theorem ishex_any (c : UInt8) (w : World) (h : Tb w) : Calls Tryd.prog 30 #[.int .u8 c.toNat] w fun e w' => e = .returned (.bool (hexB c)) ∧ w = w' := by
  have hc := h.at_ c
  have E := hex_tab c
  obtain ⟨t, ht⟩ : ∃ t, tab.getD c.toNat 0 = t := ⟨_, rfl⟩
  rw [ht] at hc E
  have H := Aside0.mk h
  rw [← E]
  clear h ht E
  have h0 : (0 : Int) ≤ (c.toNat : Int) := by omega
  have h1 : (c.toNat : Int) < 256 := by have := c.toNat_lt; omega
  go_enter Tryd.func30, Tryd.ntmps30
  go_wp2
  go_ret
  exact ⟨rfl, rfl⟩
theorem should_any (c : UInt8) (w : World) (h : Tb w) : Calls Tryd.prog 32 #[.int .u8 c.toNat, .int .u8 2] w fun e w' => e = .returned (.bool (mustB c)) ∧ w = w' := by
  have hc := h.at_ c
  obtain ⟨t, ht⟩ : ∃ t, tab.getD c.toNat 0 = t := ⟨_, rfl⟩
  unfold mustB
  rw [ht] at hc ⊢
  have H := Aside0.mk h
  clear h ht
  have h0 : (0 : Int) ≤ (c.toNat : Int) := by omega
  have h1 : (c.toNat : Int) < 256 := by have := c.toNat_lt; omega
  go_enter Tryd.func32, Tryd.ntmps32
  go_wp2
  go_ret
  exact ⟨rfl, rfl⟩
theorem unhex_any (c : UInt8) (w : World) : Calls Tryd.prog 31 #[.int .u8 c.toNat] w fun e w' => e = .returned (.int .u8 (hexV c)) ∧ w = w' := by
  have h0 : (0 : Int) ≤ (c.toNat : Int) := by omega
  have h1 : (c.toNat : Int) < 256 := by have := c.toNat_lt; omega
  go_enter Tryd.func31, Tryd.ntmps31
  go_wp2
  go_ret
  exact ⟨rfl, rfl⟩
end Go.Proofs.YtljnooljfbokoaaDoor.Table
