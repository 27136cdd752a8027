/- The walk of net/url's escape at the mode of path segments, and PathEscape: it tells what 'esc' tells. -/
import Derived.Test.YtljnooljfbokoaaDoorEsc
namespace Go.Proofs.YtljnooljfbokoaaDoor.WalkX
open Go.RowKit Go.Proofs.YtljnooljfbokoaaDoorW.PrintWords Go.Proofs.YtljnooljfbokoaaDoorW.PrintLast Go.Proofs.YtljnooljfbokoaaDoorW.PrintMore
open Go.Proofs.YtljnooljfbokoaaDoor.Pieces Go.Proofs.YtljnooljfbokoaaDoor.Table Go.Proofs.YtljnooljfbokoaaDoor.Esc Go.Proofs.YtljnooljfbokoaaDoor.WalkU
set_option linter.unusedVariables false
set_option linter.unusedSimpArgs false

/-- A row of bytes that is read. -/
def Row (w : World) (g : Nat) (l : List UInt8) : Prop := ∀ (k : Nat) (h : k < l.length), w.cell? ⟨g, k, none⟩ = some (.int .u8 (l[k].toNat : Int))
theorem Row.made (w : World) (s : ByteArray) : Row (Lib.bytesWorld w 5 s) w.heap.size s.data.toList := fun k h => by
  rw [Lib.bytesWorld_cell w 5 s k (by rw [← size_data]; exact h)]
  rw [List.getD_eq_getElem?_getD, List.getElem?_eq_getElem h]
  rfl
theorem Row.below {w w' : World} {g : Nat} {l : List UInt8} (h : Row w g l) (hb : Below w.heap.size w w') : Row w' g l := fun k hk => pw_cell_below hb (h k hk)

/-- A row of the call's own, of at least N cells, whose first ones are these bytes. -/
def Buf (w : World) (G N : Nat) (out : List UInt8) : Prop :=
  ∃ cur e, w.heap[G]? = some (.cells cur e (0, 0)) ∧ N ≤ cur.size ∧ ∀ (j : Nat) (h : j < out.length), cur[j]? = some (.int .u8 (out[j].toNat : Int))
theorem Buf.cell {w : World} {G N : Nat} {out : List UInt8} (h : Buf w G N out) (j : Nat) (hj : j < N) : (∃ v, w.cell? ⟨G, j, none⟩ = some v) ∧ w.frozen? ⟨G, j, none⟩ = false := by
  obtain ⟨cur, e, hb, hn, _⟩ := h
  exact ⟨⟨cur[j], by rw [blk_cell hb j]; exact Array.getElem?_eq_getElem (by omega)⟩, blk_frozen hb j⟩
theorem Buf.put {w : World} {G N : Nat} {out : List UInt8} (h : Buf w G N out) (hj : out.length < N) (c : UInt8) : Buf (w.setCell ⟨G, out.length, none⟩ (.int .u8 (c.toNat : Int))) G N (out ++ [c]) := by
  obtain ⟨cur, e, hb, hn, hc⟩ := h
  refine ⟨cur.setIfInBounds out.length (.int .u8 (c.toNat : Int)), e, blk_set hb _ _, by simpa using hn, fun j hj2 => ?_⟩
  rw [List.length_append, List.length_singleton] at hj2
  by_cases e1 : j = out.length
  · subst e1
    rw [Array.getElem?_setIfInBounds_self, if_pos (by omega)]
    simp
  · have hlt : j < out.length := by omega
    rw [Array.getElem?_setIfInBounds_ne (by omega), hc j hlt]
    simp [List.getElem_append_left hlt]
theorem Buf.below {w w' : World} {G N : Nat} {out : List UInt8} (h : Buf w G N out) (hb : Below w.heap.size w w') : Buf w' G N out := by
  obtain ⟨cur, e, h1, h2⟩ := h
  exact ⟨cur, e, (hb.block G (blk_lt h1)).trans h1, h2⟩
theorem Buf.text {w : World} {G N cap : Nat} {out : List UInt8} (h : Buf w G N out) (hN : out.length = N) (hm : N ≤ 9223372036854775807) :
    (convert 36 9 (.slice (some ⟨G, 0, none⟩) N cap)).run Tryd.prog w = .ok (.string (mk out)) w := by
  subst hN
  obtain ⟨cur, e, hb, _, hc⟩ := h
  rw [← Unesc.toInts_str]
  refine string_of_reads Tryd.underlying36 Tryd.underlying5 Tryd.underlying9 ⟨by simp [Unesc.toInts], hm, fun _ => ⟨_, rfl, fun j hj => ?_⟩⟩
  rw [add_plain, blk_cell hb j, hc j hj]
  simp [Unesc.toInts, List.getD_eq_getElem?_getD, hj]
theorem Row.far {w : World} {g G j : Nat} {l : List UInt8} (h : Row w g l) (hne : g ≠ G) (v : Value) : Row (w.setCell ⟨G, j, none⟩ v) g l := fun k hk => by
  have := h k hk
  simpa [World.cell?, Below.heap_setCell w ⟨G, j, none⟩ v g hne] using this

theorem info5 : (Tryd.prog.info? 5).map (fun i => (i.zero, i.size, i.bytes)) = some (some (.int .u8 0), 1, 1) := by kernel_rfl
theorem len66 : Tryd.prog.arrayLen 66 = 64 := by kernel_rfl
theorem elem66 : Tryd.prog.elem 66 = 5 := by kernel_rfl
/-- The first n cells of the array of 64. -/
theorem slice_buf (n g : Nat) (hn : n ≤ 64) (W : World) : (Instr.sliceAt 66 (.pointer (some ⟨g, 0, none⟩)) none (some (.int .i64 (n : Int))) none).run Tryd.prog W = .ok (.slice (some ⟨g, 0, none⟩) n 64) W := by
  have h := run_sliceAt_array_h (P := Tryd.prog) W 66 ⟨g, 0, none⟩ (by rw [len66, elem66]; exact Tryd.underlying66) .i64 (n : Int) (by omega) (by rw [len66]; omega)
  rw [h, elem66, Tryd.sizeOf5, len66]
  simp [slicedAt, Result.andThen, add_plain]

/-- A world in which the row to be filled and the row to be read lie. -/
def Ready (w w' : World) (s : ByteArray) (G g N : Nat) (out : List UInt8) : Prop := Buf w' G N out ∧ Row w' g s.data.toList ∧ Below w.heap.size w w' ∧ w.heap.size ≤ G ∧ g ≠ G
theorem ready_one {w W : World} (h : Below w.heap.size w W) (arr : Array Value) (e : TypeId) (N : Nat) (hN : N ≤ arr.size) (s : ByteArray) :
    Ready w (Lib.bytesWorld (W.alloc (.cells arr e)) 5 s) s W.heap.size (W.heap.size + 1) N [] := by
  have hs : (W.alloc (.cells arr e)).heap.size = W.heap.size + 1 := by simp
  have hb := bytes_below (Below.refl (W.alloc (.cells arr e)).heap.size (W.alloc (.cells arr e))) (Nat.le_refl _) 5 s
  refine ⟨Buf.below ⟨arr, e, heap_alloc_new W _, hN, fun j hj => absurd hj (Nat.not_lt_zero _)⟩ hb, ?_, below_then (below_alloc h _) (by rw [hs]; have := h.size; omega) hb, h.size, by omega⟩
  have := Row.made (W.alloc (.cells arr e)) s
  rwa [hs] at this
theorem ready_two {w W : World} (h : Below w.heap.size w W) (arr0 arr : Array Value) (e0 e : TypeId) (N : Nat) (hN : N ≤ arr.size) (s : ByteArray) :
    Ready w (Lib.bytesWorld ((W.alloc (.cells arr0 e0)).alloc (.cells arr e)) 5 s) s (W.heap.size + 1) (W.heap.size + 2) N [] := by
  have hs : (W.alloc (.cells arr0 e0)).heap.size = W.heap.size + 1 := by simp
  have := ready_one (below_alloc h (.cells arr0 e0)) arr e N hN s
  rwa [hs] at this

/-- What escape leaves. -/
def Escs (l : List UInt8) (w : World) (e : Ending) (w' : World) : Prop := e = .returned (.string (mk (esc l))) ∧ Aside0 (Below w.heap.size w w')

theorem esc_app (a b : List UInt8) : esc (a ++ b) = esc a ++ esc b := by simp [esc]
theorem room {l : List UInt8} {k : Nat} (h : k < l.length) : (esc (l.take k)).length + (escB l[k]).length ≤ (esc l).length := by
  have h1 : l = l.take k ++ (l[k] :: l.drop (k + 1)) := by rw [← drop_data l k h, List.take_append_drop]
  have e : (esc l).length = (esc (l.take k ++ (l[k] :: l.drop (k + 1)))).length := by rw [← h1]
  rw [esc_app, esc_cons, List.length_append, List.length_append] at e
  omega
theorem escB_one {c : UInt8} (h : mustB c = false) : escB c = [c] := by simp [escB, h]
theorem escB_three {c : UInt8} (h : mustB c = true) : escB c = [37, hi c, lo c] := by simp [escB, h]
/-- The digits of 16 as the text has them. -/
def upper : ByteArray := ⟨#[48, 49, 50, 51, 52, 53, 54, 55, 56, 57, 65, 66, 67, 68, 69, 70]⟩
theorem digit_fin : ∀ n : Fin 16, ∀ h : n.val < upper.size, ((upper[n.val]'h).toNat : Int) = ((digs.getD n.val 0).toNat : Int) := by decide +kernel
theorem digit_hi (c : UInt8) : ∀ h : c.toNat / 16 < (⟨#[48, 49, 50, 51, 52, 53, 54, 55, 56, 57, 65, 66, 67, 68, 69, 70]⟩ : ByteArray).size, (((⟨#[48, 49, 50, 51, 52, 53, 54, 55, 56, 57, 65, 66, 67, 68, 69, 70]⟩ : ByteArray)[c.toNat / 16]'h).toNat : Int) = ((hi c).toNat : Int) :=
  fun h => digit_fin ⟨c.toNat / 16, by have := c.toNat_lt; omega⟩ h
theorem digit_lo (c : UInt8) : ∀ h : c.toNat % 16 < (⟨#[48, 49, 50, 51, 52, 53, 54, 55, 56, 57, 65, 66, 67, 68, 69, 70]⟩ : ByteArray).size, (((⟨#[48, 49, 50, 51, 52, 53, 54, 55, 56, 57, 65, 66, 67, 68, 69, 70]⟩ : ByteArray)[c.toNat % 16]'h).toNat : Int) = ((lo c).toNat : Int) :=
  fun h => digit_fin ⟨c.toNat % 16, by omega⟩ h
/-- One byte more in the row. -/
theorem Ready.put {w w' : World} {s : ByteArray} {G g N : Nat} {out : List UInt8} (h : Ready w w' s G g N out) (hj : out.length < N) (c : UInt8) :
    Ready w (w'.setCell ⟨G, out.length, none⟩ (.int .u8 (c.toNat : Int))) s G g N (out ++ [c]) := by
  obtain ⟨h1, h2, h3, h4, h5⟩ := h
  exact ⟨h1.put hj c, h2.far h5 _, h3.setCell (p := ⟨G, out.length, none⟩) h4 _, h4, h5⟩
theorem Ready.put1 {w w' : World} {s : ByteArray} {G g N j : Nat} {out : List UInt8} (h : Ready w w' s G g N out) (hj : out.length = j) (hN : j + 1 ≤ N) (c : UInt8) :
    Ready w (w'.setCell ⟨G, j, none⟩ (.int .u8 (c.toNat : Int))) s G g N (out ++ [c]) := by
  subst hj
  exact h.put (by omega) c
theorem Ready.put3 {w w' : World} {s : ByteArray} {G g N j : Nat} {out : List UInt8} (h : Ready w w' s G g N out) (hj : out.length = j) (hN : j + 3 ≤ N) (b c : UInt8) :
    Ready w (((w'.setCell ⟨G, j, none⟩ (.int .u8 37)).setCell ⟨G, j + 1, none⟩ (.int .u8 (b.toNat : Int))).setCell ⟨G, j + 2, none⟩ (.int .u8 (c.toNat : Int))) s G g N (out ++ [37, b, c]) := by
  have h1 := h.put1 hj (by omega) 37
  have h2 := h1.put1 (j := j + 1) (by simp [hj]) (by omega) b
  have h3 := h2.put1 (j := j + 2) (by simp [hj]) (by omega) c
  have e : ((out ++ [37]) ++ [b]) ++ [c] = out ++ [37, b, c] := by simp
  have e2 : (((37 : UInt8).toNat : Nat) : Int) = 37 := rfl
  rw [e, e2] at h3
  exact h3

theorem take_snoc (l : List UInt8) (k : Nat) (h : k < l.length) : l.take (k + 1) = l.take k ++ [l[k]] := List.take_succ_eq_append_getElem h

set_option maxRecDepth 100000 in
set_option maxHeartbeats 8000000 in
theorem escape_any (s : ByteArray) (hs : s.size ≤ 2147483647) (w : World) (hT : Tb w) : Calls Tryd.prog 28 #[.string s, .int .u8 2] w (Escs s.data.toList w) := by
  have HSZ := Aside0.mk (size_data s)
  have HR0 := Aside0.mk (Row.made w s)
  have HB0 := Aside0.mk (bytes_below (Below.refl w.heap.size w) (Nat.le_refl _) 5 s)
  have HT := Aside0.mk (hT.below HB0.out)
  have kb := fun W => print_bytes (P := Tryd.prog) 9 36 5 Tryd.underlying9 Tryd.underlying36 Tryd.underlying5 s W
  have HT0 := Aside0.mk hT
  clear hT
  go_enter Tryd.func28, Tryd.ntmps28
  go_wp2_with fail
  go_loop [5, 6, 8, 19] (fun v5 v6 _ v19 => ∃ k m : Nat, v5 = .int .i64 0 ∧ v6 = .int .i64 m ∧ v19 = .int .i64 k ∧ k ≤ s.size ∧ m ≤ k ∧ Aside0 (m = cnt (s.data.toList.take k))) (fun _ _ _ v19 => s.size - (intOf v19).toNat)
  case atStart => exact ⟨0, 0, rfl, rfl, rfl, Nat.zero_le _, Nat.zero_le _, ⟨by simp [cnt]⟩⟩
  case round =>
    obtain ⟨k, m, rfl, rfl, rfl, hk, hmk, HM⟩ := hrel
    by_cases hlt : k < s.size
    · have hl : k < s.data.toList.length := by rw [HSZ.out]; exact hlt
      have hcell := HR0.out k hl
      have HN := Aside0.mk (cnt_snoc (s.data.toList.take k) s.data.toList[k])
      have HTK := Aside0.mk (take_snoc s.data.toList k hl)
      obtain ⟨c, hc⟩ : ∃ c, s.data.toList[k] = c := ⟨_, rfl⟩
      rw [hc] at hcell HN HTK
      clear hc hl
      have HC := Aside0.mk (should_any c _ HT.out)
      cases hmu : mustB c with
      | false =>
        rw [hmu] at HC HN
        clear hmu
        go_wp2_with fail
        refine (HC.out).mono ?_
        rintro e w' ⟨rfl, rfl⟩
        go_wp2_with fail
        go_round
        case rel => exact ⟨k + 1, m, rfl, rfl, by go_num, by omega, by omega, ⟨by rw [HTK.out, HN.out, ← HM.out]; simp⟩⟩
        case measure => simp [intOf]; omega
      | true =>
        rw [hmu] at HC HN
        clear hmu
        go_wp2_with fail
        refine (HC.out).mono ?_
        rintro e w' ⟨rfl, rfl⟩
        go_wp2_with fail
        all_goals go_round
        all_goals first
          | exact ⟨k + 1, m + 1, rfl, by go_num, by go_num, by omega, by omega, ⟨by rw [HTK.out, HN.out, ← HM.out]; simp⟩⟩
          | (simp [intOf]; omega)
    · have hk' : s.size ≤ k := by omega
      have hm : m = cnt s.data.toList := by rw [HM.out, List.take_of_length_le (by rw [HSZ.out]; exact hk')]
      have HM' := Aside0.mk hm
      clear hm
      by_cases hm0 : m = 0
      · have E := Aside0.mk (esc_none (HM'.out.symm.trans hm0))
        subst hm0
        go_wp2_with fail
        go_ret
        exact ⟨by rw [E.out, mk_of]; rfl, HB0⟩
      · have t0 : ((m : Int) == 0) = false := by simpa using hm0
        clear hm0
        have hcm := cnt_le s.data.toList
        rw [← HM'.out, HSZ.out] at hcm
        have eN : ((s.size + 2 * m : Nat) : Int) = (s.size : Int) + 2 * (m : Int) := by omega
        have hmk := fun W => run_make_row' (P := Tryd.prog) 36 5 (.int .u8 0) 1 Tryd.underlying36 info5 rfl .i64 .i64 (s.size + 2 * m) (by omega) (by omega) W
        rcases Nat.lt_or_ge 64 (s.size + 2 * m) with h64 | h64
        · simp only [eN] at hmk
          clear eN
          have HST := Aside0.mk (fun arr0 e0 => ready_two HB0.out arr0 (madeCells #[.int .u8 0] (s.size + 2 * m)) e0 5 (s.size + 2 * m) (by rw [size_madeCells]; exact Nat.le_refl _) s)
          go_wp2_with fail
          have HLEN := esc_length s.data.toList
          rw [← HM'.out, HSZ.out] at HLEN
          have HL := Aside0.mk HLEN
          clear HLEN
          go_loopw [13, 15, 78] (fun v13 _ v78 wr => ∃ (k j : Nat) (out : List UInt8), v13 = .int .i64 j ∧ v78 = .int .i64 k ∧ k ≤ s.size ∧ j ≤ 3 * k ∧ Aside0 (out.length = j) ∧ Aside0 (out = esc (s.data.toList.take k)) ∧ Aside0 (Ready w wr s ((Lib.bytesWorld w 5 s).heap.size + 1) ((Lib.bytesWorld w 5 s).heap.size + 2) (s.size + 2 * m) out)) (fun _ _ v78 _ => s.size - (intOf v78).toNat)
          case atStart => exact ⟨0, 0, [], rfl, rfl, Nat.zero_le _, Nat.zero_le _, ⟨rfl⟩, ⟨by simp [esc]⟩, ⟨HST.out _ _⟩⟩
          case round =>
            clear HST
            obtain ⟨k2, j, out, rfl, rfl, hk2, hj, HJ, HOUT, HRD⟩ := hrel
            by_cases hlt : k2 < s.size
            · have hl : k2 < s.data.toList.length := by rw [HSZ.out]; exact hlt
              have hcell := HRD.out.2.1 k2 hl
              have hroom := room hl
              rw [← HOUT.out, HJ.out, HL.out] at hroom
              have HN := Aside0.mk (esc_snoc (s.data.toList.take k2) s.data.toList[k2])
              have HTK := Aside0.mk (take_snoc s.data.toList k2 hl)
              obtain ⟨c, hc⟩ : ∃ c, s.data.toList[k2] = c := ⟨_, rfl⟩
              rw [hc] at hcell HN HTK hroom
              clear hc hl
              have HC := Aside0.mk (should_any c wr (HT0.out.below HRD.out.2.2.1))
              obtain ⟨sp, hsp⟩ : ∃ sp, ((c.toNat : Int) == 32) = sp := ⟨_, rfl⟩
              cases hmu : mustB c with
              | false =>
                have E := Aside0.mk (escB_one hmu)
                rw [hmu] at HC
                rw [E.out, List.length_singleton] at hroom
                have HP := Aside0.mk (HRD.out.put1 HJ.out hroom c)
                obtain ⟨⟨v0, hv0⟩, hf0⟩ := HRD.out.1.cell j (by omega)
                clear hmu
                go_wp2_with fail
                all_goals refine (HC.out).mono ?_
                all_goals rintro e w' ⟨rfl, rfl⟩
                all_goals go_wp2_with fail
                all_goals go_roundw
                all_goals first
                  | exact ⟨k2 + 1, j + 1, out ++ [c], by go_num, by go_num, by omega, by omega, ⟨by rw [List.length_append, List.length_singleton, HJ.out]⟩, ⟨by rw [HTK.out, HN.out, E.out, ← HOUT.out]⟩, HP⟩
                  | (simp [intOf]; omega)
              | true =>
                have E := Aside0.mk (escB_three hmu)
                rw [hmu] at HC
                rw [E.out] at hroom
                have hroom3 : j + 3 ≤ s.size + 2 * m := hroom
                have HP := Aside0.mk (HRD.out.put3 HJ.out hroom3 (hi c) (lo c))
                obtain ⟨⟨v0, hv0⟩, hf0⟩ := HRD.out.1.cell j (by omega)
                obtain ⟨⟨v1, hv1⟩, hf1⟩ := HRD.out.1.cell (j + 1) (by omega)
                obtain ⟨⟨v2, hv2⟩, hf2⟩ := HRD.out.1.cell (j + 2) (by omega)
                have hup1 := digit_hi c
                have hup2 := digit_lo c
                have hc256 : c.toNat < 256 := c.toNat_lt
                clear hmu hroom
                go_wp2_with fail
                all_goals refine (HC.out).mono ?_
                all_goals rintro e w' ⟨rfl, rfl⟩
                all_goals go_wp2_with fail
                all_goals go_roundw
                all_goals first
                  | exact ⟨k2 + 1, j + 3, out ++ [37, hi c, lo c], by go_num, by go_num, by omega, by omega, ⟨by rw [List.length_append, HJ.out]; rfl⟩, ⟨by rw [HTK.out, HN.out, E.out, ← HOUT.out]⟩, HP⟩
                  | (simp [intOf]; omega)
            · have hfull := Aside0.mk (show out = esc s.data.toList by rw [HOUT.out, List.take_of_length_le (by rw [HSZ.out]; omega)])
              have HCV := Aside0.mk (HRD.out.1.text (cap := s.size + 2 * m) (by rw [hfull.out, HL.out]) (by omega))
              have hcv := HCV.out
              rw [hfull.out] at hcv
              go_wp2_with fail
              go_ret
              exact ⟨rfl, ⟨HRD.out.2.2.1⟩⟩
        · have hsl := fun W g => slice_buf (s.size + 2 * m) g h64 W
          simp only [eN] at hsl
          clear eN hmk
          have HST := Aside0.mk (fun arr e (h : 64 = arr.size) => ready_one HB0.out arr e (s.size + 2 * m) (by omega) s)
          go_wp2_with fail
          have HLEN := esc_length s.data.toList
          rw [← HM'.out, HSZ.out] at HLEN
          have HL := Aside0.mk HLEN
          clear HLEN
          go_loopw [13, 15, 78] (fun v13 _ v78 wr => ∃ (k j : Nat) (out : List UInt8), v13 = .int .i64 j ∧ v78 = .int .i64 k ∧ k ≤ s.size ∧ j ≤ 3 * k ∧ Aside0 (out.length = j) ∧ Aside0 (out = esc (s.data.toList.take k)) ∧ Aside0 (Ready w wr s ((Lib.bytesWorld w 5 s).heap.size) ((Lib.bytesWorld w 5 s).heap.size + 1) (s.size + 2 * m) out)) (fun _ _ v78 _ => s.size - (intOf v78).toNat)
          case atStart => exact ⟨0, 0, [], rfl, rfl, Nat.zero_le _, Nat.zero_le _, ⟨rfl⟩, ⟨by simp [esc]⟩, ⟨HST.out _ _ rfl⟩⟩
          case round =>
            clear HST
            obtain ⟨k2, j, out, rfl, rfl, hk2, hj, HJ, HOUT, HRD⟩ := hrel
            by_cases hlt : k2 < s.size
            · have hl : k2 < s.data.toList.length := by rw [HSZ.out]; exact hlt
              have hcell := HRD.out.2.1 k2 hl
              have hroom := room hl
              rw [← HOUT.out, HJ.out, HL.out] at hroom
              have HN := Aside0.mk (esc_snoc (s.data.toList.take k2) s.data.toList[k2])
              have HTK := Aside0.mk (take_snoc s.data.toList k2 hl)
              obtain ⟨c, hc⟩ : ∃ c, s.data.toList[k2] = c := ⟨_, rfl⟩
              rw [hc] at hcell HN HTK hroom
              clear hc hl
              have HC := Aside0.mk (should_any c wr (HT0.out.below HRD.out.2.2.1))
              obtain ⟨sp, hsp⟩ : ∃ sp, ((c.toNat : Int) == 32) = sp := ⟨_, rfl⟩
              cases hmu : mustB c with
              | false =>
                have E := Aside0.mk (escB_one hmu)
                rw [hmu] at HC
                rw [E.out, List.length_singleton] at hroom
                have HP := Aside0.mk (HRD.out.put1 HJ.out hroom c)
                obtain ⟨⟨v0, hv0⟩, hf0⟩ := HRD.out.1.cell j (by omega)
                clear hmu
                go_wp2_with fail
                all_goals refine (HC.out).mono ?_
                all_goals rintro e w' ⟨rfl, rfl⟩
                all_goals go_wp2_with fail
                all_goals go_roundw
                all_goals first
                  | exact ⟨k2 + 1, j + 1, out ++ [c], by go_num, by go_num, by omega, by omega, ⟨by rw [List.length_append, List.length_singleton, HJ.out]⟩, ⟨by rw [HTK.out, HN.out, E.out, ← HOUT.out]⟩, HP⟩
                  | (simp [intOf]; omega)
              | true =>
                have E := Aside0.mk (escB_three hmu)
                rw [hmu] at HC
                rw [E.out] at hroom
                have hroom3 : j + 3 ≤ s.size + 2 * m := hroom
                have HP := Aside0.mk (HRD.out.put3 HJ.out hroom3 (hi c) (lo c))
                obtain ⟨⟨v0, hv0⟩, hf0⟩ := HRD.out.1.cell j (by omega)
                obtain ⟨⟨v1, hv1⟩, hf1⟩ := HRD.out.1.cell (j + 1) (by omega)
                obtain ⟨⟨v2, hv2⟩, hf2⟩ := HRD.out.1.cell (j + 2) (by omega)
                have hup1 := digit_hi c
                have hup2 := digit_lo c
                have hc256 : c.toNat < 256 := c.toNat_lt
                clear hmu hroom
                go_wp2_with fail
                all_goals refine (HC.out).mono ?_
                all_goals rintro e w' ⟨rfl, rfl⟩
                all_goals go_wp2_with fail
                all_goals go_roundw
                all_goals first
                  | exact ⟨k2 + 1, j + 3, out ++ [37, hi c, lo c], by go_num, by go_num, by omega, by omega, ⟨by rw [List.length_append, HJ.out]; rfl⟩, ⟨by rw [HTK.out, HN.out, E.out, ← HOUT.out]⟩, HP⟩
                  | (simp [intOf]; omega)
            · have hfull := Aside0.mk (show out = esc s.data.toList by rw [HOUT.out, List.take_of_length_le (by rw [HSZ.out]; omega)])
              have HCV := Aside0.mk (HRD.out.1.text (cap := 64) (by rw [hfull.out, HL.out]) (by omega))
              have hcv := HCV.out
              rw [hfull.out] at hcv
              go_wp2_with fail
              go_ret
              exact ⟨rfl, ⟨HRD.out.2.2.1⟩⟩

theorem pathEscape_any (s : ByteArray) (hs : s.size ≤ 2147483647) (w : World) (hT : Tb w) : Calls Tryd.prog 22 #[.string s] w (Escs s.data.toList w) := by
  have H := Aside0.mk (escape_any s hs w hT)
  obtain ⟨l, hl⟩ : ∃ l, s.data.toList = l := ⟨_, rfl⟩
  rw [hl] at H ⊢
  clear hl hT
  go_enter Tryd.func22, Tryd.ntmps22
  go_wp2_with fail
  refine (H.out).mono ?_
  rintro e w1 ⟨rfl, HB⟩
  go_wp2_with fail
  go_ret
  exact ⟨rfl, HB⟩
end Go.Proofs.YtljnooljfbokoaaDoor.WalkX
