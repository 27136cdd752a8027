/- The walks of Path.String and PathString, and of the law FnPathBack, for every list of words, where the library's table holds what its initialiser lays. -/
import Derived.Test.YtljnooljfbokoaaDoorWalkX
import Derived.Test.YtljnooljfbokoaaDoorWalkR
namespace Go.Proofs.YtljnooljfbokoaaDoor.WalkP
open Go.RowKit Go.Proofs.YtljnooljfbokoaaDoorW.PrintWords Go.Proofs.YtljnooljfbokoaaDoorW.PrintLast Go.Proofs.YtljnooljfbokoaaDoorW.PrintMore
open Go.Proofs.YtljnooljfbokoaaDoor.Plain Go.Proofs.YtljnooljfbokoaaDoor.WalkA Go.Proofs.YtljnooljfbokoaaDoor.WalkB Go.Proofs.YtljnooljfbokoaaDoor.Pieces
open Go.Proofs.YtljnooljfbokoaaDoor.Table Go.Proofs.YtljnooljfbokoaaDoor.WalkE Go.Proofs.YtljnooljfbokoaaDoor.Bld Go.Proofs.YtljnooljfbokoaaDoor.Esc Go.Proofs.YtljnooljfbokoaaDoor.WalkX Go.Proofs.YtljnooljfbokoaaDoor.WalkL
set_option linter.unusedVariables false
set_option linter.unusedSimpArgs false

/-- How many bytes and words there are in a path. -/
def wt (p : List ByteArray) : Nat := (p.map fun x => x.size + 1).sum
theorem wt_snoc (p : List ByteArray) (x : ByteArray) : wt (p ++ [x]) = wt p + (x.size + 1) := by simp [wt]
theorem wt_cons (x : ByteArray) (p : List ByteArray) : wt (x :: p) = (x.size + 1) + wt p := by simp [wt]
theorem take_get (p : List ByteArray) (k : Nat) (h : k < p.length) : p.take (k + 1) = p.take k ++ [p.getD k ByteArray.empty] := by
  rw [List.take_succ_eq_append_getElem h, List.getD_eq_getElem?_getD, List.getElem?_eq_getElem h]
  rfl
theorem wt_split (p : List ByteArray) (k : Nat) (h : k < p.length) : wt (p.take k) + ((p.getD k ByteArray.empty).size + 1) ≤ wt p := by
  have e : p = p.take k ++ (p.getD k ByteArray.empty :: p.drop (k + 1)) := by rw [← drop_get p k h, List.take_append_drop]
  have e2 : wt p = wt (p.take k ++ (p.getD k ByteArray.empty :: p.drop (k + 1))) := by rw [← e]
  rw [e2]
  simp only [wt, List.map_append, List.map_cons, List.sum_append, List.sum_cons]
  omega
theorem body_len (p : List ByteArray) : (body p).length ≤ 3 * wt p := by
  induction p with
  | nil => simp [body]
  | cons x p ih =>
    have e : body (x :: p) = 47 :: (esc x.data.toList ++ body p) := by simp [body]
    have h1 := esc_length x.data.toList
    have h2 := cnt_le x.data.toList
    rw [size_data] at h1 h2
    rw [e, List.length_cons, List.length_append, wt_cons, h1]
    omega

theorem Bl.below {B : Nat} {l : List UInt8} {w w' : World} (h : Bl B l w) (hb : Below w.heap.size w w') : Bl B l w' := by
  obtain ⟨h1, v, h2, h3, h4⟩ := h
  exact ⟨h1, v, (hb.block B (blk_lt h2)).trans h2, pw_own_below h3 hb, h4⟩

/-- What PathString leaves. -/
def Texts (p : List ByteArray) (w : World) (e : Ending) (w' : World) : Prop := e = .returned (.string (mk (text p))) ∧ Aside0 (Below w.heap.size w w')

set_option maxHeartbeats 2000000 in
theorem string_of (A : Option Addr) (c : Nat) (p : List ByteArray) (w : World) (h : Kd.C Kd.string w A p.length p) (hw : wt p ≤ 100000) (hT : Tb w) :
    Calls Tryd.prog 15 #[.slice A p.length c] w (Texts p w) := by
  have hlen : p.length ≤ 100000 := by
    have : p.length ≤ wt p := by
      clear h hw
      induction p with
      | nil => simp
      | cons x p ih => rw [wt_cons, List.length_cons]; omega
    omega
  have HC := Aside0.mk h
  have HT := Aside0.mk hT
  have HW := Aside0.mk hw
  clear h hT
  cases p with
  | nil =>
    go_enter Tryd.func15, Tryd.ntmps15
    go_wp2
    go_ret
    exact ⟨rfl, ⟨Below.refl _ _⟩⟩
  | cons x0 p0 =>
    obtain ⟨p, hp⟩ : ∃ p, x0 :: p0 = p := ⟨_, rfl⟩
    have htext : text p = body p := by rw [← hp]; simp [text]
    have hpos : 0 < p.length := by rw [← hp]; simp
    rw [hp] at HC hlen HW ⊢
    rw [hp] at hw
    have HTX := Aside0.mk htext
    have hb0 : ((p.length : Int) == 0) = false := beq_eq_false_iff_ne.mpr (by omega)
    clear hp htext
    go_enter Tryd.func15, Tryd.ntmps15
    go_wp2_with fail
    go_loop [3, 4, 12] (fun v3 _ v12 => ∃ k n : Nat, v3 = .int .i64 n ∧ v12 = .int .i64 k ∧ k ≤ p.length ∧ n ≤ 100000 ∧ Aside0 (n = wt (p.take k))) (fun _ _ v12 => p.length - (intOf v12).toNat)
    case atStart => exact ⟨0, 0, rfl, rfl, Nat.zero_le _, Nat.zero_le _, ⟨by simp [wt]⟩⟩
    case round =>
      obtain ⟨k, n, rfl, rfl, hk, hn, HN⟩ := hrel
      by_cases hlt : k < p.length
      · obtain ⟨ad, rfl, hc⟩ := at_ HC.out k hlt
        have hsp := wt_split p k hlt
        have hsn := wt_snoc (p.take k) (p.getD k ByteArray.empty)
        rw [← take_get p k hlt] at hsn
        rw [← HN.out] at hsp hsn
        obtain ⟨x, hx⟩ : ∃ x, p.getD k ByteArray.empty = x := ⟨_, rfl⟩
        rw [hx] at hc hsp hsn
        have HS := Aside0.mk hsn
        clear hx hsn
        go_wp2_with fail
        go_round
        case rel => exact ⟨k + 1, n + (x.size + 1), by go_num, by go_num, by omega, by omega, ⟨HS.out.symm⟩⟩
        case measure => simp [intOf]; omega
      · have g0 : (0 : Int) ≤ (n : Int) := by omega
        have g1 : (n : Int) ≤ 281474976710656 := by omega
        go_wp2_with fail
        refine (grow_new w _ g0 g1).mono ?_
        rintro e w1 ⟨rfl, HB0, HW0⟩
        have HW1 := Aside0.mk ((below_alloc (Below.refl w.heap.size w) _).trans HW0.out)
        go_wp2_with fail
        go_loopw [6, 29] (fun _ v29 wr => ∃ k : Nat, v29 = .int .i64 k ∧ k ≤ p.length ∧ Aside0 (Bl w.heap.size (body (p.take k)) wr) ∧ Aside0 (Below w.heap.size w wr)) (fun _ v29 _ => p.length - (intOf v29).toNat)
        case atStart => exact ⟨0, rfl, Nat.zero_le _, ⟨by simpa [body] using HB0.out⟩, HW1⟩
        case round =>
          clear HB0 HW0 HW1 HN g0 g1
          obtain ⟨k2, rfl, hk2, HB, HW2⟩ := hrel
          have hsize := below_size HW2.out
          by_cases hlt2 : k2 < p.length
          · obtain ⟨ad, rfl, hc0⟩ := at_ HC.out k2 hlt2
            have hsp := wt_split p k2 hlt2
            have hbl := body_len (p.take k2)
            have hbs := body_snoc (p.take k2) (p.getD k2 ByteArray.empty)
            rw [← take_get p k2 hlt2] at hbs
            obtain ⟨x, hx⟩ : ∃ x, p.getD k2 ByteArray.empty = x := ⟨_, rfl⟩
            rw [hx] at hc0 hsp hbs
            have HC0 := Aside0.mk hc0
            have hxs : x.size ≤ 2147483647 := by omega
            clear hc0
            have HBS := Aside0.mk hbs
            have hel := esc_length x.data.toList
            have hcl := cnt_le x.data.toList
            rw [size_data] at hel hcl
            have hlen2 : (esc x.data.toList).length ≤ 3 * x.size := by omega
            obtain ⟨out, hout⟩ : ∃ out, body (p.take k2) = out := ⟨_, rfl⟩
            rw [hout] at HB HBS hbl
            have HK := Aside0.mk (byte_any w.heap.size out 47 wr HB.out (by omega) hsize)
            have e47 : (((47 : UInt8).toNat : Nat) : Int) = 47 := rfl
            rw [e47] at HK
            clear e47 hx hbs hout hel hcl
            go_wp2_with fail
            refine (HK.out).mono ?_
            rintro e w2 ⟨rfl, HB2, HX2⟩
            have HY2 := Aside0.mk (HW2.out.trans HX2.out)
            have hc2 := pw_cell_below HY2.out HC0.out
            have HPE := Aside0.mk (pathEscape_any x hxs w2 (HT.out.below HY2.out))
            go_wp2_with fail
            refine (HPE.out).mono ?_
            rintro e w3 ⟨rfl, HX3⟩
            have hsz2 := below_size HY2.out
            have HY3 := Aside0.mk (below_then HY2.out hsz2 HX3.out)
            have hsz3 := below_size HY3.out
            have HB3 := Aside0.mk (Bl.below HB2.out HX3.out)
            have HWS := Aside0.mk (string_any w.heap.size (out ++ [47]) (mk (esc x.data.toList)) w3 HB3.out (by rw [mk_size, List.length_append, List.length_singleton]; omega) hsz3)
            go_wp2_with fail
            refine (HWS.out).mono ?_
            rintro e w4 ⟨rfl, HB4, HX4⟩
            go_wp2_with fail
            go_roundw
            case rel => exact ⟨k2 + 1, by go_num, by omega, ⟨by have := HB4.out; rw [mk_data, List.append_assoc] at this; rw [HBS.out]; exact this⟩, ⟨HY3.out.trans HX4.out⟩⟩
            case measure => simp [intOf]; omega
          · have HE := Aside0.mk (show body (p.take k2) = text p by rw [HTX.out, List.take_of_length_le (by omega)])
            have HZ := Aside0.mk (text_any w.heap.size _ wr HB.out hsize)
            rw [HE.out] at HZ
            go_wp2_with fail
            refine (HZ.out).mono ?_
            rintro e w2 ⟨rfl, HX2⟩
            go_wp2_with fail
            go_ret
            exact ⟨rfl, ⟨HW2.out.trans HX2.out⟩⟩

theorem pathString_any (A : Option Addr) (c : Nat) (p : List ByteArray) (w : World) (h : Kd.C Kd.string w A p.length p) (hw : wt p ≤ 100000) (hT : Tb w) :
    Calls Tryd.prog 9 #[.slice A p.length c] w (Texts p w) := by
  have H := Aside0.mk (string_of A c p w h hw hT)
  clear h hw hT
  go_enter Tryd.func9, Tryd.ntmps9
  go_wp2_with fail
  refine (H.out).mono ?_
  rintro e w1 ⟨rfl, HB⟩
  go_wp2_with fail
  go_ret
  exact ⟨rfl, HB⟩

/-- How many bytes there are in a path. -/
def szs (p : List ByteArray) : Nat := (p.map fun x => x.size).sum
theorem szs_snoc (p : List ByteArray) (x : ByteArray) : szs (p ++ [x]) = szs p + x.size := by simp [szs]
theorem szs_wt (p : List ByteArray) : wt p = szs p + p.length := by
  induction p with
  | nil => rfl
  | cons x p ih =>
    rw [wt_cons, ih, List.length_cons]
    simp only [szs, List.map_cons, List.sum_cons]
    omega
theorem szs_le : ∀ (p : List ByteArray), (∀ x ∈ p, x.size ≤ 2147483647) → szs p ≤ p.length * 2147483647
  | [], _ => by simp [szs]
  | x :: p, h => by
    have h1 := szs_le p (fun y hy => h y (by simp [hy]))
    have h2 := h x (by simp)
    have e : szs (x :: p) = x.size + szs p := by simp [szs]
    rw [e, List.length_cons]
    omega
theorem szs_take (p : List ByteArray) (k : Nat) (hl : p.length ≤ 2147483647) (h : ∀ x ∈ p, x.size ≤ 2147483647) : szs (p.take k) ≤ 4611686014132420609 := by
  have h1 := szs_le (p.take k) (fun x hx => h x (List.mem_of_mem_take hx))
  have h2 : (p.take k).length ≤ 2147483647 := by rw [List.length_take]; omega
  have h3 := Nat.mul_le_mul_right 2147483647 h2
  omega

theorem impl_one (w : World) : Calls Tryd.prog 10 #[.string ⟨#[47, 97]⟩] w (PathsR w [⟨#[97]⟩] true) := by
  have := impl_any ⟨#[47, 97]⟩ (by decide) w
  have e : parse (⟨#[47, 97]⟩ : ByteArray).data.toList = ([⟨#[97]⟩], true) := by decide +kernel
  rw [e] at this
  exact this.mono fun e w' h => Paths.reads h

/-- What the law asks of the text: the path itself. -/
theorem esc_back (p : List ByteArray) (hw : wt p ≤ 10000) (h : ¬ ∃ x, p = [x] ∧ x.data.toList = []) (w : World) (hT : Tb w) : Calls Tryd.prog 6 #[.string (mk (text p))] w (PathsR w p true) := by
  have hlen : (text p).length ≤ 2147483647 := by
    unfold text
    split
    · simp
    · have := body_len p; omega
  have := impl_escaped (mk (text p)) (by rw [mk_size]; exact hlen) w hT
  rw [mk_data, back h] at this
  exact this.mono fun e w' h => Paths.reads h
theorem esc_any (p : List ByteArray) (hw : wt p ≤ 10000) (w : World) (hT : Tb w) : Calls Tryd.prog 6 #[.string (mk (text p))] w (PathsR w (parseEsc (text p)).1 (parseEsc (text p)).2) := by
  have hlen : (text p).length ≤ 2147483647 := by
    unfold text
    split
    · simp
    · have := body_len p; omega
  have := impl_escaped (mk (text p)) (by rw [mk_size]; exact hlen) w hT
  rw [mk_data] at this
  exact this.mono fun e w' h => Paths.reads h

set_option maxHeartbeats 4000000 in
theorem law_back (A : Option Addr) (c : Nat) (p : List ByteArray) (w : World) (h : Kd.C Kd.string w A p.length p) (hT : Tb w) : Calls Tryd.prog 4 #[.slice A p.length c] w (Holds w) := by
  have F := Aside0.mk (zzFits2_any A p c w h)
  have HC := Aside0.mk h
  have HT := Aside0.mk hT
  clear h hT
  by_cases f : fitsB p = true
  · have hl := fitsB_len f
    have HSZ := Aside0.mk (fitsB_word f)
    rw [f] at F
    clear f
    go_enter Tryd.func4, Tryd.ntmps4
    go_wp2_with fail
    refine (F.out).mono ?_
    rintro e w' ⟨rfl, rfl⟩
    go_wp2_with fail
    go_loop [3, 5, 17] (fun v3 _ v17 => ∃ k n : Nat, v3 = .int .i64 n ∧ v17 = .int .i64 k ∧ k ≤ p.length ∧ n ≤ 4611686016279904256 ∧ Aside0 (n = p.length + szs (p.take k))) (fun _ _ v17 => p.length - (intOf v17).toNat)
    case atStart => exact ⟨0, p.length, rfl, rfl, Nat.zero_le _, by omega, ⟨by simp [szs]⟩⟩
    case round =>
      obtain ⟨k, n, rfl, rfl, hk, hn, HN⟩ := hrel
      by_cases hlt : k < p.length
      · obtain ⟨ad, rfl, hc⟩ := at_ HC.out k hlt
        have hsn := szs_snoc (p.take k) (p.getD k ByteArray.empty)
        rw [← take_get p k hlt] at hsn
        have hb := szs_take p (k + 1) hl HSZ.out
        have hx1 := HSZ.out _ (getD_mem p k hlt)
        obtain ⟨x, hx⟩ : ∃ x, p.getD k ByteArray.empty = x := ⟨_, rfl⟩
        rw [hx] at hc hsn hx1
        have hn2 : n + x.size ≤ 4611686016279904256 := by rw [HN.out]; omega
        have HS := Aside0.mk hsn
        clear hx hsn hb
        go_wp2_with fail
        go_round
        case rel => exact ⟨k + 1, n + x.size, by go_num, by go_num, by omega, by omega, ⟨by rw [HS.out, HN.out, Nat.add_assoc]⟩⟩
        case measure => simp [intOf]; omega
      · have HWT := Aside0.mk (show n = wt p by rw [HN.out, List.take_of_length_le (by omega), szs_wt]; omega)
        by_cases hbig : n ≤ 10000
        · have hw : wt p ≤ 10000 := by rw [← HWT.out]; exact hbig
          have HPS := Aside0.mk (pathString_any A c p w HC.out (by omega) HT.out)
          by_cases h1 : p.length = 1
          · obtain ⟨x, hpx⟩ := List.length_eq_one_iff.1 h1
            obtain ⟨ad, rfl, hcell0⟩ := at_ HC.out 0 (by omega)
            have hgx : p.getD 0 ByteArray.empty = x := by rw [hpx]; rfl
            rw [hgx] at hcell0
            have hcell : w.cell? ad = some (.string x) := by simpa [Addr.add] using hcell0
            have HCELL := Aside0.mk hcell
            have t1 : ((p.length : Int) == 1) = true := beq_iff_eq.mpr (by omega)
            have t2 : (0 : Int) < (p.length : Int) := by omega
            have HPX := Aside0.mk hpx
            clear hcell0 hcell h1 hpx hgx
            by_cases hx : x.data.toList = []
            · obtain ⟨l, ok, hes⟩ : ∃ l ok, ∀ w, Tb w → Calls Tryd.prog 6 #[.string (mk (text p))] w (PathsR w l ok) := ⟨_, _, esc_any p hw⟩
              have HES := Aside0.mk hes
              have hx1 : x.toList = [] := by rw [Lib.toList_data]; exact hx
              have hx2 : x.toList.isEmpty = true := by rw [hx1]; rfl
              clear hes hx
              go_wp2_with fail
              refine (HPS.out).mono ?_
              rintro e w1 ⟨rfl, HB1⟩
              go_wp2_with fail
              refine (HES.out _ (HT.out.below HB1.out)).mono ?_
              rintro e w2 ⟨A2, c2, rfl, HC2, HB2⟩
              go_wp2_with fail
              refine (impl_one _).mono ?_
              rintro e w3 ⟨A3, c3, rfl, HC3, HB3⟩
              have hcell3 := pw_cell_below HB3.out (pw_cell_below HB2.out (pw_cell_below HB1.out HCELL.out))
              go_wp2_with fail
              go_ret
              exact ⟨rfl, below_step (below_step HB1.out HB2.out) HB3.out⟩
            · have HES := Aside0.mk (esc_back p hw (fun ⟨y, hy, hy2⟩ => hx (by rw [HPX.out] at hy; rw [(List.cons.inj hy).1]; exact hy2)))
              have hx1 : ¬ x.toList = [] := by rw [Lib.toList_data]; exact hx
              have hx2 : x.toList.isEmpty = false := by simpa using hx1
              clear hx
              go_wp2_with fail
              refine (HPS.out).mono ?_
              rintro e w1 ⟨rfl, HB1⟩
              go_wp2_with fail
              refine (HES.out _ (HT.out.below HB1.out)).mono ?_
              rintro e w2 ⟨A2, c2, rfl, HC2, HB2⟩
              go_wp2_with fail
              refine (impl_one _).mono ?_
              rintro e w3 ⟨A3, c3, rfl, HC3, HB3⟩
              have hcell3 := pw_cell_below HB3.out (pw_cell_below HB2.out (pw_cell_below HB1.out HCELL.out))
              have HW := Aside0.mk (words_any A2 c2 p (some ad) c p w3 (Kd.C_below HC2.out HB3.out) (Kd.C_below (Kd.C_below (Kd.C_below HC.out HB1.out) HB2.out) HB3.out))
              rw [eqW_same p] at HW
              go_wp2_with fail
              refine (HW.out).mono ?_
              rintro e w4 ⟨rfl, ⟨n4, rfl⟩⟩
              go_wp2_with fail
              go_ret
              exact ⟨rfl, pw_below_drewN (below_step (below_step HB1.out HB2.out) HB3.out) _⟩
          · have HES := Aside0.mk (esc_back p hw (fun ⟨x, hx, _⟩ => h1 (by rw [hx]; rfl)))
            have t1 : ((p.length : Int) == 1) = false := beq_eq_false_iff_ne.mpr (by omega)
            clear h1
            go_wp2_with fail
            refine (HPS.out).mono ?_
            rintro e w1 ⟨rfl, HB1⟩
            go_wp2_with fail
            refine (HES.out _ (HT.out.below HB1.out)).mono ?_
            rintro e w2 ⟨A2, c2, rfl, HC2, HB2⟩
            go_wp2_with fail
            refine (impl_one _).mono ?_
            rintro e w3 ⟨A3, c3, rfl, HC3, HB3⟩
            have HW := Aside0.mk (words_any A2 c2 p A c p w3 (Kd.C_below HC2.out HB3.out) (Kd.C_below (Kd.C_below (Kd.C_below HC.out HB1.out) HB2.out) HB3.out))
            rw [eqW_same p] at HW
            go_wp2_with fail
            refine (HW.out).mono ?_
            rintro e w4 ⟨rfl, ⟨n4, rfl⟩⟩
            go_wp2_with fail
            go_ret
            exact ⟨rfl, pw_below_drewN (below_step (below_step HB1.out HB2.out) HB3.out) _⟩
        · have HPS := Aside0.mk (pathString_any none 0 [] w (Kd.C_nil _ _) (by decide) HT.out)
          have HES := Aside0.mk (esc_back [] (by decide) (by simp))
          clear HC HSZ HWT HN
          go_wp2_with fail
          refine (HPS.out).mono ?_
          rintro e w1 ⟨rfl, HB1⟩
          go_wp2_with fail
          refine (HES.out _ (HT.out.below HB1.out)).mono ?_
          rintro e w2 ⟨A2, c2, rfl, HC2, HB2⟩
          go_wp2_with fail
          refine (impl_one _).mono ?_
          rintro e w3 ⟨A3, c3, rfl, HC3, HB3⟩
          have HW := Aside0.mk (words_any A2 c2 [] none 0 [] w3 (Kd.C_below HC2.out HB3.out) (Kd.C_nil _ _))
          rw [eqW_same []] at HW
          go_wp2_with fail
          refine (HW.out).mono ?_
          rintro e w4 ⟨rfl, ⟨n4, rfl⟩⟩
          go_wp2_with fail
          go_ret
          exact ⟨rfl, pw_below_drewN (below_step (below_step HB1.out HB2.out) HB3.out) _⟩
  · replace f : fitsB p = false := by simpa using f
    rw [f] at F
    clear f
    go_enter Tryd.func4, Tryd.ntmps4
    go_wp2_with fail
    refine (F.out).mono ?_
    rintro e w' ⟨rfl, rfl⟩
    go_wp2_with fail
    go_ret
    exact ⟨rfl, Below.refl _ _⟩
end Go.Proofs.YtljnooljfbokoaaDoor.WalkP
