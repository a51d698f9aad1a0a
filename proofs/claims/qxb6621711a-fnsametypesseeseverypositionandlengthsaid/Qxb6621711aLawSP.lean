/-
  The walk over FnSameTypesSeesEveryPositionAndLength.
-/
import Derived.Test.Qxb6621711aWalkC
namespace Go.Proofs.Qxb6621711a
open Go.RowKit

def updS (f : Nat → ByteArray) (j : Nat) (x : ByteArray) : Nat → ByteArray := fun i => if i = j then x else f i
theorem Part.put {w : World} {g len k j : Nat} {t n : Nat → ByteArray} (h : Part w g len k t n) (hj : j < len) (x y : ByteArray) :
    Part ((w.setCell ⟨g, j * 2, none⟩ (.string x)).setCell ⟨g, j * 2 + 1, none⟩ (.string y)) g len k (updS t j x) (updS n j y) := by
  intro i hi
  obtain ⟨⟨u1, h1⟩, ⟨u2, h2⟩, f1, f2, h3⟩ := h i hi
  obtain ⟨⟨v1, g1⟩, ⟨v2, g2⟩, _, _, _⟩ := h j hj
  simp only [World.frozen?_setCell]
  have c2 : (w.setCell ⟨g, j * 2, none⟩ (.string x)).cell? ⟨g, j * 2 + 1, none⟩ = some v2 := by
    rw [World.cell?_setCell_other _ _ _ _ (fun e => by injection e; omega)]; exact g2
  by_cases e : i = j
  · subst e
    have d1 : ((w.setCell ⟨g, i * 2, none⟩ (.string x)).setCell ⟨g, i * 2 + 1, none⟩ (.string y)).cell? ⟨g, i * 2, none⟩ = some (.string x) := by
      rw [World.cell?_setCell_other _ _ _ _ (fun e => by injection e; omega)]
      exact World.cell?_setCell_same _ _ _ g1
    have d2 : ((w.setCell ⟨g, i * 2, none⟩ (.string x)).setCell ⟨g, i * 2 + 1, none⟩ (.string y)).cell? ⟨g, i * 2 + 1, none⟩ = some (.string y) := World.cell?_setCell_same _ _ _ c2
    have e1 : updS t i x i = x := if_pos rfl
    have e2 : updS n i y i = y := if_pos rfl
    rw [e1, e2]
    exact ⟨⟨_, d1⟩, ⟨_, d2⟩, f1, f2, fun _ => ⟨d1, d2⟩⟩
  · have q : ∀ o, o = i * 2 ∨ o = i * 2 + 1 → ((w.setCell ⟨g, j * 2, none⟩ (.string x)).setCell ⟨g, j * 2 + 1, none⟩ (.string y)).cell? ⟨g, o, none⟩ = w.cell? ⟨g, o, none⟩ := by
      intro o ho
      rw [World.cell?_setCell_other _ _ _ _ (fun e => by injection e; omega), World.cell?_setCell_other _ _ _ _ (fun e => by injection e; omega)]
    have e1 : updS t j x i = t i := if_neg e
    have e2 : updS n j y i = n i := if_neg e
    rw [q _ (.inl rfl), q _ (.inr rfl), e1, e2]
    exact ⟨⟨u1, h1⟩, ⟨u2, h2⟩, f1, f2, h3⟩

theorem Part.next {w : World} {g len k : Nat} {t n : Nat → ByteArray} (h : Part w g len k t n) (hk : k < len) (x y : ByteArray) :
    Part ((w.setCell ⟨g, k * 2, none⟩ (.string x)).setCell ⟨g, k * 2 + 1, none⟩ (.string y)) g len (k + 1) (updS t k x) (updS n k y) := by
  have h' : Part w g len k (updS t k x) (updS n k y) := by
    intro i hi
    obtain ⟨h1, h2, h3, h4, h5⟩ := h i hi
    refine ⟨h1, h2, h3, h4, fun hik => ?_⟩
    have e1 : updS t k x i = t i := if_neg (by omega)
    have e2 : updS n k y i = n i := if_neg (by omega)
    rw [e1, e2]; exact h5 hik
  have e1 : updS t k x k = x := if_pos rfl
  have e2 : updS n k y k = y := if_pos rfl
  have h2 := h'.set hk
  rw [e1, e2] at h2
  exact h2
/-- one element of a row of the call's own stored anew, a block made: another row of the call's own stands -/
theorem put_world {w : World} {g1 g2 len j : Nat} {t n t' n' : Nat → ByteArray} {len' k' : Nat} (P : Part w g2 len len t n) (A : Part w g1 len' k' t' n') (hne : g1 ≠ g2) (h1 : g1 < w.heap.size) (h2 : g2 < w.heap.size) (hj : j < len) (x y : ByteArray) (o : Obj) :
    ∃ W, ((w.setCell ⟨g2, j * 2, none⟩ (.string x)).setCell ⟨g2, j * 2 + 1, none⟩ (.string y)).alloc o = W ∧ Part W g2 len len (updS t j x) (updS n j y) ∧ Part W g1 len' k' t' n' ∧ (∀ B, B ≤ g2 → Below B w W) ∧ w.heap.size ≤ W.heap.size := by
  have hs : ((w.setCell ⟨g2, j * 2, none⟩ (.string x)).setCell ⟨g2, j * 2 + 1, none⟩ (.string y)).heap.size = w.heap.size := by simp [World.setCell]
  refine ⟨_, rfl, (P.put hj x y).alloc o (by omega), (A.same ?_).alloc o (by omega), fun B hB => ?_, by simp [World.setCell]⟩
  · rw [Below.heap_setCell _ _ _ _ hne, Below.heap_setCell _ _ _ _ hne]
  · exact (((Below.refl B w).setCell (p := ⟨g2, j * 2, none⟩) hB _).setCell (p := ⟨g2, j * 2 + 1, none⟩) hB _).alloc (by omega) o

/-! ### plain facts on sameB -/
theorem eqS_refl (x : ByteArray) : eqS x x = true := by unfold eqS; simp
theorem eqS_comm (x y : ByteArray) : eqS x y = eqS y x := by
  unfold eqS; rw [Bool.eq_iff_iff]; simp only [beq_iff_eq]; exact eq_comm
theorem sameB_refl (len : Nat) (n : Nat → ByteArray) : sameB len len n n = true := decide_eq_true ⟨rfl, fun _ _ => eqS_refl _⟩
theorem sameB_put (len j : Nat) (n : Nat → ByteArray) (y : ByteArray) (hj : j < len) (h : eqS y (n j) = false) : sameB len len n (updS n j y) = false := by
  refine decide_eq_false fun hh => ?_
  have h1 := hh.2 j hj
  have e : updS n j y j = y := if_pos rfl
  rw [e, eqS_comm, h] at h1
  cases h1
theorem sameB_put' (len j : Nat) (n : Nat → ByteArray) (y : ByteArray) (hj : j < len) (h : eqS y (n j) = false) : sameB len len (updS n j y) n = false := by
  refine decide_eq_false fun hh => ?_
  have h1 := hh.2 j hj
  have e : updS n j y j = y := if_pos rfl
  rw [e, h] at h1
  cases h1
theorem sameB_len (len len' : Nat) (n n' : Nat → ByteArray) (h : len ≠ len') : sameB len len' n n' = false := decide_eq_false fun hh => h hh.1

set_option maxHeartbeats 2000000 in
theorem sp_main (a : Option Addr) (len cap : Nat) (x : Int) (nm et en : ByteArray) (t n : Nat → ByteArray) (w : World) (hr : RowIs w a len t n) (hm : len ≤ maxLen) :
    Calls Try.prog 4 #[.slice a len cap, .int .i64 x, .string nm, .agg #[.string et, .string en]] w fun e w' => e = .returned (.bool true) ∧ Below w.heap.size w w' := by
  have b0 := (Below.refl w.heap.size w).alloc (Nat.le_refl _) (.cells #[.string et, .string en] 30)
  have r0 := hr.below b0
  have hby := fun v (h : RowIs v a len t n) => bytes11_any a len cap x nm et en t n v h hm
  unfold maxLen at hm
  have c0 : (w.alloc (.cells #[.string et, .string en] 30)).cell? ⟨w.heap.size, 0, none⟩ = some (.string et) := by simp [go_sem]
  have c1 : (w.alloc (.cells #[.string et, .string en] 30)).cell? ⟨w.heap.size, 1, none⟩ = some (.string en) := by simp [go_sem]
  go_enter Try.func4, Try.ntmps4
  go_wp2_with fail
  refine (hby _ r0).mono ?_
  rintro e w1 ⟨⟨ok, rfl⟩, b1⟩
  have r1 := r0.below b1
  have B1 := Below.step b0 b1
  have d0 := (b1.cell (cell_lt c0)).trans c0
  have d1 := (b1.cell (cell_lt c1)).trans c1
  clear hby b0 b1 r0 hr c0 c1
  cases ok with
  | false =>
    go_wp2
    go_ret
    exact ⟨rfl, B1⟩
  | true =>
  by_cases g1 : 65536 < len
  · go_wp2
    go_ret
    exact ⟨rfl, B1⟩
  by_cases g2 : 1048576 < nm.size
  · go_wp2
    go_ret
    exact ⟨rfl, B1⟩
  by_cases g3 : 1048576 < et.size
  · go_wp2
    go_ret
    exact ⟨rfl, B1⟩
  by_cases g4 : 1048576 < en.size
  · go_wp2
    go_ret
    exact ⟨rfl, B1⟩
  go_wp2_with fail
  refine (typeBytes_any a len cap 0 t n _ r1 (by omega) (by omega) (by omega)).mono ?_
  rintro e w2 ⟨q1, rfl, l1, l1', rfl⟩
  go_wp2_with fail
  refine (add_any _ _ _ l1 l1' (by omega)).mono ?_
  rintro e w3 ⟨q2, rfl, l2, l2', rfl⟩
  go_wp2_with fail
  refine (add_any _ _ _ l2 l2' (by omega)).mono ?_
  rintro e w4 ⟨q3, rfl, l3, l3', rfl⟩
  go_wp2_with fail
  refine (add_any _ _ _ l3 l3' (by omega)).mono ?_
  rintro e w5 ⟨q4, rfl, l4, l4', rfl⟩
  clear l1 l1' l2 l2' l3 l3'
  by_cases g5 : 1048576 < q4
  · go_wp2
    go_ret
    exact ⟨rfl, B1⟩
  by_cases g6 : x < 0
  · go_wp2
    go_ret
    exact ⟨rfl, B1⟩
  obtain ⟨j, rfl⟩ := Int.eq_ofNat_of_zero_le (show 0 ≤ x by omega)
  by_cases g7 : len ≤ j
  · go_wp2
    go_ret
    exact ⟨rfl, B1⟩
  have hj : j < len := by omega
  obtain ⟨b, off, rfl, hc⟩ := r1.resolve_left (by omega)
  have p1 := (hc j hj).1
  have p2 := (hc j hj).2
  cases g8 : eqS nm (n j) with
  | true =>
    have g8' : (nm.toList == (n j).toList) = true := g8
    clear g8 hc
    go_wp2
    go_ret
    exact ⟨rfl, B1⟩
  | false =>
  have g8' : (nm.toList == (n j).toList) = false := g8
  have G8 : Hid (eqS nm (n j) = false) := g8
  have G7 : Hid (j < len) := hj
  clear g8 hc
  go_wp2_with fail
  refine (types_any _ len cap t n _ r1 (by omega)).mono ?_
  rintro e w6 ⟨rfl, P6, b6⟩
  have l6 : w5.heap.size < w6.heap.size := by obtain ⟨⟨_, h⟩, _⟩ := P6 j hj; exact cell_lt h
  have lB : w.heap.size < w5.heap.size := cell_lt d0
  have r6 := r1.below b6
  have B6 := Below.step B1 b6
  have u0 := (b6.cell (cell_lt d0)).trans d0
  have u1 := (b6.cell (cell_lt d1)).trans d1
  clear r1 b6 B1 d0 d1 p1 p2 g8'
  have hs1 := sameB_refl len n
  go_wp2_with fail
  refine (zzSame_any _ len len t n _ len len t n _ P6.row P6.row (by omega)).mono ?_
  rintro e w7 ⟨rfl, b7⟩
  have P7 := P6.below b7 l6
  have r7 := r6.below b7
  have B7 := Below.step B6 b7
  have d0 := (b7.cell (cell_lt u0)).trans u0
  have d1 := (b7.cell (cell_lt u1)).trans u1
  have l7 := b7.size
  clear P6 r6 B6 u0 u1 b7
  go_wp2_with fail
  refine (types_any _ len cap t n _ r7 (by omega)).mono ?_
  rintro e w8 ⟨rfl, P8, b8⟩
  have l8 : w7.heap.size < w8.heap.size := by obtain ⟨⟨_, h⟩, _⟩ := P8 j hj; exact cell_lt h
  have A8 := P7.below b8 (by omega)
  have r8 := r7.below b8
  have B8 := Below.step B7 b8
  have u0 := (b8.cell (cell_lt d0)).trans d0
  have u1 := (b8.cell (cell_lt d1)).trans d1
  clear P7 r7 B7 d0 d1 b8
  have G1 : w.heap.size < w5.heap.size := lB
  generalize w5.heap.size = gA at *
  generalize w7.heap.size = gB at *
  obtain ⟨hc1, hc2⟩ : w8.cell? ⟨b, off + j * 2, none⟩ = some (.string (t j)) ∧ w8.cell? ⟨b, off + j * 2 + 1, none⟩ = some (.string (n j)) := by
    obtain ⟨b', off', e, h⟩ := r8.resolve_left (by omega)
    injection e with e; injection e with e1 e2; subst e1; subst e2
    exact h j hj
  obtain ⟨⟨v1, k1⟩, ⟨v2, k2⟩, f1, f2, _⟩ := P8 j hj
  go_wp2_with fail
  refine (make_type _ _ _).mono ?_
  rintro e w9 ⟨rfl, rfl⟩
  go_wp2_with fail
  obtain ⟨w9, hw9, P9, A9, b9, l9⟩ := put_world P8 A8 (by omega) (by omega) (by omega) hj (t j) nm (.cells #[.string (t j), .string nm] 32)
  rw [hw9]
  have d0 := ((b9 gA (by omega)).cell (p := ⟨w.heap.size, 0, none⟩) (by show w.heap.size < gA; omega)).trans u0
  have d1 := ((b9 gA (by omega)).cell (p := ⟨w.heap.size, 1, none⟩) (by show w.heap.size < gA; omega)).trans u1
  have B9 := B8.trans (b9 w.heap.size (by omega))
  have hs2 := sameB_put len j n nm hj G8.out
  have hs3 := sameB_put' len j n nm hj G8.out
  clear hw9 P8 A8 r8 B8 u0 u1 b9 hc1 hc2 k1 k2 f1 f2 v1 v2
  refine (zzSame_any _ len len t n _ len len _ (updS n j nm) _ A9.row P9.row (by omega)).mono ?_
  rintro e w10 ⟨rfl, b10⟩
  have P10 := P9.below b10 (by omega)
  have A10 := A9.below b10 (by omega)
  have l10 := b10.size
  have u0 := (b10.cell (cell_lt d0)).trans d0
  have u1 := (b10.cell (cell_lt d1)).trans d1
  have B10 := Below.step B9 b10
  clear P9 A9 b10 d0 d1 B9
  go_wp2_with fail
  refine (zzSame_any _ len len _ (updS n j nm) _ len len t n _ P10.row A10.row (by omega)).mono ?_
  rintro e w11 ⟨rfl, b11⟩
  have A11 := A10.below b11 (by omega)
  have l11 := b11.size
  have d0 := (b11.cell (cell_lt u0)).trans u0
  have d1 := (b11.cell (cell_lt u1)).trans u1
  have B11 := Below.step B10 b11
  clear P10 A10 b11 u0 u1 B10
  obtain ⟨i0, hi, hz0, hz1, hz2⟩ := info_parts Try.info32
  go_wp2_with (at_make; refine wpList_make_full _ rfl _ _ 27 rfl w11.heap.size 32 i0 (.agg #[.string ⟨#[]⟩, .string ⟨#[]⟩]) 2 Try.underlying27 hi hz0 hz1 _ _ _ _ (len + 1) rfl rfl (by omega) (by omega) ?b2 ?b3 ?b4 ?_)
  case b2 => rw [hz2]; omega
  case b3 => unfold maxLen; omega
  case b4 => exact Nat.le_refl _
  intro w12 hown hgrow
  have P12 := part_made hown t n
  have b12 := (Below.refl w11.heap.size w11).grown hgrow (Nat.le_refl _) (fun k h => by cases h)
  have A12 := A11.below b12 (by omega)
  have l12 : w11.heap.size < w12.heap.size := by obtain ⟨⟨_, h⟩, _⟩ := P12 j (by omega); exact cell_lt h
  have u0 := (b12.cell (cell_lt d0)).trans d0
  have u1 := (b12.cell (cell_lt d1)).trans d1
  have B12 := Below.step B11 b12
  have l13 : gA < w11.heap.size := by omega
  clear hown hgrow b12 A11 d0 d1 B11 hi hz0 hz1 hz2 l6 l7 l8 l9 l10 l11 hs1 hs2 hs3
  generalize w11.heap.size = gC at *
  go_wp2
  go_loopw [13] (fun i wr => ∃ k : Nat, k ≤ len ∧ i = .int .i64 k ∧ Part wr gC (len + 1) k t n ∧ Below gC w12 wr) (fun i _ => len - (intOf i).toNat)
  case atStart => exact ⟨0, Nat.zero_le _, rfl, P12, Below.refl _ _⟩
  case round =>
    obtain ⟨k, hk, rfl, hP, hB⟩ := hrel
    clear P12
    have A13 := A12.same (hB.block gA l13)
    by_cases hlt : k < len
    · obtain ⟨_, _, _, _, h5⟩ := A13 k hlt
      have q1 := (h5 hlt).1
      have q2 := (h5 hlt).2
      obtain ⟨⟨v1, k1⟩, ⟨v2, k2⟩, f1, f2, _⟩ := hP k (by omega)
      have P2 := hP.set (show k < len + 1 by omega)
      have B2 := (hB.setCell (p := ⟨gC, k * 2, none⟩) (Nat.le_refl _) (.string (t k))).setCell (p := ⟨gC, k * 2 + 1, none⟩) (Nat.le_refl _) (.string (n k))
      clear h5 A13 A12 hP hB u0 u1 B12
      go_wp2
      go_roundw
      case rel => exact ⟨k + 1, by omega, by go_num, P2, B2⟩
      case measure => simp [intOf]; omega
    · have ek : k = len := by omega
      subst ek
      have d0 := (hB.cell (p := ⟨w.heap.size, 0, none⟩) (by show w.heap.size < gC; omega)).trans u0
      have d1 := (hB.cell (p := ⟨w.heap.size, 1, none⟩) (by show w.heap.size < gC; omega)).trans u1
      have B13 := B12.trans (hB.mono (show w.heap.size ≤ gC by omega))
      have l14 := hB.size
      have l15 : gC < wr.heap.size := by omega
      obtain ⟨⟨v1, k1⟩, ⟨v2, k2⟩, f1, f2, _⟩ := hP k (by omega)
      clear A12 hB B12 u0 u1
      go_wp2_with fail
      refine (make_type _ _ _).mono ?_
      rintro e w14 ⟨rfl, rfl⟩
      go_wp2_with fail
      have hsz : ((wr.setCell ⟨gC, k * 2, none⟩ (.string et)).setCell ⟨gC, k * 2 + 1, none⟩ (.string en)).heap.size = wr.heap.size := by simp [World.setCell]
      have P15 := (hP.next (show k < k + 1 by omega) et en).alloc (.cells #[.string et, .string en] 32) (by omega)
      have A15 := (A13.same (w' := (wr.setCell ⟨gC, k * 2, none⟩ (.string et)).setCell ⟨gC, k * 2 + 1, none⟩ (.string en)) (by rw [Below.heap_setCell _ _ _ _ (show gA ≠ gC by omega), Below.heap_setCell _ _ _ _ (show gA ≠ gC by omega)])).alloc (.cells #[.string et, .string en] 32) (by omega)
      have B15 := ((B13.setCell (p := ⟨gC, k * 2, none⟩) (show w.heap.size ≤ gC by omega) (.string et)).setCell (p := ⟨gC, k * 2 + 1, none⟩) (show w.heap.size ≤ gC by omega) (.string en)).alloc (by omega) (.cells #[.string et, .string en] 32)
      have l16 : wr.heap.size < (((wr.setCell ⟨gC, k * 2, none⟩ (.string et)).setCell ⟨gC, k * 2 + 1, none⟩ (.string en)).alloc (.cells #[.string et, .string en] 32)).heap.size := by simp [World.setCell]
      clear hP A13 B13 d0 d1 k1 k2 f1 f2 hsz
      generalize ((wr.setCell ⟨gC, k * 2, none⟩ (.string et)).setCell ⟨gC, k * 2 + 1, none⟩ (.string en)).alloc (.cells #[.string et, .string en] 32) = w15 at *
      have hs1 := sameB_len k (k + 1) n (updS n k en) (by omega)
      have hs2 := sameB_len (k + 1) k (updS n k en) n (by omega)
      have hs3 := sameB_refl (k + 1) (updS n k en)
      refine (zzSame_any _ k k t n _ (k + 1) (k + 1) _ (updS n k en) _ A15.row P15.row (by omega)).mono ?_
      rintro e w16 ⟨rfl, b16⟩
      have P16 := P15.below b16 (by omega)
      have A16 := A15.below b16 (by omega)
      have B16 := Below.step B15 b16
      have l17 := b16.size
      clear P15 A15 B15 b16
      go_wp2_with fail
      refine (zzSame_any _ (k + 1) (k + 1) _ (updS n k en) _ k k t n _ P16.row A16.row (by omega)).mono ?_
      rintro e w17 ⟨rfl, b17⟩
      have P17 := P16.below b17 (by omega)
      have B17 := Below.step B16 b17
      clear P16 A16 B16 b17
      go_wp2_with fail
      refine (zzSame_any _ (k + 1) (k + 1) _ (updS n k en) _ (k + 1) (k + 1) _ (updS n k en) _ P17.row P17.row (by omega)).mono ?_
      rintro e w18 ⟨rfl, b18⟩
      have B18 := Below.step B17 b18
      clear P17 B17 b18
      go_wp2
      go_ret
      exact ⟨rfl, B18⟩
end Go.Proofs.Qxb6621711a
