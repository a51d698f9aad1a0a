/-
  The walk over FnSameTypesIgnoresTextAndIsJudgedByNames.
-/
import Derived.Test.Qxb6621711aWalkC
namespace Go.Proofs.Qxb6621711a
open Go.RowKit

theorem eqS_same (x : ByteArray) : eqS x x = true := by unfold eqS; simp
theorem eqS_turn (x y : ByteArray) : eqS x y = eqS y x := by
  unfold eqS; rw [Bool.eq_iff_iff]; simp only [beq_iff_eq]; exact eq_comm
theorem sameB_self (len : Nat) (n : Nat → ByteArray) : sameB len len n n = true := decide_eq_true ⟨rfl, fun _ _ => eqS_same _⟩
theorem sameB_turn (len len' : Nat) (n n' : Nat → ByteArray) : sameB len len' n n' = sameB len' len n' n := by
  unfold sameB
  rw [Bool.eq_iff_iff]
  simp only [decide_eq_true_eq]
  constructor
  · rintro ⟨rfl, h⟩; exact ⟨rfl, fun i hi => by rw [eqS_turn]; exact h i hi⟩
  · rintro ⟨rfl, h⟩; exact ⟨rfl, fun i hi => by rw [eqS_turn]; exact h i hi⟩

theorem Part.lt {w : World} {g len k : Nat} {t n : Nat → ByteArray} (h : Part w g len k t n) : len = 0 ∨ g < w.heap.size := by
  by_cases e : len = 0
  · exact .inl e
  · obtain ⟨⟨_, h1⟩, _⟩ := h 0 (by omega)
    exact .inr (cell_lt h1)
theorem Part.keep {w w' : World} {g len k B : Nat} {t n : Nat → ByteArray} (h : Part w g len k t n) (hb : Below B w w') (hg : len = 0 ∨ g < B) : Part w' g len k t n := by
  rcases hg with h0 | h0
  · intro i hi; omega
  · exact h.same (hb.block g h0)
theorem Part.behind {w w' : World} {g len k : Nat} {t n : Nat → ByteArray} (h : Part w g len k t n) (hb : Below w.heap.size w w') : Part w' g len k t n := h.keep hb h.lt

/-- the texts of the rewritten list -/
def texts2 (len' : Nat) (x t : Nat → ByteArray) : Nat → ByteArray := fun i => if i < len' then x i else t i

set_option maxHeartbeats 2000000 in
theorem ig_main (a : Option Addr) (len cap : Nat) (t n : Nat → ByteArray) (a' : Option Addr) (len' cap' : Nat) (x : Nat → ByteArray) (a'' : Option Addr) (len'' cap'' : Nat) (tc nc : Nat → ByteArray) (w : World)
    (hr : RowIs w a len t n) (hm : len ≤ maxLen) (hr' : StrsIs w a' len' x) (hm' : len' ≤ maxLen) (hr'' : RowIs w a'' len'' tc nc) (hm'' : len'' ≤ maxLen) :
    Calls Try.prog 3 #[.slice a len cap, .slice a' len' cap', .slice a'' len'' cap''] w fun e w' => e = .returned (.bool true) ∧ Below w.heap.size w w' := by
  have hby := bytes5_any a len cap t n a' len' cap' x a'' len'' cap'' tc nc w hr hm hr' hm' hr'' hm''
  unfold maxLen at hm hm' hm''
  go_enter Try.func3, Try.ntmps3
  go_wp2_with fail
  refine hby.mono ?_
  rintro e w1 ⟨⟨ok, rfl⟩, rfl⟩
  clear hby
  cases ok with
  | false =>
    go_wp2
    go_ret
    exact ⟨rfl, Below.refl _ _⟩
  | true =>
  by_cases z1 : 65536 < len
  · go_wp2
    go_ret
    exact ⟨rfl, Below.refl _ _⟩
  by_cases z2 : 65536 < len'
  · go_wp2
    go_ret
    exact ⟨rfl, Below.refl _ _⟩
  by_cases z3 : 65536 < len''
  · go_wp2
    go_ret
    exact ⟨rfl, Below.refl _ _⟩
  go_wp2_with fail
  refine (typeBytes_any a len cap 0 t n _ hr (by omega) (by omega) (by omega)).mono ?_
  rintro e w2 ⟨q1, rfl, l1, l1', rfl⟩
  go_wp2_with fail
  refine (wordsBytes_any a' len' cap' q1 x _ hr' (by omega) l1 l1').mono ?_
  rintro e w3 ⟨q2, rfl, l2, l2', rfl⟩
  go_wp2_with fail
  refine (typeBytes_any a'' len'' cap'' q2 tc nc _ hr'' (by omega) l2 l2').mono ?_
  rintro e w4 ⟨q3, rfl, l3, l3', rfl⟩
  clear l1 l1' l2 l2'
  by_cases g5 : 1048576 < q3
  · go_wp2
    go_ret
    exact ⟨rfl, Below.refl _ _⟩
  go_wp2_with fail
  refine (types_any _ len cap t n _ hr (by omega)).mono ?_
  rintro e w6 ⟨rfl, A6, b6⟩
  have r6 := hr.below b6
  have s6 := hr'.below b6
  have c6 := hr''.below b6
  have lA := A6.lt
  have l6 := b6.size
  obtain ⟨i0, hi, hz0, hz1, hz2⟩ := info_parts Try.info32
  clear hr hr' hr''
  go_wp2_with (at_make; refine wpList_make_full _ rfl _ _ 27 rfl w6.heap.size 32 i0 (.agg #[.string ⟨#[]⟩, .string ⟨#[]⟩]) 2 Try.underlying27 hi hz0 hz1 _ _ _ _ len rfl rfl rfl rfl ?b2 ?b3 ?b4 ?_)
  case b2 => rw [hz2]; omega
  case b3 => unfold maxLen; omega
  case b4 => exact Nat.le_refl _
  intro w7 hown hgrow
  have P7 := part_made hown (texts2 len' x t) n
  have b7 := (Below.refl w6.heap.size w6).grown hgrow (Nat.le_refl _) (fun k h => by cases h)
  have A7 := A6.behind b7
  have r7 := r6.below b7
  have s7 := s6.below b7
  have c7 := c6.below b7
  have B7 := Below.step b6 b7
  have r6' : ∀ i, i < len → ∃ b off, a = some ⟨b, off, none⟩ ∧ b < w6.heap.size ∧ w7.cell? ⟨b, off + i * 2, none⟩ = some (.string (t i)) ∧ w7.cell? ⟨b, off + i * 2 + 1, none⟩ = some (.string (n i)) := by
    intro i hi
    obtain ⟨b, off, e, h⟩ := r6.resolve_left (by omega)
    have hl : b < w6.heap.size := cell_lt (h i hi).1
    exact ⟨b, off, e, hl, (b7.cell (p := ⟨b, off + i * 2, none⟩) hl).trans (h i hi).1, (b7.cell (p := ⟨b, off + i * 2 + 1, none⟩) hl).trans (h i hi).2⟩
  have s6' : ∀ i, i < len' → ∃ b off, a' = some ⟨b, off, none⟩ ∧ b < w6.heap.size ∧ w7.cell? ⟨b, off + i, none⟩ = some (.string (x i)) := by
    intro i hi
    obtain ⟨b, off, e, h⟩ := s6.resolve_left (by omega)
    have hl := cell_lt (h i hi)
    exact ⟨b, off, e, hl, (b7.cell hl).trans (h i hi)⟩
  have hC : len'' = 0 ∨ ∃ b off, a'' = some ⟨b, off, none⟩ ∧ b < w6.heap.size ∧ ∀ i, i < len'' → w7.cell? ⟨b, off + i * 2, none⟩ = some (.string (tc i)) ∧ w7.cell? ⟨b, off + i * 2 + 1, none⟩ = some (.string (nc i)) := by
    rcases Nat.eq_zero_or_pos len'' with h0 | h0
    · exact .inl h0
    · obtain ⟨b, off, e, h⟩ := c6.resolve_left (by omega)
      have hl : b < w6.heap.size := cell_lt (h 0 h0).1
      exact .inr ⟨b, off, e, hl, fun i hi => ⟨(b7.cell (p := ⟨b, off + i * 2, none⟩) hl).trans (h i hi).1, (b7.cell (p := ⟨b, off + i * 2 + 1, none⟩) hl).trans (h i hi).2⟩⟩
  have HR : Hid (∀ i, i < len → ∃ b off, a = some ⟨b, off, none⟩ ∧ b < w6.heap.size ∧ w7.cell? ⟨b, off + i * 2, none⟩ = some (.string (t i)) ∧ w7.cell? ⟨b, off + i * 2 + 1, none⟩ = some (.string (n i))) := r6'
  have HS : Hid (∀ i, i < len' → ∃ b off, a' = some ⟨b, off, none⟩ ∧ b < w6.heap.size ∧ w7.cell? ⟨b, off + i, none⟩ = some (.string (x i))) := s6'
  have HC : Hid (len'' = 0 ∨ ∃ b off, a'' = some ⟨b, off, none⟩ ∧ b < w6.heap.size ∧ ∀ i, i < len'' → w7.cell? ⟨b, off + i * 2, none⟩ = some (.string (tc i)) ∧ w7.cell? ⟨b, off + i * 2 + 1, none⟩ = some (.string (nc i))) := hC
  have lB : len = 0 ∨ w6.heap.size < w7.heap.size := P7.lt
  clear r6' s6' hC hown hgrow b7 A6 r6 s6 c6 r7 s7 c7 b6 hi hz0 hz1 hz2
  generalize w6.heap.size = gB at *
  go_wp2
  go_loopw [9] (fun i wr => ∃ k : Nat, k ≤ len ∧ i = .int .i64 k ∧ Part wr gB len k (texts2 len' x t) n ∧ Below gB w7 wr) (fun i _ => len - (intOf i).toNat)
  case atStart => exact ⟨0, Nat.zero_le _, rfl, P7, Below.refl _ _⟩
  case round =>
    obtain ⟨k, hk, rfl, hP, hB⟩ := hrel
    clear P7
    by_cases hlt : k < len
    · obtain ⟨b, off, rfl, hbl, h1, h2⟩ := HR.out k hlt
      have h1' := (hB.cell (p := ⟨b, off + k * 2, none⟩) hbl).trans h1
      have h2' := (hB.cell (p := ⟨b, off + k * 2 + 1, none⟩) hbl).trans h2
      obtain ⟨⟨v1, k1⟩, ⟨v2, k2⟩, f1, f2, _⟩ := hP k hlt
      have lG : gB < wr.heap.size := cell_lt k1
      have lb : b < wr.heap.size := by omega
      have P2 := (hP.set hlt).alloc (.cells #[.string (texts2 len' x t k), .string (n k)] 32) (by simpa [World.setCell] using lG)
      have B2 := ((hB.setCell (p := ⟨gB, k * 2, none⟩) (Nat.le_refl _) (.string (texts2 len' x t k))).setCell (p := ⟨gB, k * 2 + 1, none⟩) (Nat.le_refl _) (.string (n k))).alloc (by simp [World.setCell]; omega) (.cells #[.string (texts2 len' x t k), .string (n k)] 32)
      by_cases hx : k < len'
      · obtain ⟨b', off', rfl, hbl', h3⟩ := HS.out k hx
        have h3' := (hB.cell (p := ⟨b', off' + k, none⟩) hbl').trans h3
        have e : texts2 len' x t k = x k := if_pos hx
        rw [e] at P2 B2
        clear e h1 h2 h3 hP hB A7
        go_wp2_with fail
        refine (make_type _ _ _).mono ?_
        rintro e w8 ⟨rfl, rfl⟩
        go_wp2
        go_roundw
        case rel => exact ⟨k + 1, by omega, by go_num, P2, B2⟩
        case measure => simp [intOf]; omega
      · have e : texts2 len' x t k = t k := if_neg hx
        rw [e] at P2 B2
        clear e h1 h2 hP hB A7
        go_wp2_with fail
        refine (make_type _ _ _).mono ?_
        rintro e w8 ⟨rfl, rfl⟩
        go_wp2
        go_roundw
        case rel => exact ⟨k + 1, by omega, by go_num, P2, B2⟩
        case measure => simp [intOf]; omega
    · have ek : k = len := by omega
      subst ek
      have A8 := A7.keep hB (by rcases lA with h | h; exact .inl h; exact .inr (by omega))
      have c8 : RowIs wr a'' len'' tc nc := by
        rcases HC.out with h | ⟨b, off, e, hl, h⟩
        · exact .inl h
        · exact .inr ⟨b, off, e, fun i hi => ⟨(hB.cell (p := ⟨b, off + i * 2, none⟩) hl).trans (h i hi).1, (hB.cell (p := ⟨b, off + i * 2 + 1, none⟩) hl).trans (h i hi).2⟩⟩
      have B8 := B7.trans (hB.mono (show w4.heap.size ≤ gB by omega))
      go_wp2_with fail
      refine (types_any _ len'' cap'' tc nc _ c8 (by omega)).mono ?_
      rintro e w20 ⟨rfl, C20, b20⟩
      have A20 := A8.behind b20
      have P20 := hP.behind b20
      have B20 := Below.step B8 b20
      clear A8 hP hB B8 c8 b20 A7 B7
      have e1 := sameB_self k n
      have e2 := sameB_turn len'' k nc n
      generalize hβ : sameB k len'' n nc = β at *
      go_wp2_with fail
      refine (zzSame_any _ k _ _ n _ k _ _ n _ A20.row P20.row (by omega)).mono ?_
      rintro e w21 ⟨rfl, b21⟩
      have A21 := A20.behind b21
      have P21 := P20.behind b21
      have C21 := C20.behind b21
      have B21 := Below.step B20 b21
      clear A20 P20 C20 B20 b21
      go_wp2_with fail
      refine (zzSame_any _ k _ _ n _ k _ _ n _ P21.row A21.row (by omega)).mono ?_
      rintro e w22 ⟨rfl, b22⟩
      have A22 := A21.behind b22
      have P22 := P21.behind b22
      have C22 := C21.behind b22
      have B22 := Below.step B21 b22
      clear A21 P21 C21 B21 b22
      go_wp2_with fail
      refine (zzSame_any _ k _ _ n _ len'' _ _ nc _ A22.row C22.row (by omega)).mono ?_
      rintro e w23 ⟨rfl, b23⟩
      have A23 := A22.behind b23
      have P23 := P22.behind b23
      have C23 := C22.behind b23
      have B23 := Below.step B22 b23
      clear A22 P22 C22 B22 b23
      go_wp2_with fail
      refine (zzSame_any _ k _ _ n _ len'' _ _ nc _ P23.row C23.row (by omega)).mono ?_
      rintro e w24 ⟨rfl, b24⟩
      have A24 := A23.behind b24
      have P24 := P23.behind b24
      have C24 := C23.behind b24
      have B24 := Below.step B23 b24
      clear A23 P23 C23 B23 b24
      go_wp2_with fail
      refine (zzSame_any _ len'' _ _ nc _ k _ _ n _ C24.row A24.row (by omega)).mono ?_
      rintro e w25 ⟨rfl, b25⟩
      have A25 := A24.behind b25
      have P25 := P24.behind b25
      have C25 := C24.behind b25
      have B25 := Below.step B24 b25
      clear A24 P24 C24 B24 b25
      go_wp2_with fail
      refine (zzSame_any _ len'' _ _ nc _ k _ _ n _ C25.row A25.row (by omega)).mono ?_
      rintro e w26 ⟨rfl, b26⟩
      have A26 := A25.behind b26
      have P26 := P25.behind b26
      have C26 := C25.behind b26
      have B26 := Below.step B25 b26
      clear A25 P25 C25 B25 b26
      go_wp2_with fail
      refine (zzSame_any _ len'' _ _ nc _ k _ _ n _ C26.row P26.row (by omega)).mono ?_
      rintro e w27 ⟨rfl, b27⟩
      have A27 := A26.behind b27
      have P27 := P26.behind b27
      have C27 := C26.behind b27
      have B27 := Below.step B26 b27
      clear A26 P26 C26 B26 b27
      go_wp2
      go_ret
      exact ⟨rfl, B27⟩
end Go.Proofs.Qxb6621711a
