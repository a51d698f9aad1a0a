/-
  The walk over FnSetRemoveThenAdd.
-/
import Derived.Test.Qxb6619332aWalkE
namespace Go.Proofs.Qxb6619332a
open Go.RowKit Pl

theorem bytes22 (a : Option Addr) (len cap : Nat) (x y z : Int) (w : World) (hl : len ≤ 1048576) :
    Calls Try.prog 22 #[.slice a len cap, .int .i64 x, .int .i64 y, .int .i64 z] w fun e w' => e = .returned (.bool true) ∧ w' = w := by
  go_enter Try.func22, Try.ntmps22
  go_wp2
  go_ret
  exact ⟨rfl, rfl⟩
theorem bytes22_no (a : Option Addr) (len cap : Nat) (x y z : Int) (w : World) (hl : 1048576 < len) :
    Calls Try.prog 22 #[.slice a len cap, .int .i64 x, .int .i64 y, .int .i64 z] w fun e w' => e = .returned (.bool false) ∧ w' = w := by
  go_enter Try.func22, Try.ntmps22
  go_wp2
  go_ret
  exact ⟨rfl, rfl⟩

set_option maxHeartbeats 400000 in
theorem ra_main (a : Option Addr) (len cap n k : Nat) (ln : Int) (f : Nat → Nat) (w : World) (hr : RowIs w a len f) (hW : Words f len) (hl : len ≤ 65536) (hn : n ≤ 4194304) (hk : k < n) (hwf : wfB f len n ln = true) :
    Calls Try.prog 4 #[.slice a len cap, .int .i64 (n : Int), .int .i64 ln, .int .i64 (k : Int)] w fun e w' => e = .returned (.bool true) ∧ Below w.heap.size w w' := by
  have hb := bytes22 a len cap n ln k w (by omega)
  have hwfc := wf_any a len cap n ln f w hr hW hl hn
  rw [hwf] at hwfc
  have hwf' := of_decide_eq_true hwf
  obtain ⟨e1, e2, e3⟩ := hwf'
  have E1 : Hid (len = (n + 63) / 64) := e1
  have E3 : Hid (ln = (psum f len : Int)) := e3
  have hln : 0 ≤ ln := by omega
  have hpl := psum_le f len
  have hln' : ln ≤ 4194304 := by omega
  have hkl : k / 64 < len := by omega
  have hlp : 0 < len := by omega
  clear e1 e2 e3 hwf
  go_enter Try.func4, Try.ntmps4
  go_wp2_with fail
  refine hb.mono ?_
  rintro e w' ⟨rfl, rfl⟩
  go_wp2_with fail
  refine hwfc.mono ?_
  rintro e w' ⟨rfl, rfl⟩
  clear hb hwfc
  go_wp2_with fail
  refine (clone_any a len cap f w' hr hl).mono ?_
  rintro e w1 ⟨a1, cap1, rfl, o1, b1⟩
  have l1 : w'.heap.size < w1.heap.size := o1.lt.resolve_left (by omega)
  go_wp2_with fail
  refine (clone_any a1 len cap1 f w1 o1.row hl).mono ?_
  rintro e w2 ⟨a2, cap2, rfl, o2, b2⟩
  have l2 : w1.heap.size < w2.heap.size := o2.lt.resolve_left (by omega)
  have q1 := o1.below b2
  have B2 := Below.step b1 b2
  clear o1 b1 b2 hr
  go_wp2_with fail
  refine (has_own o2 k hkl hl hW).mono ?_
  rintro e w3 ⟨rfl, rfl⟩
  go_wp2_with fail
  refine (new_set_is n ln q1).mono ?_
  rintro e w4 ⟨rfl, s4, b4⟩
  have l4 := cell_lt s4.c0
  simp only [] at l4
  have o4 := o2.below b4
  have B4 := Below.step B2 b4
  rw [E3.out] at s4
  clear o2 q1 B2 b4
  go_wp2_with fail
  refine (remove_sum s4 k hkl hl hW).mono ?_
  rintro e w5 ⟨rfl, s5, on5⟩
  have o5 := o4.only on5 (.inr ⟨by omega, by omega⟩)
  have B5 := B4.trans (on5.below (by omega) (Nat.le_refl _))
  have l5 := on5.size
  clear s4 o4 B4 on5
  go_wp2_with fail
  refine (without_any a2 len cap2 k f _ o5.row hW hl hkl).mono ?_
  rintro e w6 ⟨a6, cap6, rfl, o6, b6⟩
  have s6 := s5.below b6
  have o7 := o5.below b6
  have B6 := Below.step B5 b6
  have l6 := b6.size
  clear s5 o5 B5 b6
  go_wp2_with fail
  refine (words_get _ _ _ _ _ s6.c0).mono ?_
  rintro e w7 ⟨rfl, rfl⟩
  go_wp2_with fail
  refine (equal_any a1 a6 len cap1 cap6 _ _ _ s6.own.row o6.row (fun _ _ => rfl) hl).mono ?_
  rintro e w8 ⟨rfl, m, rfl⟩
  have s8 := s6.drewN m
  have r8 : RowIs (w7.drewN m) a6 len (without f k) := o6.row
  have o8 : Own (w7.drewN m) a2 len f _ := o7
  have B8 := below_drewN B6 m
  clear s6 o6 o7 B6
  go_wp2_with fail
  refine (len_get _ _ _ s8.c2).mono ?_
  rintro e w9 ⟨rfl, rfl⟩
  go_wp2_with fail
  refine (pop_any a6 len cap6 _ _ r8 (words_without f k len hW hkl) hl).mono ?_
  rintro e w10 ⟨rfl, rfl⟩
  clear r8
  go_wp2_with fail
  refine (add_removed s8 hkl hl hW).mono ?_
  rintro e w11 ⟨rfl, s11, on11⟩
  have o11 := o8.only on11 (.inr ⟨by omega, by omega⟩)
  have B11 := B8.trans (on11.below (by omega) (Nat.le_refl _))
  clear s8 o8 B8 on11
  go_wp2_with fail
  refine (with_any a2 len cap2 k f _ o11.row hW hl hkl).mono ?_
  rintro e w12 ⟨a12, cap12, rfl, o12, b12⟩
  have s12 := s11.below b12
  have B12 := Below.step B11 b12
  clear s11 o11 B11 b12
  go_wp2_with fail
  refine (words_get _ _ _ _ _ s12.c0).mono ?_
  rintro e w13 ⟨rfl, rfl⟩
  go_wp2_with fail
  refine (equal_any a1 a12 len cap1 cap12 _ _ _ s12.own.row o12.row (fun _ _ => rfl) hl).mono ?_
  rintro e w14 ⟨rfl, m', rfl⟩
  have s14 := s12.drewN m'
  have r14 : RowIs (w13.drewN m') a12 len (withB f k) := o12.row
  have B14 := below_drewN B12 m'
  clear s12 o12 B12
  go_wp2_with fail
  refine (len_get _ _ _ s14.c2).mono ?_
  rintro e w15 ⟨rfl, rfl⟩
  go_wp2_with fail
  refine (pop_any a12 len cap12 _ _ r14 (words_with f k len hW hkl) hl).mono ?_
  rintro e w16 ⟨rfl, rfl⟩
  go_wp2_with fail
  refine (n_get _ _ _ s14.c1).mono ?_
  rintro e w17 ⟨rfl, rfl⟩
  go_wp2
  go_ret
  exact ⟨rfl, B14⟩

theorem ra_any (a : Option Addr) (len cap : Nat) (x ln y : Int) (f : Nat → Nat) (w : World) (hr : RowIs w a len f) (hW : Words f len) (hm : len ≤ maxLen) :
    Calls Try.prog 4 #[.slice a len cap, .int .i64 x, .int .i64 ln, .int .i64 y] w fun e w' => e = .returned (.bool true) ∧ Below w.heap.size w w' := by
  unfold maxLen at hm
  by_cases h1 : 1048576 < len
  · go_enter Try.func4, Try.ntmps4
    go_wp2_with fail
    refine (bytes22_no a len cap x ln y w h1).mono ?_
    rintro e w' ⟨rfl, rfl⟩
    go_wp2
    go_ret
    exact ⟨rfl, Below.refl _ _⟩
  have hb := bytes22 a len cap x ln y w (by omega)
  by_cases h2 : 65536 < len
  · go_enter Try.func4, Try.ntmps4
    go_wp2_with fail
    refine hb.mono ?_
    rintro e w' ⟨rfl, rfl⟩
    go_wp2
    go_ret
    exact ⟨rfl, Below.refl _ _⟩
  by_cases h3 : x < 0
  · go_enter Try.func4, Try.ntmps4
    go_wp2_with fail
    refine hb.mono ?_
    rintro e w' ⟨rfl, rfl⟩
    go_wp2
    go_ret
    exact ⟨rfl, Below.refl _ _⟩
  by_cases h4 : 4194304 < x
  · go_enter Try.func4, Try.ntmps4
    go_wp2_with fail
    refine hb.mono ?_
    rintro e w' ⟨rfl, rfl⟩
    go_wp2
    go_ret
    exact ⟨rfl, Below.refl _ _⟩
  by_cases h5 : y < 0
  · go_enter Try.func4, Try.ntmps4
    go_wp2_with fail
    refine hb.mono ?_
    rintro e w' ⟨rfl, rfl⟩
    go_wp2
    go_ret
    exact ⟨rfl, Below.refl _ _⟩
  by_cases h6 : x ≤ y
  · go_enter Try.func4, Try.ntmps4
    go_wp2_with fail
    refine hb.mono ?_
    rintro e w' ⟨rfl, rfl⟩
    go_wp2
    go_ret
    exact ⟨rfl, Below.refl _ _⟩
  obtain ⟨n, rfl⟩ := Int.eq_ofNat_of_zero_le (show 0 ≤ x by omega)
  obtain ⟨k, rfl⟩ := Int.eq_ofNat_of_zero_le (show 0 ≤ y by omega)
  cases hwf : wfB f len n ln with
  | true => exact ra_main a len cap n k ln f w hr hW (by omega) (by omega) (by omega) hwf
  | false =>
    have hwfc := wf_any a len cap n ln f w hr hW (by omega) (by omega)
    rw [hwf] at hwfc
    go_enter Try.func4, Try.ntmps4
    go_wp2_with fail
    refine hb.mono ?_
    rintro e w' ⟨rfl, rfl⟩
    go_wp2_with fail
    refine hwfc.mono ?_
    rintro e w' ⟨rfl, rfl⟩
    go_wp2
    go_ret
    exact ⟨rfl, Below.refl _ _⟩
end Go.Proofs.Qxb6619332a
