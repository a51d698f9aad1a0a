/-
  The walk over FnSetFillThenRemoveThenRefill.
-/
import Derived.Test.Qxb6619332aWalkD
namespace Go.Proofs.Qxb6619332a
open Go.RowKit Pl

theorem bytes26 (a : Option Addr) (len cap : Nat) (x y z : Int) (w : World) (hl : len ≤ 1048576) :
    Calls Try.prog 26 #[.slice a len cap, .int .i64 x, .int .i64 y, .int .i64 z] w fun e w' => e = .returned (.bool true) ∧ w' = w := by
  go_enter Try.func26, Try.ntmps26
  go_wp2
  go_ret
  exact ⟨rfl, rfl⟩
theorem bytes26_no (a : Option Addr) (len cap : Nat) (x y z : Int) (w : World) (hl : 1048576 < len) :
    Calls Try.prog 26 #[.slice a len cap, .int .i64 x, .int .i64 y, .int .i64 z] w fun e w' => e = .returned (.bool false) ∧ w' = w := by
  go_enter Try.func26, Try.ntmps26
  go_wp2
  go_ret
  exact ⟨rfl, rfl⟩

set_option maxHeartbeats 400000 in
theorem fr_main (a : Option Addr) (len cap n k : Nat) (ln : Int) (f : Nat → Nat) (w : World) (hr : RowIs w a len f) (hW : Words f len) (hl : len ≤ 65536) (hn : n ≤ 4194304) (hk : k < n) (hwf : wfB f len n ln = true) :
    Calls Try.prog 7 #[.slice a len cap, .int .i64 (n : Int), .int .i64 ln, .int .i64 (k : Int)] w fun e w' => e = .returned (.bool true) ∧ Below w.heap.size w w' := by
  have hb := bytes26 a len cap n ln k w (by omega)
  have hwfc := wf_any a len cap n ln f w hr hW hl hn
  rw [hwf] at hwfc
  have hwf' := of_decide_eq_true hwf
  obtain ⟨e1, e2, e3⟩ := hwf'
  have E1 : Hid (len = (n + 63) / 64) := e1
  have E3 : Hid (ln = (psum f len : Int)) := e3
  have hln : 0 ≤ ln := by omega
  have hpl := psum_le f len
  have hln' : ln ≤ 4194304 := by omega
  have hkl : k / 64 < len := by omega
  have hlp : 0 < len := by omega
  clear e1 e2 e3 hwf
  go_enter Try.func7, Try.ntmps7
  go_wp2_with fail
  refine hb.mono ?_
  rintro e w' ⟨rfl, rfl⟩
  go_wp2_with fail
  refine hwfc.mono ?_
  rintro e w' ⟨rfl, rfl⟩
  clear hb hwfc
  go_wp2_with fail
  refine (clone_any a len cap f w' hr hl).mono ?_
  rintro e w1 ⟨a1, cap1, rfl, o1, b1⟩
  have l1 : w'.heap.size < w1.heap.size := o1.lt.resolve_left (by omega)
  go_wp2_with fail
  refine (new_set_is n ln o1).mono ?_
  rintro e w2 ⟨rfl, s2, b2⟩
  have l2 : w1.heap.size < w2.heap.size := cell_lt s2.c0
  have B2 := Below.step b1 b2
  clear o1 b1 b2 hr
  go_wp2_with fail
  refine (fill_any s2 E1.out hn).mono ?_
  rintro e w3 ⟨rfl, s3, on3⟩
  have B3 := B2.trans (on3.below (by omega) (Nat.le_refl _))
  have l3 : w1.heap.size < w3.heap.size := by rw [on3.size]; exact l2
  have hpf := psum_full n len E1.out
  have hwt : wfB (full n len) len n n = true := by unfold wfB; exact decide_eq_true ⟨E1.out, fun h => full_top n len h, by rw [hpf]⟩
  have c3 := wf_any a1 len cap1 n n (full n len) w3 s3.own.row (fun i _ => full_lt n len i) hl hn
  rw [hwt] at c3
  clear on3 s2 B2 hpf hwt
  go_wp2_with fail
  refine (len_get _ _ _ s3.c2).mono ?_
  rintro e w4 ⟨rfl, rfl⟩
  go_wp2_with fail
  refine (words_get _ _ _ _ _ s3.c0).mono ?_
  rintro e w5 ⟨rfl, rfl⟩
  go_wp2_with fail
  refine c3.mono ?_
  rintro e w6 ⟨rfl, rfl⟩
  go_wp2_with fail
  refine (words_get _ _ _ _ _ s3.c0).mono ?_
  rintro e w7 ⟨rfl, rfl⟩
  clear c3
  go_wp2_with fail
  refine (clone_any a1 len cap1 (full n len) _ s3.own.row hl).mono ?_
  rintro e w8 ⟨a4, cap4, rfl, o4, b4⟩
  have s4 := s3.below b4
  have B4 := Below.step B3 b4
  have l4 := o4.lt.resolve_left (show ¬ len = 0 by omega)
  clear s3 B3 b4
  go_wp2_with fail
  refine (remove_has s4 k hkl hl (fun i _ => full_lt n len i) (by omega) (by omega) (has_full n len k E1.out hk)).mono ?_
  rintro e w9 ⟨rfl, s5, on5⟩
  have o5 := o4.only on5 (.inr ⟨by omega, by omega⟩)
  have B5 := B4.trans (on5.below (by omega) (Nat.le_refl _))
  clear s4 o4 B4
  go_wp2_with fail
  refine (len_get _ _ _ s5.c2).mono ?_
  rintro e w10 ⟨rfl, rfl⟩
  go_wp2_with fail
  refine (words_get _ _ _ _ _ s5.c0).mono ?_
  rintro e w11 ⟨rfl, rfl⟩
  go_wp2_with fail
  refine (without_any a4 len cap4 k (full n len) _ o5.row (fun i _ => full_lt n len i) hl hkl).mono ?_
  rintro e w12 ⟨a6, cap6, rfl, o6, b6⟩
  have s6 := s5.below b6
  have o7 := o5.below b6
  have B6 := Below.step B5 b6
  clear s5 o5 B5 b6
  go_wp2_with fail
  refine (equal_any a1 a6 len cap1 cap6 _ _ _ s6.own.row o6.row (fun _ _ => rfl) hl).mono ?_
  rintro e w13 ⟨rfl, m, rfl⟩
  have s8 := s6.drewN m
  have o8 : Own (w12.drewN m) a4 len (full n len) _ := o7
  have B8 := below_drewN B6 m
  clear s6 o6 o7 B6
  go_wp2_with fail
  refine (fill_any s8 E1.out hn).mono ?_
  rintro e w14 ⟨rfl, s9, on9⟩
  have o9 := o8.only on9 (.inr ⟨by omega, by omega⟩)
  have B9 := B8.trans (on9.below (by omega) (Nat.le_refl _))
  clear s8 o8 B8 on9
  go_wp2_with fail
  refine (len_get _ _ _ s9.c2).mono ?_
  rintro e w15 ⟨rfl, rfl⟩
  go_wp2_with fail
  refine (words_get _ _ _ _ _ s9.c0).mono ?_
  rintro e w16 ⟨rfl, rfl⟩
  go_wp2_with fail
  refine (equal_any a1 a4 len cap1 cap4 _ _ _ s9.own.row o9.row (fun _ _ => rfl) hl).mono ?_
  rintro e w17 ⟨rfl, m', rfl⟩
  go_wp2
  go_ret
  exact ⟨rfl, below_drewN B9 m'⟩

theorem fr_any (a : Option Addr) (len cap : Nat) (x ln y : Int) (f : Nat → Nat) (w : World) (hr : RowIs w a len f) (hW : Words f len) (hm : len ≤ maxLen) :
    Calls Try.prog 7 #[.slice a len cap, .int .i64 x, .int .i64 ln, .int .i64 y] w fun e w' => e = .returned (.bool true) ∧ Below w.heap.size w w' := by
  unfold maxLen at hm
  by_cases h1 : 1048576 < len
  · go_enter Try.func7, Try.ntmps7
    go_wp2_with fail
    refine (bytes26_no a len cap x ln y w h1).mono ?_
    rintro e w' ⟨rfl, rfl⟩
    go_wp2
    go_ret
    exact ⟨rfl, Below.refl _ _⟩
  have hb := bytes26 a len cap x ln y w (by omega)
  by_cases h2 : 65536 < len
  · go_enter Try.func7, Try.ntmps7
    go_wp2_with fail
    refine hb.mono ?_
    rintro e w' ⟨rfl, rfl⟩
    go_wp2
    go_ret
    exact ⟨rfl, Below.refl _ _⟩
  by_cases h3 : x < 0
  · go_enter Try.func7, Try.ntmps7
    go_wp2_with fail
    refine hb.mono ?_
    rintro e w' ⟨rfl, rfl⟩
    go_wp2
    go_ret
    exact ⟨rfl, Below.refl _ _⟩
  by_cases h4 : 4194304 < x
  · go_enter Try.func7, Try.ntmps7
    go_wp2_with fail
    refine hb.mono ?_
    rintro e w' ⟨rfl, rfl⟩
    go_wp2
    go_ret
    exact ⟨rfl, Below.refl _ _⟩
  by_cases h5 : y < 0
  · go_enter Try.func7, Try.ntmps7
    go_wp2_with fail
    refine hb.mono ?_
    rintro e w' ⟨rfl, rfl⟩
    go_wp2
    go_ret
    exact ⟨rfl, Below.refl _ _⟩
  by_cases h6 : x ≤ y
  · go_enter Try.func7, Try.ntmps7
    go_wp2_with fail
    refine hb.mono ?_
    rintro e w' ⟨rfl, rfl⟩
    go_wp2
    go_ret
    exact ⟨rfl, Below.refl _ _⟩
  obtain ⟨n, rfl⟩ := Int.eq_ofNat_of_zero_le (show 0 ≤ x by omega)
  obtain ⟨k, rfl⟩ := Int.eq_ofNat_of_zero_le (show 0 ≤ y by omega)
  cases hwf : wfB f len n ln with
  | true => exact fr_main a len cap n k ln f w hr hW (by omega) (by omega) (by omega) hwf
  | false =>
    have hwfc := wf_any a len cap n ln f w hr hW (by omega) (by omega)
    rw [hwf] at hwfc
    go_enter Try.func7, Try.ntmps7
    go_wp2_with fail
    refine hb.mono ?_
    rintro e w' ⟨rfl, rfl⟩
    go_wp2_with fail
    refine hwfc.mono ?_
    rintro e w' ⟨rfl, rfl⟩
    go_wp2
    go_ret
    exact ⟨rfl, Below.refl _ _⟩
end Go.Proofs.Qxb6619332a
