/-
  The walk over FnSetRemoveEveryPieceEmpties.
-/
import Derived.Test.Qxb6619332aWalkC
namespace Go.Proofs.Qxb6619332a
open Go.RowKit Pl

theorem bytes23 (a : Option Addr) (len cap : Nat) (x y : Int) (w : World) (hl : len ≤ 1048576) :
    Calls Try.prog 23 #[.slice a len cap, .int .i64 x, .int .i64 y] w fun e w' => e = .returned (.bool true) ∧ w' = w := by
  go_enter Try.func23, Try.ntmps23
  go_wp2
  go_ret
  exact ⟨rfl, rfl⟩
theorem bytes23_no (a : Option Addr) (len cap : Nat) (x y : Int) (w : World) (hl : 1048576 < len) :
    Calls Try.prog 23 #[.slice a len cap, .int .i64 x, .int .i64 y] w fun e w' => e = .returned (.bool false) ∧ w' = w := by
  go_enter Try.func23, Try.ntmps23
  go_wp2
  go_ret
  exact ⟨rfl, rfl⟩

set_option maxHeartbeats 400000 in
theorem re_main (a : Option Addr) (len cap n : Nat) (ln : Int) (f : Nat → Nat) (w : World) (hr : RowIs w a len f) (hW : Words f len) (hl : len ≤ 65536) (hn : n ≤ 4194304) (hwf : wfB f len n ln = true) :
    Calls Try.prog 5 #[.slice a len cap, .int .i64 (n : Int), .int .i64 ln] w fun e w' => e = .returned (.bool true) ∧ Below w.heap.size w w' := by
  have hb := bytes23 a len cap n ln w (by omega)
  have hwfc := wf_any a len cap n ln f w hr hW hl hn
  rw [hwf] at hwfc
  have hwf' := of_decide_eq_true hwf
  obtain ⟨e1, e2, e3⟩ := hwf'
  have hcl := clear_of f len n e1 e2
  have E1 : Hid (len = (n + 63) / 64) := e1
  have E3 : Hid (ln = (psum f len : Int)) := e3
  have hln : 0 ≤ ln := by omega
  have hpl := psum_le f len
  have hln' : ln ≤ 4194304 := by omega
  clear e1 e2 e3 hwf
  go_enter Try.func5, Try.ntmps5
  go_wp2_with fail
  refine hb.mono ?_
  rintro e w' ⟨rfl, rfl⟩
  go_wp2_with fail
  refine hwfc.mono ?_
  rintro e w' ⟨rfl, rfl⟩
  go_wp2_with fail
  refine (clone_any a len cap f w' hr hl).mono ?_
  rintro e w1 ⟨a1, cap1, rfl, o1, b1⟩
  go_wp2_with fail
  refine (clone_any a1 len cap1 f w1 o1.row hl).mono ?_
  rintro e w2 ⟨a2, cap2, rfl, o2, b2⟩
  go_wp2_with fail
  refine (new_set_is n ln (o1.below b2)).mono ?_
  rintro e w3 ⟨rfl, s3, b3⟩
  have o3 := o2.below b3
  have B3 := Below.step (Below.step b1 b2) b3
  have hd : len = 0 ∨ (w1.heap.size ≠ w2.heap.size ∧ w1.heap.size ≠ w'.heap.size) := by
    rcases o1.lt with h | h
    · exact .inl h
    · rcases o2.lt with h' | h'
      · exact .inl h'
      · exact .inr ⟨by omega, by omega⟩
  have hS1 := b1.size
  have hS2 := b2.size
  rw [E3.out] at s3
  generalize w2.heap.size = S at *
  generalize w1.heap.size = g2 at *
  clear o1 o2 b1 b2 b3 hb hwfc hr
  go_wp2
  go_loopw [9, 10] (fun c i wr => ∃ (j cc : Nat) (g : Nat → Nat), j ≤ n ∧ i = .int .i64 j ∧ c = .int .i64 cc ∧ SetIs wr S w'.heap.size a1 len cap1 g n (psum g len : Int) ∧ RemInv f g len j ∧ Hid (cc + psum g len = psum f len) ∧ Own wr a2 len f g2 ∧ Below w'.heap.size w' wr) (fun _ i _ => n - (intOf i).toNat)
  case atStart => exact ⟨0, 0, f, Nat.zero_le _, rfl, rfl, s3, remInv_start f len hW, by show 0 + psum f len = psum f len; omega, o3, B3⟩
  case round =>
    obtain ⟨j, cc, g, hj, rfl, rfl, s4, hinv, hcnt, o4, b4⟩ := hrel
    clear s3 o3 B3
    by_cases hlt : j < n
    · have hjl : j / 64 < len := by have := E1.out; omega
      have hgf := remInv_has f g len j hinv hjl
      have hpg := psum_le g len
      have hcc : cc ≤ 4194304 := by have := hcnt.out; omega
      cases hh : has g j with
      | true =>
        have hf : has f j = true := by rw [← hgf]; exact hh
        have hps := psum_without g j len hinv.1 hjl hh
        have HI : Hid (RemInv f (without g j) len (j + 1)) := remInv_yes f g len j hinv hjl
        have HC : Hid (cc + 1 + psum (without g j) len = psum f len) := by have := hcnt.out; show _ = _; omega
        have HP : Hid ((psum g len : Int) - 1 = (psum (without g j) len : Int)) := by show _ = _; omega
        have hrem := remove_has s4 j hjl hl hinv.1 (by omega) (by omega) hh
        clear hgf hps hinv hcnt
        go_wp2_with fail
        refine hrem.mono ?_
        rintro e w5 ⟨rfl, s5, on5⟩
        have o5 := o4.only on5 hd
        have b5 := b4.trans (on5.below (by omega) (Nat.le_refl _))
        rw [HP.out] at s5
        clear hrem s4 o4 b4 on5 hh HP
        go_wp2_with fail
        refine (has_own o5 j hjl hl hW).mono ?_
        rintro e w6 ⟨rfl, rfl⟩
        go_wp2
        go_roundw
        case rel => exact ⟨j + 1, cc + 1, _, by omega, by go_num, by go_num, s5, HI.out, HC, o5, b5⟩
        case measure => simp [intOf]; omega
      | false =>
        have hf : has f j = false := by rw [← hgf]; exact hh
        have HI : Hid (RemInv f g len (j + 1)) := remInv_no f g len j hinv hjl hh
        have hrem := remove_hasnt s4 j hjl hl hinv.1 hh
        clear hgf hinv
        go_wp2_with fail
        refine hrem.mono ?_
        rintro e w5 ⟨rfl, s5, on5⟩
        have o5 := o4.only on5 hd
        have b5 := b4.trans (on5.below (by omega) (Nat.le_refl _))
        clear hrem s4 o4 b4 on5 hh
        go_wp2_with fail
        refine (has_own o5 j hjl hl hW).mono ?_
        rintro e w6 ⟨rfl, rfl⟩
        go_wp2
        go_roundw
        case rel => exact ⟨j + 1, cc, g, by omega, by go_num, rfl, s5, HI.out, hcnt, o5, b5⟩
        case measure => simp [intOf]; omega
    · have ej : j = n := by omega
      subst ej
      have hz := remInv_end f g len j hinv hcl
      have hpop := pop_any a1 len cap1 g wr s4.own.row hinv.1 hl
      have hc1 := words_get S a1 len cap1 wr s4.c0
      have hc2 := len_get S _ wr s4.c2
      rw [hz] at hpop hc2
      have hcl' : ((cc : Int) == ln) = true := by rw [E3.out, beq_iff_eq]; have := hcnt.out; omega
      have hne : ¬ (j : Int) < (j : Int) := by omega
      clear s4 hinv hcnt o4
      go_wp2_with fail
      refine hc1.mono ?_
      rintro e w6 ⟨rfl, rfl⟩
      go_wp2_with fail
      refine hc2.mono ?_
      rintro e w7 ⟨rfl, rfl⟩
      go_wp2_with fail
      refine hpop.mono ?_
      rintro e w8 ⟨rfl, rfl⟩
      go_wp2
      go_ret
      exact ⟨rfl, b4⟩

theorem re_any (a : Option Addr) (len cap : Nat) (x ln : Int) (f : Nat → Nat) (w : World) (hr : RowIs w a len f) (hW : Words f len) (hm : len ≤ maxLen) :
    Calls Try.prog 5 #[.slice a len cap, .int .i64 x, .int .i64 ln] w fun e w' => e = .returned (.bool true) ∧ Below w.heap.size w w' := by
  unfold maxLen at hm
  by_cases h1 : 1048576 < len
  · go_enter Try.func5, Try.ntmps5
    go_wp2_with fail
    refine (bytes23_no a len cap x ln w h1).mono ?_
    rintro e w' ⟨rfl, rfl⟩
    go_wp2
    go_ret
    exact ⟨rfl, Below.refl _ _⟩
  have hb := bytes23 a len cap x ln w (by omega)
  by_cases h2 : 65536 < len
  · go_enter Try.func5, Try.ntmps5
    go_wp2_with fail
    refine hb.mono ?_
    rintro e w' ⟨rfl, rfl⟩
    go_wp2
    go_ret
    exact ⟨rfl, Below.refl _ _⟩
  by_cases h3 : x < 0
  · go_enter Try.func5, Try.ntmps5
    go_wp2_with fail
    refine hb.mono ?_
    rintro e w' ⟨rfl, rfl⟩
    go_wp2
    go_ret
    exact ⟨rfl, Below.refl _ _⟩
  by_cases h4 : 4194304 < x
  · go_enter Try.func5, Try.ntmps5
    go_wp2_with fail
    refine hb.mono ?_
    rintro e w' ⟨rfl, rfl⟩
    go_wp2
    go_ret
    exact ⟨rfl, Below.refl _ _⟩
  obtain ⟨n, rfl⟩ := Int.eq_ofNat_of_zero_le (show 0 ≤ x by omega)
  cases hwf : wfB f len n ln with
  | true => exact re_main a len cap n ln f w hr hW (by omega) (by omega) hwf
  | false =>
    have hwfc := wf_any a len cap n ln f w hr hW (by omega) (by omega)
    rw [hwf] at hwfc
    go_enter Try.func5, Try.ntmps5
    go_wp2_with fail
    refine hb.mono ?_
    rintro e w' ⟨rfl, rfl⟩
    go_wp2_with fail
    refine hwfc.mono ?_
    rintro e w' ⟨rfl, rfl⟩
    go_wp2
    go_ret
    exact ⟨rfl, Below.refl _ _⟩
end Go.Proofs.Qxb6619332a
