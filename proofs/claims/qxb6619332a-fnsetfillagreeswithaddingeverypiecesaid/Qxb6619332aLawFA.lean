/-
  The walk over FnSetFillAgreesWithAddingEveryPiece.
-/
import Derived.Test.Qxb6619332aWalkD
namespace Go.Proofs.Qxb6619332a
open Go.RowKit Pl

theorem bytes24 (a : Option Addr) (len cap : Nat) (x y : Int) (w : World) (hl : len ≤ 1048576) :
    Calls Try.prog 24 #[.slice a len cap, .int .i64 x, .int .i64 y] w fun e w' => e = .returned (.bool true) ∧ w' = w := by
  go_enter Try.func24, Try.ntmps24
  go_wp2
  go_ret
  exact ⟨rfl, rfl⟩
theorem bytes24_no (a : Option Addr) (len cap : Nat) (x y : Int) (w : World) (hl : 1048576 < len) :
    Calls Try.prog 24 #[.slice a len cap, .int .i64 x, .int .i64 y] w fun e w' => e = .returned (.bool false) ∧ w' = w := by
  go_enter Try.func24, Try.ntmps24
  go_wp2
  go_ret
  exact ⟨rfl, rfl⟩

set_option maxHeartbeats 400000 in
theorem fa_main (a : Option Addr) (len cap n : Nat) (ln : Int) (f : Nat → Nat) (w : World) (hr : RowIs w a len f) (hW : Words f len) (hl : len ≤ 65536) (hn : n ≤ 4194304) (hwf : wfB f len n ln = true) :
    Calls Try.prog 6 #[.slice a len cap, .int .i64 (n : Int), .int .i64 ln] w fun e w' => e = .returned (.bool true) ∧ Below w.heap.size w w' := by
  have hb := bytes24 a len cap n ln w (by omega)
  have hwfc := wf_any a len cap n ln f w hr hW hl hn
  rw [hwf] at hwfc
  have hwf' := of_decide_eq_true hwf
  obtain ⟨e1, e2, e3⟩ := hwf'
  have hcl := clear_of f len n e1 e2
  have E1 : Hid (len = (n + 63) / 64) := e1
  have E3 : Hid (ln = (psum f len : Int)) := e3
  have hln : 0 ≤ ln := by omega
  have hpl := psum_le f len
  have hln' : ln ≤ 4194304 := by omega
  clear e1 e2 e3 hwf
  go_enter Try.func6, Try.ntmps6
  go_wp2_with fail
  refine hb.mono ?_
  rintro e w' ⟨rfl, rfl⟩
  go_wp2_with fail
  refine hwfc.mono ?_
  rintro e w' ⟨rfl, rfl⟩
  go_wp2_with fail
  refine (clone_any a len cap f w' hr hl).mono ?_
  rintro e w1 ⟨a1, cap1, rfl, o1, b1⟩
  go_wp2_with fail
  refine (clone_any a1 len cap1 f w1 o1.row hl).mono ?_
  rintro e w2 ⟨a2, cap2, rfl, o2, b2⟩
  go_wp2_with fail
  refine (new_set_is n ln (o1.below b2)).mono ?_
  rintro e w3 ⟨rfl, s3, b3⟩
  have hd : len = 0 ∨ (w1.heap.size ≠ w2.heap.size ∧ w1.heap.size ≠ w'.heap.size) := by
    rcases o1.lt with h | h
    · exact .inl h
    · rcases o2.lt with h' | h'
      · exact .inl h'
      · exact .inr ⟨by omega, by omega⟩
  have l3 : w2.heap.size < w3.heap.size := cell_lt s3.c0
  have hS1 := b1.size
  have hS2 := b2.size
  have o3 := o2.below b3
  have B3 := Below.step (Below.step b1 b2) b3
  clear o2 b3 hb hwfc
  go_wp2_with fail
  refine (fill_any s3 E1.out hn).mono ?_
  rintro e w4 ⟨rfl, s4, on4⟩
  have o4 := o3.only on4 hd
  have B4 := B3.trans (on4.below (by omega) (Nat.le_refl _))
  have l4 : w2.heap.size < w4.heap.size := by rw [on4.size]; exact l3
  clear o3 s3 on4 B3
  go_wp2_with fail
  refine (new_set_is n ln o4).mono ?_
  rintro e w5 ⟨rfl, t5, b5⟩
  have s5 := s4.below b5
  have B5 := Below.step B4 b5
  rw [E3.out] at t5
  have hdd : len = 0 ∨ (w2.heap.size ≠ w4.heap.size ∧ w2.heap.size ≠ w1.heap.size ∧ w'.heap.size ≠ w4.heap.size ∧ w'.heap.size ≠ w1.heap.size) := by
    rcases hd with h | ⟨h1, h2⟩
    · exact .inl h
    · exact .inr ⟨by omega, by omega, by omega, by omega⟩
  have hS4 : w'.heap.size ≤ w4.heap.size := by omega
  clear o1 b1 b2 b5 s4 o4 B4 hr hd l3 l4
  generalize w4.heap.size = S2 at *
  generalize w2.heap.size = S1 at *
  generalize w1.heap.size = g2 at *
  go_wp2
  go_loopw [10, 11] (fun c i wr => ∃ (j cc : Nat) (g : Nat → Nat), j ≤ n ∧ i = .int .i64 j ∧ c = .int .i64 cc ∧ SetIs wr S2 g2 a2 len cap2 g n (psum g len : Int) ∧ AddInv f g len j ∧ Hid (cc + psum f len = psum g len) ∧ SetIs wr S1 w'.heap.size a1 len cap1 (full n len) n n ∧ Below w'.heap.size w' wr) (fun _ i _ => n - (intOf i).toNat)
  case atStart => exact ⟨0, 0, f, Nat.zero_le _, rfl, rfl, t5, addInv_start f len hW, by show 0 + psum f len = psum f len; omega, s5, B5⟩
  case round =>
    obtain ⟨j, cc, g, hj, rfl, rfl, t6, hinv, hcnt, s6, b6⟩ := hrel
    clear t5 s5 B5
    have hpg := psum_le g len
    have hcc : cc ≤ 4194304 := by have := hcnt.out; omega
    by_cases hlt : j < n
    · have hjl : j / 64 < len := by have := E1.out; omega
      obtain ⟨d1, d2, d3, d4⟩ := hdd.resolve_left (by omega)
      cases hh : has g j with
      | true =>
        have HI : Hid (AddInv f g len (j + 1)) := addInv_yes f g len j hinv hjl hh
        have hadd := add_has t6 j hjl hl hinv.1 hh
        clear hinv
        go_wp2_with fail
        refine hadd.mono ?_
        rintro e w7 ⟨rfl, t7, on7⟩
        have s7 := s6.only on7 d1 d2 (.inr ⟨d3, d4⟩)
        have b7 := b6.trans (on7.below hS4 (by omega))
        clear hadd t6 s6 b6 on7 hh
        go_wp2
        go_roundw
        case rel => exact ⟨j + 1, cc, g, by omega, by go_num, rfl, t7, HI.out, hcnt, s7, b7⟩
        case measure => simp [intOf]; omega
      | false =>
        have hps := psum_with g j len hjl hh
        have HI : Hid (AddInv f (withB g j) len (j + 1)) := addInv_no f g len j hinv hjl
        have HC : Hid (cc + 1 + psum f len = psum (withB g j) len) := by have := hcnt.out; show _ = _; omega
        have HP : Hid ((psum g len : Int) + 1 = (psum (withB g j) len : Int)) := by show _ = _; omega
        have hadd := add_hasnt t6 j hjl hl hinv.1 (by omega) (by omega) hh
        clear hps hinv hcnt
        go_wp2_with fail
        refine hadd.mono ?_
        rintro e w7 ⟨rfl, t7, on7⟩
        have s7 := s6.only on7 d1 d2 (.inr ⟨d3, d4⟩)
        have b7 := b6.trans (on7.below hS4 (by omega))
        rw [HP.out] at t7
        clear hadd t6 s6 b6 on7 hh HP
        go_wp2
        go_roundw
        case rel => exact ⟨j + 1, cc + 1, _, by omega, by go_num, by go_num, t7, HI.out, HC, s7, b7⟩
        case measure => simp [intOf]; omega
    · have ej : j = n := by omega
      subst ej
      have hfull := addInv_end f g len j E1.out hinv hcl
      have hpf := psum_full j len E1.out
      have hpg' : psum g len = j := by rw [psum_congr g (full j len) len hfull]; exact hpf
      have c1 := words_get S1 a1 len cap1 wr s6.c0
      have c2 := len_get S1 _ wr s6.c2
      have c3 := len_get S2 _ wr t6.c2
      have c4 := words_get S2 a2 len cap2 wr t6.c0
      have c5 := equal_any a1 a2 len cap1 cap2 (full j len) g wr s6.own.row t6.own.row (fun i hi => (hfull i hi).symm) hl
      have c6 : ∀ m, Calls Try.prog 9 #[.slice a1 len cap1, .int .i64 (j : Int), .int .i64 (j : Int)] (wr.drewN m) fun e w' => e = .returned (.bool true) ∧ w' = wr.drewN m := by
        intro m
        have h := wf_any a1 len cap1 j j (full j len) (wr.drewN m) s6.own.row (fun i _ => full_lt j len i) hl hn
        have e : wfB (full j len) len j j = true := by unfold wfB; exact decide_eq_true ⟨E1.out, fun h => full_top j len h, by rw [hpf]⟩
        rw [e] at h
        exact h
      rw [hpg'] at c3
      have hcl' : ((cc : Int) == (j : Int) - ln) = true := by rw [E3.out, beq_iff_eq]; have := hcnt.out; omega
      have hne : ¬ (j : Int) < (j : Int) := by omega
      clear s6 t6 hinv hcnt hfull hpf hpg'
      go_wp2_with fail
      refine c1.mono ?_
      rintro e w7 ⟨rfl, rfl⟩
      go_wp2_with fail
      refine c2.mono ?_
      rintro e w7 ⟨rfl, rfl⟩
      go_wp2_with fail
      refine c3.mono ?_
      rintro e w7 ⟨rfl, rfl⟩
      go_wp2_with fail
      refine c4.mono ?_
      rintro e w7 ⟨rfl, rfl⟩
      go_wp2_with fail
      refine c5.mono ?_
      rintro e w7 ⟨rfl, m, rfl⟩
      go_wp2_with fail
      refine (c6 m).mono ?_
      rintro e w8 ⟨rfl, rfl⟩
      go_wp2
      go_ret
      exact ⟨rfl, below_drewN b6 m⟩

theorem fa_any (a : Option Addr) (len cap : Nat) (x ln : Int) (f : Nat → Nat) (w : World) (hr : RowIs w a len f) (hW : Words f len) (hm : len ≤ maxLen) :
    Calls Try.prog 6 #[.slice a len cap, .int .i64 x, .int .i64 ln] w fun e w' => e = .returned (.bool true) ∧ Below w.heap.size w w' := by
  unfold maxLen at hm
  by_cases h1 : 1048576 < len
  · go_enter Try.func6, Try.ntmps6
    go_wp2_with fail
    refine (bytes24_no a len cap x ln w h1).mono ?_
    rintro e w' ⟨rfl, rfl⟩
    go_wp2
    go_ret
    exact ⟨rfl, Below.refl _ _⟩
  have hb := bytes24 a len cap x ln w (by omega)
  by_cases h2 : 65536 < len
  · go_enter Try.func6, Try.ntmps6
    go_wp2_with fail
    refine hb.mono ?_
    rintro e w' ⟨rfl, rfl⟩
    go_wp2
    go_ret
    exact ⟨rfl, Below.refl _ _⟩
  by_cases h3 : x < 0
  · go_enter Try.func6, Try.ntmps6
    go_wp2_with fail
    refine hb.mono ?_
    rintro e w' ⟨rfl, rfl⟩
    go_wp2
    go_ret
    exact ⟨rfl, Below.refl _ _⟩
  by_cases h4 : 4194304 < x
  · go_enter Try.func6, Try.ntmps6
    go_wp2_with fail
    refine hb.mono ?_
    rintro e w' ⟨rfl, rfl⟩
    go_wp2
    go_ret
    exact ⟨rfl, Below.refl _ _⟩
  obtain ⟨n, rfl⟩ := Int.eq_ofNat_of_zero_le (show 0 ≤ x by omega)
  cases hwf : wfB f len n ln with
  | true => exact fa_main a len cap n ln f w hr hW (by omega) (by omega) hwf
  | false =>
    have hwfc := wf_any a len cap n ln f w hr hW (by omega) (by omega)
    rw [hwf] at hwfc
    go_enter Try.func6, Try.ntmps6
    go_wp2_with fail
    refine hb.mono ?_
    rintro e w' ⟨rfl, rfl⟩
    go_wp2_with fail
    refine hwfc.mono ?_
    rintro e w' ⟨rfl, rfl⟩
    go_wp2
    go_ret
    exact ⟨rfl, Below.refl _ _⟩
end Go.Proofs.Qxb6619332a
