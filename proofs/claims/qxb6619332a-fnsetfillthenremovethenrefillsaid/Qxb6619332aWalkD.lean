/-
  The walk over (*Set).Fill.
-/
import Derived.Test.Qxb6619332aWalkC
namespace Go.Proofs.Qxb6619332a
open Go.RowKit Pl

theorem SetIs.set {w : World} {S b : Nat} {a : Option Addr} {len cap : Nat} {f : Nat → Nat} {n ln : Int} (h : SetIs w S b a len cap f n ln) {j y : Nat} (hj : j < len) :
    SetIs (w.setCell ⟨b, j, none⟩ (.int .u64 (y : Int))) S b a len cap (upd f j y) n ln := by
  have hS : S ≠ b := h.ne.resolve_left (by omega)
  have d : ∀ o, (⟨b, j, none⟩ : Addr) ≠ ⟨S, o, none⟩ := fun o e => by injection e; omega
  refine ⟨?_, ?_, ?_, ?_, h.own.set hj, h.ne⟩
  · rw [World.cell?_setCell_other _ _ _ _ (d 0)]; exact h.c0
  · rw [World.cell?_setCell_other _ _ _ _ (d 1)]; exact h.c1
  · rw [World.cell?_setCell_other _ _ _ _ (d 2)]; exact h.c2
  · rw [World.frozen?_setCell]; exact h.z2
theorem SetIs.setLen {w : World} {S b : Nat} {a : Option Addr} {len cap : Nat} {f : Nat → Nat} {n ln : Int} (h : SetIs w S b a len cap f n ln) (ln' : Int) :
    SetIs (w.setCell ⟨S, 2, none⟩ (.int .i64 ln')) S b a len cap f n ln' := by
  have d2 : ∀ o, o ≠ 2 → (⟨S, 2, none⟩ : Addr) ≠ ⟨S, o, none⟩ := fun o h e => by injection e; omega
  refine ⟨?_, ?_, ?_, ?_, ?_, h.ne⟩
  · rw [World.cell?_setCell_other _ _ _ _ (d2 0 (by omega))]; exact h.c0
  · rw [World.cell?_setCell_other _ _ _ _ (d2 1 (by omega))]; exact h.c1
  · exact World.cell?_setCell_same _ _ _ h.c2
  · rw [World.frozen?_setCell]; exact h.z2
  · rcases h.own with h0 | ⟨h1, h2⟩
    · exact .inl h0
    · rcases h.ne with h0 | hS
      · exact .inl h0
      · exact .inr ⟨h1, fun i hi => ⟨by rw [World.cell?_setCell_other _ _ _ _ (fun e => by injection e; omega)]; exact (h2 i hi).1, by rw [World.frozen?_setCell]; exact (h2 i hi).2⟩⟩

theorem fill_step (f : Nat → Nat) (k i : Nat) : upd (fun j => if j < k then 18446744073709551615 else f j) k 18446744073709551615 i = if i < k + 1 then 18446744073709551615 else f i := by
  show (if i = k then 18446744073709551615 else if i < k then 18446744073709551615 else f i) = _
  by_cases e : i = k
  · subst e; simp
  · by_cases e2 : i < k
    · rw [if_neg e, if_pos e2, if_pos (by omega)]
    · rw [if_neg e, if_neg e2, if_neg (by omega)]

set_option maxHeartbeats 400000 in
theorem fill_any {w : World} {S b : Nat} {a : Option Addr} {len cap n : Nat} {f : Nat → Nat} {ln : Int} (h : SetIs w S b a len cap f n ln) (hl : len = (n + 63) / 64) (hn : n ≤ 4194304) :
    Calls Try.prog 25 #[.pointer (some ⟨S, 0, none⟩)] w fun e w' => e = .returned (.tuple #[]) ∧ SetIs w' S b a len cap (full n len) n n ∧ Only S b w w' := by
  have h0 := h.c0
  have H : Hid (SetIs w S b a len cap f n ln) := h
  have HL : Hid (len = (n + 63) / 64) := hl
  have hl' : len ≤ 65536 := by omega
  clear h hl
  go_enter Try.func25, Try.ntmps25
  go_wp2
  go_loopw [9] (fun i wr => ∃ k : Nat, k ≤ len ∧ i = .int .i64 k ∧ SetIs wr S b a len cap (fun j => if j < k then 18446744073709551615 else f j) n ln ∧ Only S b w wr) (fun i _ => len - (intOf i).toNat)
  case atStart => exact ⟨0, Nat.zero_le _, rfl, by simpa using H.out, Only.refl _ _ _⟩
  case round =>
    obtain ⟨k, hk, rfl, s1, o1⟩ := hrel
    by_cases hlt : k < len
    · obtain ⟨ea, hS, hr⟩ := s1.at (by omega)
      subst ea
      have c0 := s1.c0
      have c1 := (hr k hlt).1
      have c2 := (hr k hlt).2
      obtain ⟨v, c1⟩ : ∃ v, wr.cell? ⟨b, k, none⟩ = some v := ⟨_, c1⟩
      have S2 : Hid (SetIs (wr.setCell ⟨b, k, none⟩ (.int .u64 18446744073709551615)) S b (some ⟨b, 0, none⟩) len cap (fun j => if j < k + 1 then 18446744073709551615 else f j) n ln) := (s1.set (y := 18446744073709551615) hlt).same (fun i _ => fill_step f k i)
      have O2 : Hid (Only S b w (wr.setCell ⟨b, k, none⟩ (.int .u64 18446744073709551615))) := o1.setCell (.inr rfl) _
      clear s1 o1 hr
      go_wp2
      go_roundw
      case rel => exact ⟨k + 1, by omega, by go_num, S2.out, O2.out⟩
      case measure => simp [intOf]; omega
    · have c0 := s1.c0
      have c1 := s1.c1
      have c2 := s1.c2
      have z2 := s1.z2
      by_cases hr : n % 64 = 0
      · have t : ((n : Int) % 64 != 0) = false := by simp; omega
        have S2 : Hid (SetIs (wr.setCell ⟨S, 2, none⟩ (.int .i64 n)) S b a len cap (full n len) n n) := (s1.same (fun i hi => by show (if i < k then _ else _) = _; unfold full; rw [if_pos (by omega), if_neg (by omega)])).setLen n
        have O2 : Hid (Only S b w (wr.setCell ⟨S, 2, none⟩ (.int .i64 n))) := o1.setCell (.inl rfl) _
        clear s1 o1
        go_wp2
        go_end0
        exact ⟨rfl, S2.out, O2.out⟩
      · obtain ⟨ea, hS, hrow⟩ := s1.at (by have := HL.out; omega)
        subst ea
        have hpos : 1 ≤ len := by have := HL.out; omega
        have t : ((n : Int) % 64 != 0) = true := by rw [bne_iff_ne]; omega
        obtain ⟨v, d1⟩ : ∃ v, wr.cell? ⟨b, len - 1, none⟩ = some v := ⟨_, (hrow (len - 1) (by omega)).1⟩
        have d2 := (hrow (len - 1) (by omega)).2
        have hp1 : 2 ^ (n % 64) < 18446744073709551616 := by have := Nat.pow_lt_pow_right (a := 2) (by omega) (show n % 64 < 64 by omega); omega
        have hp0 := Nat.two_pow_pos (n % 64)
        have hw := wrap_bit (n % 64) (by omega)
        have hi0 : (0 : Int) ≤ (len : Int) - 1 := by omega
        have hi1 : (len : Int) - 1 < (len : Int) := by omega
        have S2 : Hid (SetIs ((wr.setCell ⟨b, len - 1, none⟩ (.int .u64 (((2 ^ (n % 64) : Nat) : Int) - 1))).setCell ⟨S, 2, none⟩ (.int .i64 n)) S b (some ⟨b, 0, none⟩) len cap (full n len) n n) := by
          have e : (((2 ^ (n % 64) : Nat) : Int) - 1) = ((2 ^ (n % 64) - 1 : Nat) : Int) := by omega
          rw [e]
          refine ((s1.set (y := 2 ^ (n % 64) - 1) (show len - 1 < len by omega)).same (fun i hi => ?_)).setLen n
          show (if i = len - 1 then _ else if i < k then _ else _) = _
          unfold full
          by_cases e : i = len - 1
          · rw [if_pos e, if_pos ⟨hr, e⟩]
          · rw [if_neg e, if_pos (by omega), if_neg (by omega)]
        have O2 : Hid (Only S b w ((wr.setCell ⟨b, len - 1, none⟩ (.int .u64 (((2 ^ (n % 64) : Nat) : Int) - 1))).setCell ⟨S, 2, none⟩ (.int .i64 n))) := (o1.setCell (.inr rfl) _).setCell (.inl rfl) _
        clear s1 o1 hrow
        generalize 2 ^ (n % 64) = p at *
        go_wp2
        go_region
        all_goals go_wp2
        all_goals go_end0
        all_goals exact ⟨rfl, S2.out.drewN 1, O2.out.drewN 1⟩
end Go.Proofs.Qxb6619332a
