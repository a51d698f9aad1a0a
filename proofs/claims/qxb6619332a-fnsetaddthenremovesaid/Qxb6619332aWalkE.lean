/-
  Add and Remove, at a set whose length is the number of its bits; and what they undo.
-/
import Derived.Test.Qxb6619332aWalkC
namespace Go.Proofs.Qxb6619332a
open Go.RowKit Pl

theorem with_same (f : Nat → Nat) (k : Nat) (h : has f k = true) (i : Nat) : withB f k i = f i := by
  unfold withB upd
  by_cases e : i = k / 64
  · subst e; rw [if_pos rfl]; exact or_same _ _ h
  · rw [if_neg e]
theorem without_same (f : Nat → Nat) (k len : Nat) (hW : Words f len) (h : has f k = false) (i : Nat) (hi : i < len) : without f k i = f i := by
  unfold without upd
  by_cases e : i = k / 64
  · subst e; rw [if_pos rfl]; exact clr_same _ _ (by omega) (hW _ hi) h
  · rw [if_neg e]
theorem has_with (f : Nat → Nat) (k : Nat) : has (withB f k) k = true := by
  unfold has
  rw [bit_with f k _ _ (by omega), decide_eq_true (by omega), Bool.or_true]
theorem has_without (f : Nat → Nat) (k len : Nat) (hW : Words f len) (hk : k / 64 < len) : has (without f k) k = false := by
  unfold has
  rw [bit_without f k _ _ len hW hk (by omega), decide_eq_true (by omega)]
  simp
theorem without_with (f : Nat → Nat) (k len : Nat) (hW : Words f len) (hk : k / 64 < len) (i : Nat) (hi : i < len) : without (withB f k) k i = without f k i := by
  refine word_ext _ _ (words_without _ k len (words_with f k len hW hk) hk i hi) (words_without _ k len hW hk i hi) fun b hb => ?_
  rw [bit_without _ k i b len (words_with f k len hW hk) hi hb, bit_without f k i b len hW hi hb, bit_with f k i b hb]
  cases (f i).testBit b <;> cases decide (k = 64 * i + b) <;> rfl
theorem with_without (f : Nat → Nat) (k len : Nat) (hW : Words f len) (hk : k / 64 < len) (i : Nat) (hi : i < len) : withB (without f k) k i = withB f k i := by
  refine word_ext _ _ (words_with _ k len (words_without f k len hW hk) hk i hi) (words_with _ k len hW hk i hi) fun b hb => ?_
  rw [bit_with _ k i b hb, bit_without f k i b len hW hi hb, bit_with f k i b hb]
  cases (f i).testBit b <;> cases decide (k = 64 * i + b) <;> rfl

theorem add_sum {w : World} {S b : Nat} {a : Option Addr} {len cap : Nat} {f : Nat → Nat} {n : Int} (h : SetIs w S b a len cap f n (psum f len : Int)) (k : Nat) (hk : k / 64 < len) (hl : len ≤ 65536) (hW : Words f len) :
    Calls Try.prog 13 #[.pointer (some ⟨S, 0, none⟩), .int .i64 (k : Int)] w fun e w' => e = .returned (.bool (!has f k)) ∧ SetIs w' S b a len cap (withB f k) n (psum (withB f k) len : Int) ∧ Only S b w w' := by
  have hp := psum_le f len
  cases hh : has f k with
  | true =>
    refine (add_has h k hk hl hW hh).mono ?_
    rintro e w' ⟨rfl, s, o⟩
    have e : psum (withB f k) len = psum f len := psum_congr _ _ _ (fun i _ => with_same f k hh i)
    rw [e]
    exact ⟨rfl, s.same (fun i _ => (with_same f k hh i).symm), o⟩
  | false =>
    refine (add_hasnt h k hk hl hW (by omega) (by omega) hh).mono ?_
    rintro e w' ⟨rfl, s, o⟩
    rw [psum_with f k len hk hh]
    exact ⟨rfl, by simpa using s, o⟩
theorem remove_sum {w : World} {S b : Nat} {a : Option Addr} {len cap : Nat} {f : Nat → Nat} {n : Int} (h : SetIs w S b a len cap f n (psum f len : Int)) (k : Nat) (hk : k / 64 < len) (hl : len ≤ 65536) (hW : Words f len) :
    Calls Try.prog 19 #[.pointer (some ⟨S, 0, none⟩), .int .i64 (k : Int)] w fun e w' => e = .returned (.bool (has f k)) ∧ SetIs w' S b a len cap (without f k) n (psum (without f k) len : Int) ∧ Only S b w w' := by
  have hp := psum_le f len
  cases hh : has f k with
  | true =>
    refine (remove_has h k hk hl hW (by omega) (by omega) hh).mono ?_
    rintro e w' ⟨rfl, s, o⟩
    have e := psum_without f k len hW hk hh
    have e2 : (psum f len : Int) - 1 = (psum (without f k) len : Int) := by omega
    rw [e2] at s
    exact ⟨rfl, s, o⟩
  | false =>
    refine (remove_hasnt h k hk hl hW hh).mono ?_
    rintro e w' ⟨rfl, s, o⟩
    have e : psum (without f k) len = psum f len := psum_congr _ _ _ (fun i hi => without_same f k len hW hh i hi)
    rw [e]
    exact ⟨rfl, s.same (fun i hi => (without_same f k len hW hh i hi).symm), o⟩
/-- Remove behind Add, Add behind Remove -/
theorem remove_added {w : World} {S b : Nat} {a : Option Addr} {len cap : Nat} {f : Nat → Nat} {n : Int} {k : Nat} (h : SetIs w S b a len cap (withB f k) n (psum (withB f k) len : Int)) (hk : k / 64 < len) (hl : len ≤ 65536) (hW : Words f len) :
    Calls Try.prog 19 #[.pointer (some ⟨S, 0, none⟩), .int .i64 (k : Int)] w fun e w' => e = .returned (.bool true) ∧ SetIs w' S b a len cap (without f k) n (psum (without f k) len : Int) ∧ Only S b w w' := by
  refine (remove_sum h k hk hl (words_with f k len hW hk)).mono ?_
  rintro e w' ⟨rfl, s, o⟩
  rw [psum_congr _ _ _ (without_with f k len hW hk)] at s
  exact ⟨by rw [has_with f k], s.same (without_with f k len hW hk), o⟩
theorem add_removed {w : World} {S b : Nat} {a : Option Addr} {len cap : Nat} {f : Nat → Nat} {n : Int} {k : Nat} (h : SetIs w S b a len cap (without f k) n (psum (without f k) len : Int)) (hk : k / 64 < len) (hl : len ≤ 65536) (hW : Words f len) :
    Calls Try.prog 13 #[.pointer (some ⟨S, 0, none⟩), .int .i64 (k : Int)] w fun e w' => e = .returned (.bool true) ∧ SetIs w' S b a len cap (withB f k) n (psum (withB f k) len : Int) ∧ Only S b w w' := by
  refine (add_sum h k hk hl (words_without f k len hW hk)).mono ?_
  rintro e w' ⟨rfl, s, o⟩
  rw [psum_congr _ _ _ (with_without f k len hW hk)] at s
  exact ⟨by rw [has_without f k len hW hk]; rfl, s.same (with_without f k len hW hk), o⟩
end Go.Proofs.Qxb6619332a
