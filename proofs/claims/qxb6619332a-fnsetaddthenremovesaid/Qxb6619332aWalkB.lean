/-
  The walks over the methods that write into a set: Remove, Add, Fill.
-/
import Derived.Test.Qxb6619332aWalkA
import Derived.Deep.QuietTactic
import Derived.BigQuiet
namespace Go.Proofs.Qxb6619332a
open Go.RowKit Pl

theorem wrap_bit (i : Nat) (hi : i < 64) : IntKind.u64.wrap (2 ^ i) = ((2 ^ i : Nat) : Int) := by
  have h1 : 2 ^ i < 2 ^ 64 := Nat.pow_lt_pow_right (by omega) hi
  have e : (2 : Int) ^ i = ((2 ^ i : Nat) : Int) := by simp
  rw [IntKind.wrap_u64, e]
  generalize 2 ^ i = p at *
  omega
theorem bits_test (x i : Nat) (hi : i < 64) (hx : x < 18446744073709551616) : (bits .and .u64 (x : Int) (IntKind.u64.wrap (2 ^ i)) == 0) = !x.testBit i := by
  have h1 : 2 ^ i < 2 ^ 64 := Nat.pow_lt_pow_right (by omega) hi
  rw [wrap_bit i hi, u64_and_nat _ _ hx (by omega), nat_bit, Nat.testBit_eq_decide_div_mod_eq]
  have hp := Nat.two_pow_pos i
  have h2 : x / 2 ^ i % 2 = 0 ∨ x / 2 ^ i % 2 = 1 := by omega
  rcases h2 with h2 | h2
  · rw [h2]; simp
  · rw [h2]
    generalize 2 ^ i = p at *
    simp
    omega
theorem bits_clr (x i : Nat) (hi : i < 64) (hx : x < 18446744073709551616) : bits .andNot .u64 (x : Int) (IntKind.u64.wrap (2 ^ i)) = ((x &&& (18446744073709551615 - 2 ^ i) : Nat) : Int) := by
  have h1 : 2 ^ i < 2 ^ 64 := Nat.pow_lt_pow_right (by omega) hi
  rw [wrap_bit i hi, u64_andNot_nat _ _ hx (by omega)]
theorem bits_set (x i : Nat) (hi : i < 64) (hx : x < 18446744073709551616) : bits .or .u64 (x : Int) (IntKind.u64.wrap (2 ^ i)) = ((x ||| 2 ^ i : Nat) : Int) := by
  have h1 : 2 ^ i < 2 ^ 64 := Nat.pow_lt_pow_right (by omega) hi
  rw [wrap_bit i hi, u64_or_nat _ _ hx (by omega)]

set_option maxHeartbeats 400000 in
theorem remove_no (S b len cap k x : Nat) (w : World) (hk : k / 64 < len) (hl : len ≤ 65536)
    (c0 : w.cell? ⟨S, 0, none⟩ = some (.slice (some ⟨b, 0, none⟩) len cap)) (cx : w.cell? ⟨b, k / 64, none⟩ = some (.int .u64 (x : Int))) (hx : x < 18446744073709551616) (hh : x.testBit (k % 64) = false) :
    Calls Try.prog 19 #[.pointer (some ⟨S, 0, none⟩), .int .i64 (k : Int)] w fun e w' => e = .returned (.bool false) ∧ ∃ n, w' = w.drewN n := by
  have hk' : k < 4194304 := by omega
  have ht : (bits .and .u64 (x : Int) (IntKind.u64.wrap (2 ^ (k % 64))) == 0) = true := by rw [bits_test x _ (by omega) hx, hh]; rfl
  go_enter Try.func19, Try.ntmps19
  go_wp2
  go_quiet (fail)
  go_wp2
  go_ret
  exact ⟨rfl, _, rfl⟩

set_option maxHeartbeats 400000 in
theorem remove_yes (S b len cap k x y : Nat) (ln : Int) (w : World) (hk : k / 64 < len) (hl : len ≤ 65536) (hne : S ≠ b)
    (c0 : w.cell? ⟨S, 0, none⟩ = some (.slice (some ⟨b, 0, none⟩) len cap)) (c2 : w.cell? ⟨S, 2, none⟩ = some (.int .i64 ln)) (z2 : w.frozen? ⟨S, 2, none⟩ = false) (hln : 0 ≤ ln) (hln' : ln ≤ 10000000)
    (cx : w.cell? ⟨b, k / 64, none⟩ = some (.int .u64 (x : Int))) (zx : w.frozen? ⟨b, k / 64, none⟩ = false) (hx : x < 18446744073709551616) (hh : x.testBit (k % 64) = true) (hy : x &&& (18446744073709551615 - 2 ^ (k % 64)) = y) :
    Calls Try.prog 19 #[.pointer (some ⟨S, 0, none⟩), .int .i64 (k : Int)] w fun e w' => e = .returned (.bool true) ∧ ∃ n, w' = ((w.drewN n).setCell ⟨b, k / 64, none⟩ (.int .u64 (y : Int))).setCell ⟨S, 2, none⟩ (.int .i64 (ln - 1)) := by
  have hk' : k < 4194304 := by omega
  have ht : (bits .and .u64 (x : Int) (IntKind.u64.wrap (2 ^ (k % 64))) == 0) = false := by rw [bits_test x _ (by omega) hx, hh]; rfl
  have hcl : bits .andNot .u64 (x : Int) (IntKind.u64.wrap (2 ^ (k % 64))) = (y : Int) := by rw [bits_clr x _ (by omega) hx, hy]
  clear hy
  go_enter Try.func19, Try.ntmps19
  go_wp2
  go_quiet (fail)
  go_wp2
  go_ret
  exact ⟨rfl, _, rfl⟩

set_option maxHeartbeats 400000 in
theorem add_no (S b len cap k x : Nat) (w : World) (hk : k / 64 < len) (hl : len ≤ 65536)
    (c0 : w.cell? ⟨S, 0, none⟩ = some (.slice (some ⟨b, 0, none⟩) len cap)) (cx : w.cell? ⟨b, k / 64, none⟩ = some (.int .u64 (x : Int))) (hx : x < 18446744073709551616) (hh : x.testBit (k % 64) = true) :
    Calls Try.prog 13 #[.pointer (some ⟨S, 0, none⟩), .int .i64 (k : Int)] w fun e w' => e = .returned (.bool false) ∧ ∃ n, w' = w.drewN n := by
  have hk' : k < 4194304 := by omega
  have ht0 : (bits .and .u64 (x : Int) (IntKind.u64.wrap (2 ^ (k % 64))) == 0) = false := by rw [bits_test x _ (by omega) hx, hh]; rfl
  have ht : (bits .and .u64 (x : Int) (IntKind.u64.wrap (2 ^ (k % 64))) != 0) = true := by rw [bne, ht0]; rfl
  go_enter Try.func13, Try.ntmps13
  go_wp2
  go_quiet (fail)
  go_wp2
  go_ret
  exact ⟨rfl, _, rfl⟩

set_option maxHeartbeats 400000 in
theorem add_yes (S b len cap k x y : Nat) (ln : Int) (w : World) (hk : k / 64 < len) (hl : len ≤ 65536) (hne : S ≠ b)
    (c0 : w.cell? ⟨S, 0, none⟩ = some (.slice (some ⟨b, 0, none⟩) len cap)) (c2 : w.cell? ⟨S, 2, none⟩ = some (.int .i64 ln)) (z2 : w.frozen? ⟨S, 2, none⟩ = false) (hln : 0 ≤ ln) (hln' : ln ≤ 10000000)
    (cx : w.cell? ⟨b, k / 64, none⟩ = some (.int .u64 (x : Int))) (zx : w.frozen? ⟨b, k / 64, none⟩ = false) (hx : x < 18446744073709551616) (hh : x.testBit (k % 64) = false) (hy : x ||| 2 ^ (k % 64) = y) :
    Calls Try.prog 13 #[.pointer (some ⟨S, 0, none⟩), .int .i64 (k : Int)] w fun e w' => e = .returned (.bool true) ∧ ∃ n, w' = ((w.drewN n).setCell ⟨b, k / 64, none⟩ (.int .u64 (y : Int))).setCell ⟨S, 2, none⟩ (.int .i64 (ln + 1)) := by
  have hk' : k < 4194304 := by omega
  have ht0 : (bits .and .u64 (x : Int) (IntKind.u64.wrap (2 ^ (k % 64))) == 0) = true := by rw [bits_test x _ (by omega) hx, hh]; rfl
  have ht : (bits .and .u64 (x : Int) (IntKind.u64.wrap (2 ^ (k % 64))) != 0) = false := by rw [bne, ht0]; rfl
  have hcl : bits .or .u64 (x : Int) (IntKind.u64.wrap (2 ^ (k % 64))) = (y : Int) := by rw [bits_set x _ (by omega) hx, hy]
  clear hy
  go_enter Try.func13, Try.ntmps13
  go_wp2
  go_quiet (fail)
  go_wp2
  go_ret
  exact ⟨rfl, _, rfl⟩

/-! ### worlds that differ in two blocks alone -/
structure Only (S b : Nat) (w w' : World) : Prop where
  os : w'.os = w.os
  tape : w'.tape = w.tape
  output : w'.output = w.output
  size : w'.heap.size = w.heap.size
  block : ∀ k, k ≠ S → k ≠ b → w'.heap[k]? = w.heap[k]?
theorem Only.refl (S b : Nat) (w : World) : Only S b w w := ⟨rfl, rfl, rfl, rfl, fun _ _ _ => rfl⟩
theorem Only.trans {S b : Nat} {x y z : World} (h : Only S b x y) (k : Only S b y z) : Only S b x z :=
  ⟨k.os.trans h.os, k.tape.trans h.tape, k.output.trans h.output, k.size.trans h.size, fun i h1 h2 => (k.block i h1 h2).trans (h.block i h1 h2)⟩
theorem Only.setCell {S b : Nat} {x w : World} (h : Only S b x w) {p : Addr} (hp : p.block = S ∨ p.block = b) (u : Value) : Only S b x (w.setCell p u) :=
  h.trans ⟨rfl, rfl, rfl, by simp [World.setCell], fun k h1 h2 => Below.heap_setCell _ _ _ _ (by omega)⟩
theorem Only.drewN {S b : Nat} {x w : World} (h : Only S b x w) (n : Nat) : Only S b x (w.drewN n) := h.trans ⟨rfl, rfl, rfl, rfl, fun _ _ _ => rfl⟩
theorem Only.below {S b B : Nat} {x w : World} (h : Only S b x w) (h1 : B ≤ S) (h2 : B ≤ b) : Below B x w :=
  ⟨h.os, h.tape, h.output, Nat.le_of_eq h.size.symm, fun k hk => h.block k (by omega) (by omega)⟩
theorem Only.cell {S b : Nat} {x w : World} (h : Only S b x w) {p : Addr} (h1 : p.block ≠ S) (h2 : p.block ≠ b) : w.cell? p = x.cell? p := World.cell?_of_block (w := x) (h.block p.block h1 h2)
theorem Only.frozen {S b : Nat} {x w : World} (h : Only S b x w) {p : Addr} (h1 : p.block ≠ S) (h2 : p.block ≠ b) : w.frozen? p = x.frozen? p := World.frozen?_of_block (w := x) (h.block p.block h1 h2)

/-- a row of the call's own, at the head of block b (nothing is said of an empty one) -/
def Own (w : World) (a : Option Addr) (len : Nat) (f : Nat → Nat) (b : Nat) : Prop :=
  len = 0 ∨ (a = some ⟨b, 0, none⟩ ∧ ∀ i, i < len → w.cell? ⟨b, i, none⟩ = some (.int .u64 (f i : Int)) ∧ w.frozen? ⟨b, i, none⟩ = false)
theorem Own.row {w : World} {a : Option Addr} {len : Nat} {f : Nat → Nat} {b : Nat} (h : Own w a len f b) : RowIs w a len f := by
  rcases h with h | ⟨h1, h2⟩
  · exact .inl h
  · exact .inr ⟨b, 0, h1, fun i hi => by rw [Nat.zero_add]; exact (h2 i hi).1⟩

/-- a set in memory: the struct at block S, its words at block b -/
structure SetIs (w : World) (S b : Nat) (a : Option Addr) (len cap : Nat) (f : Nat → Nat) (n ln : Int) : Prop where
  c0 : w.cell? ⟨S, 0, none⟩ = some (.slice a len cap)
  c1 : w.cell? ⟨S, 1, none⟩ = some (.int .i64 n)
  c2 : w.cell? ⟨S, 2, none⟩ = some (.int .i64 ln)
  z2 : w.frozen? ⟨S, 2, none⟩ = false
  own : Own w a len f b
  ne : len = 0 ∨ S ≠ b

theorem SetIs.drewN {w : World} {S b : Nat} {a : Option Addr} {len cap : Nat} {f : Nat → Nat} {n ln : Int} (h : SetIs w S b a len cap f n ln) (m : Nat) : SetIs (w.drewN m) S b a len cap f n ln :=
  ⟨h.c0, h.c1, h.c2, h.z2, h.own, h.ne⟩

/-- one word stored, and a new length -/
theorem SetIs.put {w : World} {S b : Nat} {len cap : Nat} {f : Nat → Nat} {n ln : Int} (h : SetIs w S b (some ⟨b, 0, none⟩) len cap f n ln) (hS : S ≠ b) (m j y : Nat) (ln' : Int) (hj : j < len) :
    SetIs (((w.drewN m).setCell ⟨b, j, none⟩ (.int .u64 (y : Int))).setCell ⟨S, 2, none⟩ (.int .i64 ln')) S b (some ⟨b, 0, none⟩) len cap (upd f j y) n ln' := by
  obtain ⟨c0, c1, c2, z2, own, ne⟩ := h.drewN m
  generalize w.drewN m = v at *
  rcases own with h0 | ⟨_, hr⟩
  · omega
  have d : ∀ o, (⟨b, j, none⟩ : Addr) ≠ ⟨S, o, none⟩ := fun o e => by injection e; omega
  have d' : ∀ o o', (⟨S, o, none⟩ : Addr) ≠ ⟨b, o', none⟩ := fun o o' e => by injection e; omega
  have d2 : ∀ o, o ≠ 2 → (⟨S, 2, none⟩ : Addr) ≠ ⟨S, o, none⟩ := fun o h e => by injection e; omega
  refine ⟨?_, ?_, ?_, ?_, .inr ⟨rfl, fun i hi => ⟨?_, ?_⟩⟩, .inr hS⟩
  · rw [World.cell?_setCell_other _ _ _ _ (d2 0 (by omega)), World.cell?_setCell_other _ _ _ _ (d 0)]; exact c0
  · rw [World.cell?_setCell_other _ _ _ _ (d2 1 (by omega)), World.cell?_setCell_other _ _ _ _ (d 1)]; exact c1
  · exact World.cell?_setCell_same _ _ _ (u := .int .i64 ln) (by rw [World.cell?_setCell_other _ _ _ _ (d 2)]; exact c2)
  · rw [World.frozen?_setCell, World.frozen?_setCell]; exact z2
  · rw [World.cell?_setCell_other _ _ _ _ (d' 2 i)]
    by_cases e : i = j
    · subst e
      rw [World.cell?_setCell_same _ _ _ (hr i hi).1]
      simp [upd]
    · rw [World.cell?_setCell_other _ _ _ _ (fun h => by injection h; omega), (hr i hi).1]
      simp [upd, e]
  · rw [World.frozen?_setCell, World.frozen?_setCell]; exact (hr i hi).2

theorem SetIs.at {w : World} {S b : Nat} {a : Option Addr} {len cap : Nat} {f : Nat → Nat} {n ln : Int} (h : SetIs w S b a len cap f n ln) (hl : 0 < len) : a = some ⟨b, 0, none⟩ ∧ S ≠ b ∧ ∀ i, i < len → w.cell? ⟨b, i, none⟩ = some (.int .u64 (f i : Int)) ∧ w.frozen? ⟨b, i, none⟩ = false := by
  rcases h.own with h0 | ⟨h1, h2⟩
  · omega
  · exact ⟨h1, h.ne.resolve_left (by omega), h2⟩

theorem remove_has {w : World} {S b : Nat} {a : Option Addr} {len cap : Nat} {f : Nat → Nat} {n ln : Int} (h : SetIs w S b a len cap f n ln) (k : Nat) (hk : k / 64 < len) (hl : len ≤ 65536) (hW : Words f len) (h1 : 0 ≤ ln) (h2 : ln ≤ 10000000) (hh : has f k = true) :
    Calls Try.prog 19 #[.pointer (some ⟨S, 0, none⟩), .int .i64 (k : Int)] w fun e w' => e = .returned (.bool true) ∧ SetIs w' S b a len cap (without f k) n (ln - 1) ∧ Only S b w w' := by
  obtain ⟨rfl, hS, hr⟩ := h.at (by omega)
  refine (remove_yes S b len cap k (f (k / 64)) _ ln w hk hl hS h.c0 h.c2 h.z2 h1 h2 (hr _ hk).1 (hr _ hk).2 (hW _ hk) hh rfl).mono ?_
  rintro e w' ⟨rfl, m, rfl⟩
  exact ⟨rfl, h.put hS m _ _ _ hk, (((Only.refl S b w).drewN m).setCell (.inr rfl) _).setCell (.inl rfl) _⟩
theorem remove_hasnt {w : World} {S b : Nat} {a : Option Addr} {len cap : Nat} {f : Nat → Nat} {n ln : Int} (h : SetIs w S b a len cap f n ln) (k : Nat) (hk : k / 64 < len) (hl : len ≤ 65536) (hW : Words f len) (hh : has f k = false) :
    Calls Try.prog 19 #[.pointer (some ⟨S, 0, none⟩), .int .i64 (k : Int)] w fun e w' => e = .returned (.bool false) ∧ SetIs w' S b a len cap f n ln ∧ Only S b w w' := by
  obtain ⟨rfl, hS, hr⟩ := h.at (by omega)
  refine (remove_no S b len cap k (f (k / 64)) w hk hl h.c0 (hr _ hk).1 (hW _ hk) hh).mono ?_
  rintro e w' ⟨rfl, m, rfl⟩
  exact ⟨rfl, h.drewN m, (Only.refl S b w).drewN m⟩
theorem add_hasnt {w : World} {S b : Nat} {a : Option Addr} {len cap : Nat} {f : Nat → Nat} {n ln : Int} (h : SetIs w S b a len cap f n ln) (k : Nat) (hk : k / 64 < len) (hl : len ≤ 65536) (hW : Words f len) (h1 : 0 ≤ ln) (h2 : ln ≤ 10000000) (hh : has f k = false) :
    Calls Try.prog 13 #[.pointer (some ⟨S, 0, none⟩), .int .i64 (k : Int)] w fun e w' => e = .returned (.bool true) ∧ SetIs w' S b a len cap (withB f k) n (ln + 1) ∧ Only S b w w' := by
  obtain ⟨rfl, hS, hr⟩ := h.at (by omega)
  refine (add_yes S b len cap k (f (k / 64)) _ ln w hk hl hS h.c0 h.c2 h.z2 h1 h2 (hr _ hk).1 (hr _ hk).2 (hW _ hk) hh rfl).mono ?_
  rintro e w' ⟨rfl, m, rfl⟩
  exact ⟨rfl, h.put hS m _ _ _ hk, (((Only.refl S b w).drewN m).setCell (.inr rfl) _).setCell (.inl rfl) _⟩
theorem add_has {w : World} {S b : Nat} {a : Option Addr} {len cap : Nat} {f : Nat → Nat} {n ln : Int} (h : SetIs w S b a len cap f n ln) (k : Nat) (hk : k / 64 < len) (hl : len ≤ 65536) (hW : Words f len) (hh : has f k = true) :
    Calls Try.prog 13 #[.pointer (some ⟨S, 0, none⟩), .int .i64 (k : Int)] w fun e w' => e = .returned (.bool false) ∧ SetIs w' S b a len cap f n ln ∧ Only S b w w' := by
  obtain ⟨rfl, hS, hr⟩ := h.at (by omega)
  refine (add_no S b len cap k (f (k / 64)) w hk hl h.c0 (hr _ hk).1 (hW _ hk) hh).mono ?_
  rintro e w' ⟨rfl, m, rfl⟩
  exact ⟨rfl, h.drewN m, (Only.refl S b w).drewN m⟩
end Go.Proofs.Qxb6619332a
