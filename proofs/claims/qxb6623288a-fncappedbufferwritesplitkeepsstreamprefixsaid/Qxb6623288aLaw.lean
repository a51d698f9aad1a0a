/-
  The walk over FnCappedBufferWriteSplitKeepsStreamPrefix.
-/
import Derived.Test.Qxb6623288aWalkC
namespace Go.Proofs.Qxb6623288a
open Go.RowKit

/-- Write, whatever fits -/
theorem write_any {w : World} {S base : Nat} {ao : Option Addr} {n cap : Nat} {xs : List Int} {lim : Nat} {over : Bool} (h : Buf w S base ao n cap xs lim over) (pa : Option Addr) (m pc : Nat) (ps : List Int) (src : Src w pa m pc ps)
    (hpos : 0 < m → ∃ b off, pa = some ⟨b, off, none⟩ ∧ b ≠ S) (hmc : m ≤ pc) (hn0 : n ≤ lim) (hlim : lim ≤ 9223372036854775807) (hn : n ≤ 2000000) (hm : m ≤ 2000000) (hb : base ≤ w.heap.size) :
    Calls Try.prog 7 #[.pointer (some ⟨S, 0, none⟩), .slice pa m pc] w fun e w' => e = .returned (.tuple #[.int .i64 (m : Int), .nilIface]) ∧ ∃ ao' n' cap', Buf w' S base ao' n' cap' ((xs ++ ps).take lim) lim (over || decide (lim < n + m)) ∧ Touch S (Value.slice ao n cap).ownBlock (Value.slice ao' n' cap').ownBlock w w' := by
  have hx := h.len
  have hp := src.len
  by_cases hr : n + m ≤ lim
  · refine (write_fits h pa m pc ps src hr hlim hn hm hb).mono ?_
    rintro e w' ⟨rfl, ao', cap', B, T⟩
    have e1 : (xs ++ ps).take lim = xs ++ ps := List.take_of_length_le (by rw [List.length_append]; omega)
    have e2 : (over || decide (lim < n + m)) = over := by rw [decide_eq_false (by omega), Bool.or_false]
    rw [e1, e2]
    exact ⟨rfl, ao', _, cap', B, T⟩
  · obtain ⟨b, off, rfl, hbS⟩ := hpos (by omega)
    refine (write_over h b off m pc ps src hbS hmc hn0 (by omega) hn hm hb).mono ?_
    rintro e w' ⟨rfl, ao', cap', B, T⟩
    have e1 : (xs ++ ps).take lim = xs ++ ps.take (lim - n) := by rw [List.take_append, List.take_of_length_le (by omega), hx]
    have e2 : (over || decide (lim < n + m)) = true := by rw [decide_eq_true (by omega), Bool.or_true]
    rw [e1, e2]
    exact ⟨rfl, ao', _, cap', B, T⟩

theorem own_block {w w' : World} {base : Nat} {e : TypeId} {size : Nat} {v : Value} {n : Nat} {xs : List Value} (h : w.ownsRow base e size v n xs) (hk : ∀ g, v.ownBlock = some g → w'.heap[g]? = w.heap[g]?) : w'.ownsRow base e size v n xs := by
  obtain ⟨h1, h2⟩ := h
  refine ⟨h1, ?_⟩
  rcases h2 with h2 | ⟨g, cap, cur, rfl, hg, hh, r⟩
  · exact .inl h2
  · exact .inr ⟨g, cap, cur, rfl, hg, by rw [hk g rfl]; exact hh, r⟩
theorem own_below {w w' : World} {base : Nat} {e : TypeId} {size : Nat} {v : Value} {n : Nat} {xs : List Value} (h : w.ownsRow base e size v n xs) (hb : Below w.heap.size w w') : w'.ownsRow base e size v n xs :=
  own_block h fun g hg => hb.block g (h.lt g hg).2
theorem own_touch {w w' : World} {base : Nat} {e : TypeId} {size : Nat} {v : Value} {n : Nat} {xs : List Value} {S : Nat} {r r' : Option Nat} (h : w.ownsRow base e size v n xs) (T : Touch S r r' w w') (h1 : v.ownBlock ≠ some S) (h2 : v.ownBlock = none ∨ v.ownBlock ≠ r) : w'.ownsRow base e size v n xs := by
  refine own_block h fun g hg => T.block g (h.lt g hg).2 (fun e => h1 (by rw [hg, e])) (fun e => ?_)
  rcases h2 with h2 | h2
  · rw [hg] at h2; cases h2
  · exact h2 (by rw [hg, e])
theorem Touch.below {S B : Nat} {r r' : Option Nat} {w w' : World} (T : Touch S r r' w w') (h1 : B ≤ S) (h2 : ∀ k, r = some k → B ≤ k) (hB : B ≤ w.heap.size) : Below B w w' :=
  ⟨T.os, T.tape, T.output, T.size, fun k hk => T.block k (by omega) (by omega) (fun e => by have := h2 k e.symm; omega)⟩
theorem Buf.below {w w' : World} {S base : Nat} {ao : Option Addr} {n cap : Nat} {xs : List Int} {lim : Nat} {over : Bool} (h : Buf w S base ao n cap xs lim over) (hb : Below w.heap.size w w') : Buf w' S base ao n cap xs lim over := by
  have l : S < w.heap.size := cell_lt h.c0
  exact ⟨h.len, (hb.cell l).trans h.c0, (hb.cell l).trans h.c1, (hb.cell l).trans h.c2, (hb.frozen l).trans h.z0, (hb.frozen l).trans h.z2, own_below h.own hb, h.ne⟩
theorem Buf.touched {w w' : World} {S base : Nat} {ao : Option Addr} {n cap : Nat} {xs : List Int} {lim : Nat} {over : Bool} {S' : Nat} {r r' : Option Nat} (h : Buf w S base ao n cap xs lim over) (T : Touch S' r r' w w') (h1 : S ≠ S') (h2 : some S ≠ r) (h3 : (Value.slice ao n cap).ownBlock ≠ some S') (h4 : (Value.slice ao n cap).ownBlock = none ∨ (Value.slice ao n cap).ownBlock ≠ r) : Buf w' S base ao n cap xs lim over := by
  have l : S < w.heap.size := cell_lt h.c0
  have hblk := T.block S l h1 h2
  have hc : ∀ o, w'.cell? ⟨S, o, none⟩ = w.cell? ⟨S, o, none⟩ := fun o => World.cell?_of_block (w := w) hblk
  have hf : ∀ o, w'.frozen? ⟨S, o, none⟩ = w.frozen? ⟨S, o, none⟩ := fun o => World.frozen?_of_block (w := w) hblk
  exact ⟨h.len, (hc 0).trans h.c0, (hc 1).trans h.c1, (hc 2).trans h.c2, (hf 0).trans h.z0, (hf 2).trans h.z2, own_touch h.own T h3 h4, h.ne⟩
theorem Buf.row {w : World} {S base : Nat} {ao : Option Addr} {n cap : Nat} {xs : List Int} {lim : Nat} {over : Bool} (h : Buf w S base ao n cap xs lim over) : RowIs w ao xs := by
  rcases h.own.2 with ⟨e, e0⟩ | ⟨g, c, cur, e, _⟩
  · exact .inl (by rw [h.len]; exact e0)
  · have ea : ao = some ⟨g, 0, none⟩ := by simpa using (Value.slice.inj e).1
    subst ea
    refine .inr ⟨g, 0, rfl, fun i hi => ?_⟩
    rw [Nat.zero_add, h.own.cellAt i (by have := h.len; omega)]
    simp [hi]
theorem new_buf_is {a : Option Addr} {n cap base lim : Nat} {xs : List Int} {over : Bool} {w : World} (hl : xs.length = n) (ho : w.ownsRow base 5 1 (.slice a n cap) n (xs.map (Value.int .u8))) :
    Calls Try.prog 6 #[.slice a n cap, .int .i64 (lim : Int), .bool over] w fun e w' => e = .returned (.pointer (some ⟨w.heap.size, 0, none⟩)) ∧ Buf w' w.heap.size base a n cap xs lim over ∧ Below w.heap.size w w' := by
  refine (new_buf a n cap lim over w).mono ?_
  rintro e w' ⟨rfl, rfl⟩
  have hb := (Below.refl w.heap.size w).alloc (Nat.le_refl _) (.cells #[.slice a n cap, .int .i64 (lim : Int), .bool over] 35)
  refine ⟨rfl, ⟨hl, ?_, ?_, ?_, ?_, ?_, own_below ho hb, fun e => by have := (ho.lt _ e).2; omega⟩, hb⟩
  · simp [go_sem]
  · simp [go_sem]
  · simp [go_sem]
  · simp [go_sem]
  · simp [go_sem]
theorem Below.step {w0 w w' : World} (h : Below w0.heap.size w0 w) (h' : Below w.heap.size w w') : Below w0.heap.size w0 w' := h.trans (h'.mono h.size)

/-! ### plain facts -/
theorem take_twice (z p q : List Int) (L : Nat) : ((z ++ p).take L ++ q).take L = (z ++ p ++ q).take L := by
  rw [List.take_append, List.take_take, Nat.min_self, List.take_append (l₁ := z ++ p)]
  congr 2
  rw [List.length_take]
  omega
theorem over_twice (o : Bool) (L n i m n1 : Nat) (hi : i ≤ m) (h1 : n1 = min L (n + i)) : ((o || decide (L < n + i)) || decide (L < n1 + (m - i))) = (o || decide (L < n + m)) := by
  rw [Bool.or_assoc]
  congr 1
  rw [Bool.eq_iff_iff]
  simp only [Bool.or_eq_true, decide_eq_true_eq]
  omega
end Go.Proofs.Qxb6623288a
