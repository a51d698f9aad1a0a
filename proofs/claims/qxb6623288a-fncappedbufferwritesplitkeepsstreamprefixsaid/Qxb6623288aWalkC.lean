/-
  The walk over (*cappedBuffer).Write.
-/
import Derived.Test.Qxb6623288aWalkB
namespace Go.Proofs.Qxb6623288a
open Go.RowKit

/-- a capped buffer in memory: the struct at block S; its bytes in a row of the call's own -/
structure Buf (w : World) (S base : Nat) (ao : Option Addr) (n cap : Nat) (xs : List Int) (lim : Nat) (over : Bool) : Prop where
  len : xs.length = n
  c0 : w.cell? ⟨S, 0, none⟩ = some (.slice ao n cap)
  c1 : w.cell? ⟨S, 1, none⟩ = some (.int .i64 (lim : Int))
  c2 : w.cell? ⟨S, 2, none⟩ = some (.bool over)
  z0 : w.frozen? ⟨S, 0, none⟩ = false
  z2 : w.frozen? ⟨S, 2, none⟩ = false
  own : w.ownsRow base 5 1 (.slice ao n cap) n (xs.map (Value.int .u8))
  ne : (Value.slice ao n cap).ownBlock ≠ some S

/-- what is written: the block S and the row r; the row that comes out is r or a new block -/
structure Touch (S : Nat) (r r' : Option Nat) (w w' : World) : Prop where
  os : w'.os = w.os
  tape : w'.tape = w.tape
  output : w'.output = w.output
  size : w.heap.size ≤ w'.heap.size
  block : ∀ k, k < w.heap.size → k ≠ S → some k ≠ r → w'.heap[k]? = w.heap[k]?
  new : ∀ k, r' = some k → r = some k ∨ w.heap.size ≤ k

/-- a source of bytes: a row, with what append asks of an address that may be none -/
structure Src (w : World) (ao : Option Addr) (m c : Nat) (ps : List Int) : Prop where
  len : ps.length = m
  none : ao = none → m = 0 ∧ c = 0
  cells : ∀ ad, ao = some ad → ∀ j u, (ps.map (Value.int .u8))[j]? = some u → w.cell? (ad.add j) = some u

theorem shape_of {w : World} {base n : Nat} {v : Value} {xs : List Value} (h : w.ownsRow base 5 1 v n xs) : ∃ ao cap, v = .slice ao n cap := by
  rcases h.2 with ⟨rfl, rfl⟩ | ⟨g, cap, cur, rfl, _⟩
  · exact ⟨none, 0, rfl⟩
  · exact ⟨_, _, rfl⟩

/-- behind the append and the store of the new slice -/
theorem Buf.wrote {w w1 : World} {S base : Nat} {ao ao' : Option Addr} {n m cap cap' : Nat} {xs ps : List Int} {lim : Nat} {over : Bool} (h : Buf w S base ao n cap xs lim over) (hp : ps.length = m)
    (hown : w1.ownsRow base 5 1 (.slice ao' (n + m) cap') (n + m) (xs.map (Value.int .u8) ++ ps.map (Value.int .u8))) (hg : w.grownBy w1 (Value.slice ao n cap).ownBlock)
    (hnew : ∀ k, (Value.slice ao' (n + m) cap').ownBlock = some k → (Value.slice ao n cap).ownBlock = some k ∨ w.heap.size ≤ k) :
    Buf (w1.setCell ⟨S, 0, none⟩ (.slice ao' (n + m) cap')) S base ao' (n + m) cap' (xs ++ ps) lim over ∧ Touch S (Value.slice ao n cap).ownBlock (Value.slice ao' (n + m) cap').ownBlock w (w1.setCell ⟨S, 0, none⟩ (.slice ao' (n + m) cap')) := by
  have hS : S < w.heap.size := cell_lt h.c0
  have hblk := hg.block S hS (fun e => h.ne e.symm)
  have hc : ∀ o, w1.cell? ⟨S, o, none⟩ = w.cell? ⟨S, o, none⟩ := fun o => World.cell?_of_block (w := w) hblk
  have hf : ∀ o, w1.frozen? ⟨S, o, none⟩ = w.frozen? ⟨S, o, none⟩ := fun o => World.frozen?_of_block (w := w) hblk
  have hne : (Value.slice ao' (n + m) cap').ownBlock ≠ some S := fun e => by
    rcases hnew S e with h' | h'
    · exact h.ne h'
    · omega
  have d : ∀ o, o ≠ 0 → (⟨S, 0, none⟩ : Addr) ≠ ⟨S, o, none⟩ := fun o ho e => by injection e; omega
  refine ⟨⟨by rw [List.length_append, h.len, hp], ?_, ?_, ?_, ?_, ?_, ?_, hne⟩, ⟨hg.os, hg.tape, hg.output, by simpa [World.setCell] using hg.size, fun k hk h1 h2 => ?_, hnew⟩⟩
  · exact World.cell?_setCell_same _ _ _ ((hc 0).trans h.c0)
  · rw [World.cell?_setCell_other _ _ _ _ (d 1 (by omega)), hc]; exact h.c1
  · rw [World.cell?_setCell_other _ _ _ _ (d 2 (by omega)), hc]; exact h.c2
  · rw [World.frozen?_setCell, hf]; exact h.z0
  · rw [World.frozen?_setCell, hf]; exact h.z2
  · rw [List.map_append]
    refine hown.kept (row := some S) ⟨rfl, rfl, rfl, by simp [World.setCell], fun k _ hk => Below.heap_setCell _ _ _ _ (fun e => hk (by rw [e]))⟩ (.inr hne)
  · rw [Below.heap_setCell _ _ _ _ h1]
    exact hg.block k hk h2

set_option maxHeartbeats 400000 in
theorem write_fits {w : World} {S base : Nat} {ao : Option Addr} {n cap : Nat} {xs : List Int} {lim : Nat} {over : Bool} (h : Buf w S base ao n cap xs lim over) (pa : Option Addr) (m pc : Nat) (ps : List Int) (src : Src w pa m pc ps)
    (hroom : n + m ≤ lim) (hlim : lim ≤ 9223372036854775807) (hn : n ≤ 2000000) (hm : m ≤ 2000000) (hb : base ≤ w.heap.size) :
    Calls Try.prog 7 #[.pointer (some ⟨S, 0, none⟩), .slice pa m pc] w fun e w' => e = .returned (.tuple #[.int .i64 (m : Int), .nilIface]) ∧ ∃ ao' cap', Buf w' S base ao' (n + m) cap' (xs ++ ps) lim over ∧ Touch S (Value.slice ao n cap).ownBlock (Value.slice ao' (n + m) cap').ownBlock w w' := by
  obtain ⟨i0, hi, hz0, hz1, hz2⟩ := info_parts Try.info5
  have c0 := h.c0
  have c1 := h.c1
  go_enter Try.func7, Try.ntmps7
  go_wp2
  go_quiet (fail)
  go_wp2_with (at_builtin; refine wpList_append_buf _ rfl _ _ 22 rfl base 5 i0 (.int .u8 0) 1 1 Try.underlying22 hi hz0 hz1 hz2 rfl (by decide) (.slice ao n cap) n (xs.map (Value.int .u8)) rfl ?k1 pa m pc (ps.map (Value.int .u8)) rfl ?k2 ?k3 ?k4 ?k5 ?k6 ?k7 ?k8 ?_)
  case k1 => exact h.own
  case k2 => rw [List.length_map, src.len]; omega
  case k3 => exact src.none
  case k4 => exact src.cells
  case k5 => exact ints_oneCell _ _
  case k6 => unfold maxLen; omega
  case k7 => omega
  case k8 => exact hb
  intro v' w1 hown hgrow0 hnew
  have hgrow : w.grownBy w1 (Value.slice ao n cap).ownBlock := ⟨hgrow0.os, hgrow0.tape, hgrow0.output, hgrow0.size, hgrow0.block⟩
  obtain ⟨ao', cap', rfl⟩ := shape_of hown
  obtain ⟨B, T⟩ := h.wrote (w1 := w1) src.len hown hgrow hnew
  have hblk := hgrow.block S (cell_lt h.c0) (fun e => h.ne e.symm)
  have d0 : w1.cell? ⟨S, 0, none⟩ = some (.slice ao n cap) := (World.cell?_of_block (w := w) hblk).trans h.c0
  have f0 : w1.frozen? ⟨S, 0, none⟩ = false := (World.frozen?_of_block (w := w) hblk).trans h.z0
  clear hown hgrow hgrow0 hnew hblk h src c0 c1
  go_wp2
  go_ret2
  exact ⟨rfl, ao', cap', B, T⟩

theorem Buf.flag {w : World} {S base : Nat} {ao : Option Addr} {n cap : Nat} {xs : List Int} {lim : Nat} {over : Bool} (h : Buf w S base ao n cap xs lim over) (nq : Nat) : Buf ((w.drewN nq).setCell ⟨S, 2, none⟩ (.bool true)) S base ao n cap xs lim true := by
  have d : ∀ o, o ≠ 2 → (⟨S, 2, none⟩ : Addr) ≠ ⟨S, o, none⟩ := fun o ho e => by injection e; omega
  refine ⟨h.len, ?_, ?_, ?_, ?_, ?_, ?_, h.ne⟩
  · rw [World.cell?_setCell_other _ _ _ _ (d 0 (by omega))]; exact h.c0
  · rw [World.cell?_setCell_other _ _ _ _ (d 1 (by omega))]; exact h.c1
  · exact World.cell?_setCell_same _ _ _ (u := .bool over) h.c2
  · rw [World.frozen?_setCell]; exact h.z0
  · rw [World.frozen?_setCell]; exact h.z2
  · have h' : (w.drewN nq).ownsRow base 5 1 (.slice ao n cap) n (xs.map (Value.int .u8)) := h.own
    exact h'.kept (row := some S) ⟨rfl, rfl, rfl, by simp [World.setCell], fun k _ hk => Below.heap_setCell _ _ _ _ (fun e => hk (by rw [e]))⟩ (.inr h.ne)
theorem Touch.flagged {S : Nat} {r r' : Option Nat} {w w' : World} (nq : Nat) (h : Touch S r r' ((w.drewN nq).setCell ⟨S, 2, none⟩ (.bool true)) w') : Touch S r r' w w' := by
  have hs : ((w.drewN nq).setCell ⟨S, 2, none⟩ (.bool true)).heap.size = w.heap.size := by simp [World.setCell]
  refine ⟨h.os, h.tape, h.output, by have := h.size; omega, fun k hk h1 h2 => ?_, fun k hk => by have := h.new k hk; rw [hs] at this; exact this⟩
  rw [h.block k (by omega) h1 h2, Below.heap_setCell _ _ _ _ h1]
  rfl

set_option maxHeartbeats 400000 in
theorem write_over {w : World} {S base : Nat} {ao : Option Addr} {n cap : Nat} {xs : List Int} {lim : Nat} {over : Bool} (h : Buf w S base ao n cap xs lim over) (b off : Nat) (m pc : Nat) (ps : List Int) (src : Src w (some ⟨b, off, none⟩) m pc ps)
    (hbS : b ≠ S) (hmc : m ≤ pc) (hn0 : n ≤ lim) (hroom : lim < n + m) (hn : n ≤ 2000000) (hm : m ≤ 2000000) (hb : base ≤ w.heap.size) :
    Calls Try.prog 7 #[.pointer (some ⟨S, 0, none⟩), .slice (some ⟨b, off, none⟩) m pc] w fun e w' => e = .returned (.tuple #[.int .i64 (m : Int), .nilIface]) ∧ ∃ ao' cap', Buf w' S base ao' lim cap' (xs ++ ps.take (lim - n)) lim true ∧ Touch S (Value.slice ao n cap).ownBlock (Value.slice ao' lim cap').ownBlock w w' := by
  obtain ⟨i0, hi, hz0, hz1, hz2⟩ := info_parts Try.info5
  have c0 := h.c0
  have c1 := h.c1
  have c2 := h.c2
  have z2 := h.z2
  go_enter Try.func7, Try.ntmps7
  go_wp2
  go_quiet (fail)
  go_wp2_with (at_builtin; refine wpList_append_buf _ rfl _ _ 22 rfl base 5 i0 (.int .u8 0) 1 1 Try.underlying22 hi hz0 hz1 hz2 rfl (by decide) (.slice ao n cap) n (xs.map (Value.int .u8)) rfl ?k1 (some ⟨b, off, none⟩) (lim - n) pc ((ps.take (lim - n)).map (Value.int .u8)) rfl ?k2 ?k3 ?k4 ?k5 ?k6 ?k7 ?k8 ?_)
  case k1 => exact (h.flag nq).own
  case k2 => rw [List.length_map, List.length_take, src.len]; omega
  case k3 => intro e; cases e
  case k4 =>
    intro ad e j u hu
    injection e with e
    subst e
    have hj : j < lim - n := by
      have := (List.getElem?_eq_some_iff.1 hu).1
      rw [List.length_map, List.length_take] at this
      omega
    rw [List.map_take, List.getElem?_take, if_pos hj] at hu
    rw [World.cell?_setCell_other _ _ _ _ (fun e => by rw [Addr.add_lit] at e; injection e; omega)]
    exact src.cells _ rfl j u hu
  case k5 => exact ints_oneCell _ _
  case k6 => unfold maxLen; omega
  case k7 => omega
  case k8 => simpa [World.setCell] using hb
  intro v' w1 hown0 hgrow hnew
  have en : n + (lim - n) = lim := by omega
  have hown : w1.ownsRow base 5 1 v' (n + (lim - n)) (xs.map (Value.int .u8) ++ (ps.take (lim - n)).map (Value.int .u8)) := by rw [en, List.map_take]; exact hown0
  obtain ⟨ao', cap', rfl⟩ := shape_of hown
  have hF := h.flag nq
  have hsz : ((w.drewN nq).setCell ⟨S, 2, none⟩ (.bool true)).heap.size = w.heap.size := by simp [World.setCell]
  obtain ⟨B, T⟩ := hF.wrote (w1 := w1) (m := lim - n) (by rw [List.length_take, src.len]; omega) hown hgrow (by rw [hsz]; exact hnew)
  have T' := T.flagged nq
  have hblk := hgrow.block S (cell_lt hF.c0) (fun e => hF.ne e.symm)
  have d0 : w1.cell? ⟨S, 0, none⟩ = some (.slice ao n cap) := (World.cell?_of_block (w := (w.drewN nq).setCell ⟨S, 2, none⟩ (.bool true)) hblk).trans hF.c0
  have f0 : w1.frozen? ⟨S, 0, none⟩ = false := (World.frozen?_of_block (w := (w.drewN nq).setCell ⟨S, 2, none⟩ (.bool true)) hblk).trans hF.z0
  rw [en] at B T'
  clear hown hown0 hgrow hnew hblk h src c0 c1 c2 z2 T hF hsz
  rw [en]
  clear en
  go_wp2
  go_ret2
  exact ⟨rfl, ao', cap', B, T'⟩
end Go.Proofs.Qxb6623288a
