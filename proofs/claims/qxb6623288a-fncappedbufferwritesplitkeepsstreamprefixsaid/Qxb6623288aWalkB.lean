/-
  The walks over zzBytes_.., zzCloneBytes, ZZNewCappedBuffer, the two readers, zzIsStreamPrefix.
-/
import Derived.Test.Qxb6623288aWalkA
namespace Go.Proofs.Qxb6623288a
open Go.RowKit

theorem cell_lt {w : World} {a : Addr} {v : Value} (h : w.cell? a = some v) : a.block < w.heap.size := by
  rcases Nat.lt_or_ge a.block w.heap.size with h1 | h1
  · exact h1
  · simp [World.cell?, Array.getElem?_eq_none h1] at h

/-- a row of bytes that may be read: nothing is asked of an empty one -/
def RowIs (w : World) (a : Option Addr) (zs : List Int) : Prop :=
  zs.length = 0 ∨ ∃ b off, a = some ⟨b, off, none⟩ ∧ ∀ i, i < zs.length → w.cell? ⟨b, off + i, none⟩ = some (.int .u8 (zs.getD i 0))
theorem RowIs.below {w w' : World} {a : Option Addr} {zs : List Int} {B : Nat} (h : RowIs w a zs) (hb : Below B w w') (hB : w.heap.size ≤ B) : RowIs w' a zs := by
  rcases h with h | ⟨b, off, h1, h2⟩
  · exact .inl h
  · exact .inr ⟨b, off, h1, fun i hi => by have hl := cell_lt (h2 i hi); exact (hb.cell (Nat.lt_of_lt_of_le hl hB)).trans (h2 i hi)⟩

theorem bytes_any (a : Option Addr) (len cap : Nat) (x : Int) (o : Bool) (a' : Option Addr) (len' cap' : Nat) (y : Int) (w : World) (h1 : len ≤ 524288) (h2 : len' ≤ 524288) :
    Calls Try.prog 4 #[.slice a len cap, .int .i64 x, .bool o, .slice a' len' cap', .int .i64 y] w fun e w' => e = .returned (.bool true) ∧ w' = w := by
  go_enter Try.func4, Try.ntmps4
  go_wp2
  go_ret
  exact ⟨rfl, rfl⟩
/-- it returns one bool -/
def AnsB (e : Ending) : Prop := ∃ r : Bool, e = .returned (.bool r)
theorem bytes_big (a : Option Addr) (len cap : Nat) (x : Int) (o : Bool) (a' : Option Addr) (len' cap' : Nat) (y : Int) (w : World) (h1 : len ≤ maxLen) (h2 : len' ≤ maxLen) :
    Calls Try.prog 4 #[.slice a len cap, .int .i64 x, .bool o, .slice a' len' cap', .int .i64 y] w fun e w' => AnsB e ∧ w' = w := by
  unfold maxLen at h1 h2
  go_enter Try.func4, Try.ntmps4
  go_wp2
  all_goals (go_ret; exact ⟨⟨_, rfl⟩, rfl⟩)

theorem buf_get (S : Nat) (ao : Option Addr) (len cap : Nat) (w : World) (h : w.cell? ⟨S, 0, none⟩ = some (.slice ao len cap)) :
    Calls Try.prog 10 #[.pointer (some ⟨S, 0, none⟩)] w fun e w' => e = .returned (.slice ao len cap) ∧ w' = w := by
  go_enter Try.func10, Try.ntmps10
  go_wp2
  go_ret
  exact ⟨rfl, rfl⟩
theorem over_get (S : Nat) (o : Bool) (w : World) (h : w.cell? ⟨S, 2, none⟩ = some (.bool o)) :
    Calls Try.prog 8 #[.pointer (some ⟨S, 0, none⟩)] w fun e w' => e = .returned (.bool o) ∧ w' = w := by
  go_enter Try.func8, Try.ntmps8
  go_wp2
  go_ret
  exact ⟨rfl, rfl⟩
theorem new_buf (a : Option Addr) (len cap : Nat) (n : Int) (o : Bool) (w : World) :
    Calls Try.prog 6 #[.slice a len cap, .int .i64 n, .bool o] w fun e w' => e = .returned (.pointer (some ⟨w.heap.size, 0, none⟩)) ∧ w' = w.alloc (.cells #[.slice a len cap, .int .i64 n, .bool o] 35) := by
  go_enter Try.func6, Try.ntmps6
  go_wp2
  go_ret
  exact ⟨rfl, rfl⟩

/-! ### zzCloneBytes -/
theorem Try.info5 : (Try.prog.info? 5).map (fun i => (i.zero, i.size, i.bytes)) = some (some (.int .u8 0), 1, 1) := by kernel_rfl
theorem eqnil (w : World) (a : Option Addr) (n c n' c' : Nat) : (binOp .eql 22 (.slice a n c) (.slice none n' c')).run Try.prog w = .ok (.bool a.isNone) w :=
  Lib.run_eql_slice_nil w 22 5 a n c n' c' Try.underlying22
theorem clone_nil (cap : Nat) (w : World) :
    Calls Try.prog 5 #[.slice none 0 cap] w fun e w' => e = .returned (.slice none 0 0) ∧ w' = w := by
  have q22 := eqnil
  go_enter Try.func5, Try.ntmps5
  go_wp2
  go_ret
  exact ⟨rfl, rfl⟩

/-- the first k of zs copied, the rest still zero -/
def part (zs : List Int) (k : Nat) : List Int := zs.take k ++ List.replicate (zs.length - k) 0
theorem part_len (zs : List Int) (k : Nat) (hk : k ≤ zs.length) : (part zs k).length = zs.length := by simp [part]; omega
theorem part_step (zs : List Int) (k : Nat) (hk : k < zs.length) : (part zs k).set k (zs.getD k 0) = part zs (k + 1) := by
  apply List.ext_getElem?
  intro j
  have hl := part_len zs k (by omega)
  rw [List.getElem?_set]
  by_cases e : k = j
  · subst e
    rw [if_pos rfl, if_pos (by omega)]
    simp only [part]
    rw [List.getElem?_append_left (by simp; omega), List.getElem?_take, if_pos (by omega)]
    simp [hk]
  · rw [if_neg e]
    simp only [part]
    by_cases e2 : j < k
    · rw [List.getElem?_append_left (by simp; omega), List.getElem?_append_left (by simp; omega), List.getElem?_take, List.getElem?_take, if_pos e2, if_pos (by omega)]
    · rw [List.getElem?_append_right (by simp; omega), List.getElem?_append_right (by simp; omega), List.getElem?_replicate, List.getElem?_replicate]
      simp only [List.length_take]
      by_cases e3 : j < zs.length
      · rw [if_pos (by omega), if_pos (by omega)]
      · rw [if_neg (by omega), if_neg (by omega)]

set_option maxHeartbeats 400000 in
theorem clone_some (x : Addr) (len cap : Nat) (zs : List Int) (w : World) (HL : Hid (zs.length = len)) (hr : RowIs w (some x) zs) (hl : len ≤ 524288) :
    Calls Try.prog 5 #[.slice (some x) len cap] w fun e w' => e = .returned (.slice (some ⟨w.heap.size, 0, none⟩) len len) ∧ w'.ownsRow w.heap.size 5 1 (.slice (some ⟨w.heap.size, 0, none⟩) len len) len (zs.map (Value.int .u8)) ∧ Below w.heap.size w w' := by
  obtain ⟨i0, hi, hz0, hz1, hz2⟩ := info_parts Try.info5
  have q22 := eqnil
  go_enter Try.func5, Try.ntmps5
  go_wp2_with (at_make; refine wpList_make_full _ rfl _ _ 22 rfl w.heap.size 5 i0 (.int .u8 0) 1 Try.underlying22 hi hz0 hz1 _ _ _ _ len rfl rfl rfl rfl ?b2 ?b3 ?b4 ?_)
  case b2 => rw [hz2]; omega
  case b3 => unfold maxLen; omega
  case b4 => exact Nat.le_refl _
  intro w1 hown hgrow
  have hO : w1.ownsRow w.heap.size 5 1 (.slice (some ⟨w.heap.size, 0, none⟩) len len) len ((part zs 0).map (Value.int .u8)) := by
    have e : (madeCells #[Value.int IntKind.u8 0] len).toList = (part zs 0).map (Value.int .u8) := by rw [toList_madeCells_one, ← HL.out]; simp [part]
    rw [← e]; exact hown
  have hB := (Below.refl w.heap.size w).grown hgrow (Nat.le_refl _) (fun k h => by cases h)
  clear hown hgrow q22
  go_wp2
  go_loopw [4] (fun i wr => ∃ k : Nat, k ≤ len ∧ i = .int .i64 k ∧ wr.ownsRow w.heap.size 5 1 (.slice (some ⟨w.heap.size, 0, none⟩) len len) len ((part zs k).map (Value.int .u8)) ∧ Below w.heap.size w wr) (fun i _ => len - (intOf i).toNat)
  case atStart => exact ⟨0, Nat.zero_le _, rfl, hO, hB⟩
  case round =>
    obtain ⟨k, hk, rfl, hO1, hB1⟩ := hrel
    clear hO hB
    by_cases hlt : k < len
    · obtain ⟨b, off, e, hc⟩ := hr.resolve_left (by rw [HL.out]; omega)
      injection e with e
      subst e
      have h0 := hc k (by rw [HL.out]; exact hlt)
      have h1 := (hB1.cell (cell_lt h0)).trans h0
      have h2 : wr.cell? ⟨w.heap.size, k, none⟩ = some (.int .u8 ((part zs k).getD k 0)) := by
        rw [hO1.cellAt k (by omega)]
        have := part_len zs k (by rw [HL.out]; omega)
        simp [show k < (part zs k).length by rw [this, HL.out]; exact hlt]
      have h3 := hO1.frozenAt k
      have hO2 := (hO1.stored k (.int .u8 (zs.getD k 0))).1
      rw [← List.map_set, part_step zs k (by rw [HL.out]; exact hlt)] at hO2
      have hB2 := hB1.setCell (p := ⟨w.heap.size, k, none⟩) (Nat.le_refl _) (.int .u8 (zs.getD k 0))
      generalize (part zs k).getD k 0 = q at *
      generalize zs.getD k 0 = z at *
      clear h0 hO1 hB1 hc hr
      go_wp2
      go_roundw
      case rel => exact ⟨k + 1, by omega, by go_num, hO2, hB2⟩
      case measure => simp [intOf]; omega
    · have e : k = len := by omega
      subst e
      go_wp2
      go_ret
      have e : part zs k = zs := by unfold part; rw [HL.out.symm]; simp
      rw [e] at hO1
      exact ⟨rfl, hO1, hB1⟩

theorem clone_any (a : Option Addr) (len cap : Nat) (zs : List Int) (w : World) (HL : zs.length = len) (hr : RowIs w a zs) (ha : a = none → len = 0) (hl : len ≤ 524288) :
    Calls Try.prog 5 #[.slice a len cap] w fun e w' => ∃ ao cap', e = .returned (.slice ao len cap') ∧ w'.ownsRow w.heap.size 5 1 (.slice ao len cap') len (zs.map (Value.int .u8)) ∧ Below w.heap.size w w' := by
  cases a with
  | none =>
    obtain rfl := ha rfl
    have e : zs = [] := List.eq_nil_of_length_eq_zero HL
    subst e
    refine (clone_nil cap w).mono ?_
    rintro e w' ⟨rfl, rfl⟩
    exact ⟨_, _, rfl, World.ownsRow_nil _ _ _ _, Below.refl _ _⟩
  | some x =>
    refine (clone_some x len cap zs w HL hr hl).mono ?_
    rintro e w' ⟨rfl, o, b⟩
    exact ⟨_, _, rfl, o, b⟩

/-! ### zzIsStreamPrefix: got is the head of hs ++ ts -/
set_option maxHeartbeats 400000 in
theorem prefix_any (a1 : Option Addr) (k1 c1 : Nat) (a2 : Option Addr) (k2 c2 : Nat) (a3 : Option Addr) (k3 c3 : Nat) (gs hs ts : List Int) (w : World)
    (r1 : RowIs w a1 gs) (r2 : RowIs w a2 hs) (r3 : RowIs w a3 ts) (e1 : Hid (gs.length = k1)) (e2 : Hid (hs.length = k2)) (e3 : Hid (ts.length = k3)) (hg : Hid (gs = (hs ++ ts).take k1)) (hl : k1 ≤ 2000000) :
    Calls Try.prog 9 #[.slice a1 k1 c1, .slice a2 k2 c2, .slice a3 k3 c3, .int .i64 (k1 : Int)] w fun e w' => e = .returned (.bool true) ∧ w' = w := by
  have hk : k1 ≤ k2 + k3 := by have := congrArg List.length hg.out; rw [e1.out, List.length_take, List.length_append, e2.out, e3.out] at this; omega
  go_enter Try.func9, Try.ntmps9
  go_wp2
  go_loop [9] (fun i => ∃ j : Nat, j ≤ k1 ∧ i = .int .i64 j) (fun i => k1 - (intOf i).toNat)
  case atStart => exact ⟨0, Nat.zero_le _, rfl⟩
  case round =>
    obtain ⟨j, hj, rfl⟩ := hrel
    by_cases hlt : j < k1
    · obtain ⟨b, off, rfl, h1⟩ := r1.resolve_left (by rw [e1.out]; omega)
      have g1 := h1 j (by rw [e1.out]; exact hlt)
      by_cases h2 : j < k2
      · obtain ⟨b', off', rfl, h2'⟩ := r2.resolve_left (by rw [e2.out]; omega)
        have g2 := h2' j (by rw [e2.out]; exact h2)
        have e : hs.getD j 0 = gs.getD j 0 := by
          rw [hg.out]
          simp only [List.getD_eq_getElem?_getD]
          rw [List.getElem?_take, if_pos hlt, List.getElem?_append_left (by rw [e2.out]; exact h2)]
        rw [e] at g2
        generalize gs.getD j 0 = q at *
        clear h1 h2' e
        go_wp2
        go_round
        case rel => exact ⟨j + 1, by omega, by go_num⟩
        case measure => simp [intOf]; omega
      · obtain ⟨b', off', rfl, h3'⟩ := r3.resolve_left (by rw [e3.out]; omega)
        have g2 := h3' (j - k2) (by rw [e3.out]; omega)
        have e : ts.getD (j - k2) 0 = gs.getD j 0 := by
          rw [hg.out]
          simp only [List.getD_eq_getElem?_getD]
          rw [List.getElem?_take, if_pos hlt, List.getElem?_append_right (by rw [e2.out]; omega), e2.out]
        rw [e] at g2
        generalize gs.getD j 0 = q at *
        clear h1 h3' e
        go_wp2
        go_round
        case rel => exact ⟨j + 1, by omega, by go_num⟩
        case measure => simp [intOf]; omega
    · go_wp2
      go_ret
      exact ⟨rfl, rfl⟩
end Go.Proofs.Qxb6623288a
