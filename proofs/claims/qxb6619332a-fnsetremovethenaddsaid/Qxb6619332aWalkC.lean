/-
  The walks over zzClone, ZZNewSet, ZZWords, ZZLen, ZZN, zzWellFormed, zzEqual, zzWith, zzWithout.
-/
import Derived.Test.Qxb6619332aWalkB
namespace Go.Proofs.Qxb6619332a
open Go.RowKit Pl

theorem cell_lt {w : World} {a : Addr} {v : Value} (h : w.cell? a = some v) : a.block < w.heap.size := by
  rcases Nat.lt_or_ge a.block w.heap.size with h1 | h1
  · exact h1
  · simp [World.cell?, Array.getElem?_eq_none h1] at h
theorem Own.below {w w' : World} {a : Option Addr} {len : Nat} {f : Nat → Nat} {b : Nat} (h : Own w a len f b) (hb : Below w.heap.size w w') : Own w' a len f b := by
  rcases h with h | ⟨h1, h2⟩
  · exact .inl h
  · exact .inr ⟨h1, fun i hi => by have hl := cell_lt (h2 i hi).1; exact ⟨(hb.cell hl).trans (h2 i hi).1, (hb.frozen hl).trans (h2 i hi).2⟩⟩
theorem RowIs.below {w w' : World} {a : Option Addr} {len : Nat} {f : Nat → Nat} (h : RowIs w a len f) (hb : Below w.heap.size w w') : RowIs w' a len f := by
  rcases h with h | ⟨b, off, h1, h2⟩
  · exact .inl h
  · exact .inr ⟨b, off, h1, fun i hi => by have hl := cell_lt (h2 i hi); exact (hb.cell hl).trans (h2 i hi)⟩
theorem Own.lt {w : World} {a : Option Addr} {len : Nat} {f : Nat → Nat} {b : Nat} (h : Own w a len f b) : len = 0 ∨ b < w.heap.size := by
  rcases h with h | ⟨h1, h2⟩
  · exact .inl h
  · by_cases e : len = 0
    · exact .inl e
    · exact .inr (cell_lt (h2 0 (by omega)).1)

theorem Own.some {w : World} {a : Option Addr} {len : Nat} {f : Nat → Nat} {b k : Nat} (h : Own w a len f b) (hk : k < len) : ∃ v, w.cell? ⟨b, k, none⟩ = some v := by
  rcases h with h | ⟨_, h2⟩
  · omega
  · exact ⟨_, (h2 k hk).1⟩
theorem Own.thaw {w : World} {a : Option Addr} {len : Nat} {f : Nat → Nat} {b k : Nat} (h : Own w a len f b) (hk : k < len) : w.frozen? ⟨b, k, none⟩ = false := by
  rcases h with h | ⟨_, h2⟩
  · omega
  · exact (h2 k hk).2
theorem Own.same {w : World} {a : Option Addr} {len : Nat} {f g : Nat → Nat} {b : Nat} (h : Own w a len f b) (hg : ∀ i, i < len → f i = g i) : Own w a len g b := by
  rcases h with h | ⟨h1, h2⟩
  · exact .inl h
  · exact .inr ⟨h1, fun i hi => by rw [← hg i hi]; exact h2 i hi⟩
theorem Own.set {w : World} {a : Option Addr} {len : Nat} {f : Nat → Nat} {b k y : Nat} (h : Own w a len f b) (hk : k < len) : Own (w.setCell ⟨b, k, none⟩ (.int .u64 (y : Int))) a len (upd f k y) b := by
  rcases h with h | ⟨h1, h2⟩
  · exact .inl h
  · refine .inr ⟨h1, fun i hi => ⟨?_, by rw [World.frozen?_setCell]; exact (h2 i hi).2⟩⟩
    by_cases e : i = k
    · subst e
      rw [World.cell?_setCell_same _ _ _ (h2 i hi).1]
      simp [upd]
    · rw [World.cell?_setCell_other _ _ _ _ (fun h => by injection h; omega), (h2 i hi).1]
      simp [upd, e]
theorem Own.copied {w : World} {a : Option Addr} {len b k : Nat} (f : Nat → Nat) (h : Own w a len (fun j => if j < k then f j else 0) b) (hk : k < len) : Own (w.setCell ⟨b, k, none⟩ (.int .u64 (f k : Int))) a len (fun j => if j < k + 1 then f j else 0) b := by
  refine (h.set (y := f k) hk).same fun i hi => ?_
  show (if i = k then f k else if i < k then f i else 0) = if i < k + 1 then f i else 0
  by_cases e : i = k
  · subst e; simp
  · by_cases e2 : i < k
    · rw [if_neg e, if_pos e2, if_pos (by omega)]
    · rw [if_neg e, if_neg e2, if_neg (by omega)]
theorem own_made {w : World} {g len : Nat} (h : w.ownsRow g 35 1 (.slice (some ⟨g, 0, none⟩) len len) len (madeCells #[Value.int IntKind.u64 0] len).toList) : Own w (some ⟨g, 0, none⟩) len (fun _ => 0) g := by
  refine .inr ⟨rfl, fun i hi => ⟨?_, h.frozenAt i⟩⟩
  rw [h.cellAt i (by omega), toList_madeCells_one]
  simp [hi]

theorem words_get (S : Nat) (a : Option Addr) (len cap : Nat) (w : World) (h : w.cell? ⟨S, 0, none⟩ = some (.slice a len cap)) :
    Calls Try.prog 16 #[.pointer (some ⟨S, 0, none⟩)] w fun e w' => e = .returned (.slice a len cap) ∧ w' = w := by
  go_enter Try.func16, Try.ntmps16
  go_wp2
  go_ret
  exact ⟨rfl, rfl⟩
theorem len_get (S : Nat) (ln : Int) (w : World) (h : w.cell? ⟨S, 2, none⟩ = some (.int .i64 ln)) :
    Calls Try.prog 17 #[.pointer (some ⟨S, 0, none⟩)] w fun e w' => e = .returned (.int .i64 ln) ∧ w' = w := by
  go_enter Try.func17, Try.ntmps17
  go_wp2
  go_ret
  exact ⟨rfl, rfl⟩
theorem n_get (S : Nat) (n : Int) (w : World) (h : w.cell? ⟨S, 1, none⟩ = some (.int .i64 n)) :
    Calls Try.prog 21 #[.pointer (some ⟨S, 0, none⟩)] w fun e w' => e = .returned (.int .i64 n) ∧ w' = w := by
  go_enter Try.func21, Try.ntmps21
  go_wp2
  go_ret
  exact ⟨rfl, rfl⟩
theorem new_set (a : Option Addr) (len cap : Nat) (n ln : Int) (w : World) :
    Calls Try.prog 12 #[.slice a len cap, .int .i64 n, .int .i64 ln] w fun e w' => e = .returned (.pointer (some ⟨w.heap.size, 0, none⟩)) ∧ w' = w.alloc (.cells #[.slice a len cap, .int .i64 n, .int .i64 ln] 38) := by
  go_enter Try.func12, Try.ntmps12
  go_wp2
  go_ret
  exact ⟨rfl, rfl⟩

theorem eqnil (w : World) (a : Option Addr) (n c n' c' : Nat) : (binOp .eql 22 (.slice a n c) (.slice none n' c')).run Try.prog w = .ok (.bool a.isNone) w :=
  Lib.run_eql_slice_nil w 22 35 a n c n' c' Try.underlying22
theorem clone_nil (cap : Nat) (w : World) :
    Calls Try.prog 10 #[.slice none 0 cap] w fun e w' => e = .returned (.slice none 0 0) ∧ w' = w := by
  have q22 := eqnil
  go_enter Try.func10, Try.ntmps10
  go_wp2
  go_ret
  exact ⟨rfl, rfl⟩

theorem Try.info35 : (Try.prog.info? 35).map (fun i => (i.zero, i.size, i.bytes)) = some (some (.int .u64 0), 1, 8) := by kernel_rfl

set_option maxHeartbeats 400000 in
theorem clone_some (b off len cap : Nat) (f : Nat → Nat) (w : World) (hc : ∀ i, i < len → w.cell? ⟨b, off + i, none⟩ = some (.int .u64 (f i : Int))) (hl : len ≤ 65536) :
    Calls Try.prog 10 #[.slice (some ⟨b, off, none⟩) len cap] w fun e w' => e = .returned (.slice (some ⟨w.heap.size, 0, none⟩) len len) ∧ Own w' (some ⟨w.heap.size, 0, none⟩) len f w.heap.size ∧ Below w.heap.size w w' := by
  obtain ⟨i0, hi, hz0, hz1, hz2⟩ := info_parts Try.info35
  have q22 := eqnil
  go_enter Try.func10, Try.ntmps10
  go_wp2_with (at_make; refine wpList_make_full _ rfl _ _ 22 rfl w.heap.size 35 i0 (.int .u64 0) 1 Try.underlying22 hi hz0 hz1 _ _ _ _ len rfl rfl rfl rfl ?b2 ?b3 ?b4 ?_)
  case b2 => rw [hz2]; omega
  case b3 => unfold maxLen; omega
  case b4 => exact Nat.le_refl _
  intro w1 hown hgrow
  have hO := own_made hown
  have hB := (Below.refl w.heap.size w).grown hgrow (Nat.le_refl _) (fun k h => by cases h)
  clear hown hgrow q22
  go_wp2
  go_loopw [4] (fun i wr => ∃ k : Nat, k ≤ len ∧ i = .int .i64 k ∧ Own wr (some ⟨w.heap.size, 0, none⟩) len (fun j => if j < k then f j else 0) w.heap.size ∧ Below w.heap.size w wr) (fun i _ => len - (intOf i).toNat)
  case atStart => exact ⟨0, Nat.zero_le _, rfl, by simpa using hO, hB⟩
  case round =>
    obtain ⟨k, hk, rfl, hO1, hB1⟩ := hrel
    by_cases hlt : k < len
    · have h0 := hc k hlt
      have h1 : wr.cell? ⟨b, off + k, none⟩ = some (.int .u64 (f k : Int)) := (hB1.cell (cell_lt h0)).trans h0
      obtain ⟨v2, h2⟩ := hO1.some hlt
      have h3 := hO1.thaw hlt
      have hO2 := hO1.copied f hlt
      have hB2 := hB1.setCell (p := ⟨w.heap.size, k, none⟩) (Nat.le_refl _) (.int .u64 (f k : Int))
      clear h0 hO1 hB1 hO hB
      go_wp2
      go_roundw
      case rel => exact ⟨k + 1, by omega, by go_num, hO2, hB2⟩
      case measure => simp [intOf]; omega
    · clear hO hB
      go_wp2
      go_ret
      exact ⟨rfl, hO1.same (fun i hi => by show (if i < k then f i else 0) = f i; rw [if_pos (by omega)]), hB1⟩

set_option maxHeartbeats 400000 in
theorem clone_empty (x : Addr) (cap : Nat) (w : World) :
    Calls Try.prog 10 #[.slice (some x) 0 cap] w fun e w' => e = .returned (.slice (some ⟨w.heap.size, 0, none⟩) 0 0) ∧ Below w.heap.size w w' := by
  obtain ⟨i0, hi, hz0, hz1, hz2⟩ := info_parts Try.info35
  have q22 := eqnil
  go_enter Try.func10, Try.ntmps10
  go_wp2_with (at_make; refine wpList_make_full _ rfl _ _ 22 rfl w.heap.size 35 i0 (.int .u64 0) 1 Try.underlying22 hi hz0 hz1 _ _ _ _ 0 rfl rfl rfl rfl ?b2 ?b3 ?b4 ?_)
  case b2 => omega
  case b3 => unfold maxLen; omega
  case b4 => exact Nat.le_refl _
  intro w1 hown hgrow
  have hB := (Below.refl w.heap.size w).grown hgrow (Nat.le_refl _) (fun k h => by cases h)
  clear hown hgrow q22
  go_wp2
  go_loop [4] (fun i => i = .int .i64 0) (fun _ => 0)
  case atStart => rfl
  case round =>
    obtain rfl := hrel
    go_wp2
    go_ret
    exact ⟨rfl, hB⟩

theorem clone_any (a : Option Addr) (len cap : Nat) (f : Nat → Nat) (w : World) (hr : RowIs w a len f) (hl : len ≤ 65536) :
    Calls Try.prog 10 #[.slice a len cap] w fun e w' => ∃ a' cap', e = .returned (.slice a' len cap') ∧ Own w' a' len f w.heap.size ∧ Below w.heap.size w w' := by
  rcases hr with rfl | ⟨b, off, rfl, hc⟩
  · cases a with
    | none =>
      refine (clone_nil cap w).mono ?_
      rintro e w' ⟨rfl, rfl⟩
      exact ⟨_, _, rfl, .inl rfl, Below.refl _ _⟩
    | some x =>
      refine (clone_empty x cap w).mono ?_
      rintro e w' ⟨rfl, hb⟩
      exact ⟨_, _, rfl, .inl rfl, hb⟩
  · refine (clone_some b off len cap f w hc hl).mono ?_
    rintro e w' ⟨rfl, ho, hb⟩
    exact ⟨_, _, rfl, ho, hb⟩

set_option maxHeartbeats 400000 in
theorem with_any (a : Option Addr) (len cap k : Nat) (f : Nat → Nat) (w : World) (hr : RowIs w a len f) (hW : Words f len) (hl : len ≤ 65536) (hk : k / 64 < len) :
    Calls Try.prog 14 #[.slice a len cap, .int .i64 (k : Int)] w fun e w' => ∃ a' cap', e = .returned (.slice a' len cap') ∧ Own w' a' len (withB f k) w.heap.size ∧ Below w.heap.size w w' := by
  have hk' : k < 4194304 := by omega
  go_enter Try.func14, Try.ntmps14
  go_wp2_with fail
  refine (clone_any a len cap f _ hr hl).mono ?_
  rintro e w1 ⟨a', cap', rfl, ho, hb⟩
  obtain ⟨rfl, hr1⟩ := ho.resolve_left (by omega)
  have h1 := (hr1 _ hk).1
  have h2 := (hr1 _ hk).2
  have hs := bits_set (f (k / 64)) (k % 64) (by omega) (hW _ hk)
  have HO : Hid (Own (w1.setCell ⟨w.heap.size, k / 64, none⟩ (.int .u64 ((f (k / 64) ||| 2 ^ (k % 64) : Nat) : Int))) (some ⟨w.heap.size, 0, none⟩) len (withB f k) w.heap.size) := ho.set hk
  have HB : Hid (Below w.heap.size w (w1.setCell ⟨w.heap.size, k / 64, none⟩ (.int .u64 ((f (k / 64) ||| 2 ^ (k % 64) : Nat) : Int)))) := hb.setCell (Nat.le_refl _) _
  generalize (f (k / 64) ||| 2 ^ (k % 64)) = y at *
  generalize f (k / 64) = x at *
  clear hr1 hb ho hr
  go_wp2
  go_ret
  exact ⟨_, _, rfl, HO.out, HB.out⟩
set_option maxHeartbeats 400000 in
theorem without_any (a : Option Addr) (len cap k : Nat) (f : Nat → Nat) (w : World) (hr : RowIs w a len f) (hW : Words f len) (hl : len ≤ 65536) (hk : k / 64 < len) :
    Calls Try.prog 20 #[.slice a len cap, .int .i64 (k : Int)] w fun e w' => ∃ a' cap', e = .returned (.slice a' len cap') ∧ Own w' a' len (without f k) w.heap.size ∧ Below w.heap.size w w' := by
  have hk' : k < 4194304 := by omega
  go_enter Try.func20, Try.ntmps20
  go_wp2_with fail
  refine (clone_any a len cap f _ hr hl).mono ?_
  rintro e w1 ⟨a', cap', rfl, ho, hb⟩
  obtain ⟨rfl, hr1⟩ := ho.resolve_left (by omega)
  have h1 := (hr1 _ hk).1
  have h2 := (hr1 _ hk).2
  have hs := bits_clr (f (k / 64)) (k % 64) (by omega) (hW _ hk)
  have HO : Hid (Own (w1.setCell ⟨w.heap.size, k / 64, none⟩ (.int .u64 ((f (k / 64) &&& (18446744073709551615 - 2 ^ (k % 64)) : Nat) : Int))) (some ⟨w.heap.size, 0, none⟩) len (without f k) w.heap.size) := ho.set hk
  have HB : Hid (Below w.heap.size w (w1.setCell ⟨w.heap.size, k / 64, none⟩ (.int .u64 ((f (k / 64) &&& (18446744073709551615 - 2 ^ (k % 64)) : Nat) : Int)))) := hb.setCell (Nat.le_refl _) _
  generalize (f (k / 64) &&& (18446744073709551615 - 2 ^ (k % 64))) = y at *
  generalize f (k / 64) = x at *
  clear hr1 hb ho hr
  go_wp2
  go_ret
  exact ⟨_, _, rfl, HO.out, HB.out⟩

set_option maxHeartbeats 400000 in
theorem equal_some (b off b' off' len cap cap' : Nat) (f : Nat → Nat) (w : World) (hc : ∀ i, i < len → w.cell? ⟨b, off + i, none⟩ = some (.int .u64 (f i : Int))) (hc' : ∀ i, i < len → w.cell? ⟨b', off' + i, none⟩ = some (.int .u64 (f i : Int))) (hl : len ≤ 65536) :
    Calls Try.prog 15 #[.slice (some ⟨b, off, none⟩) len cap, .slice (some ⟨b', off', none⟩) len cap'] w fun e w' => e = .returned (.bool true) ∧ ∃ m, w' = w.drewN m := by
  go_enter Try.func15, Try.ntmps15
  go_wp2
  go_loopw [5] (fun i wr => ∃ k m : Nat, k ≤ len ∧ i = .int .i64 k ∧ wr = w.drewN m) (fun i _ => len - (intOf i).toNat)
  case atStart => exact ⟨0, 0, Nat.zero_le _, rfl, rfl⟩
  case round =>
    obtain ⟨k, m, hk, rfl, rfl⟩ := hrel
    by_cases hlt : k < len
    · have h1 := hc k hlt
      have h2 := hc' k hlt
      have hlt' : (k : Int) < (len : Int) := by omega
      have hne : ((f k : Int) != (f k : Int)) = false := by simp
      go_wp2
      go_quiet (fail)
      go_wp2
      go_roundw
      case rel => exact ⟨k + 1, _, by omega, by go_num, rfl⟩
      case measure => simp [intOf]; omega
    · go_wp2
      go_ret
      exact ⟨rfl, _, rfl⟩
theorem equal_none (a a' : Option Addr) (cap cap' : Nat) (w : World) :
    Calls Try.prog 15 #[.slice a 0 cap, .slice a' 0 cap'] w fun e w' => e = .returned (.bool true) ∧ ∃ m, w' = w.drewN m := by
  go_enter Try.func15, Try.ntmps15
  go_wp2
  go_loop [5] (fun i => i = .int .i64 0) (fun _ => 0)
  case atStart => rfl
  case round =>
    obtain rfl := hrel
    go_wp2
    go_ret
    exact ⟨rfl, 0, rfl⟩
theorem equal_any (a a' : Option Addr) (len cap cap' : Nat) (f g : Nat → Nat) (w : World) (h : RowIs w a len f) (h' : RowIs w a' len g) (hfg : ∀ i, i < len → f i = g i) (hl : len ≤ 65536) :
    Calls Try.prog 15 #[.slice a len cap, .slice a' len cap'] w fun e w' => e = .returned (.bool true) ∧ ∃ m, w' = w.drewN m := by
  rcases h with rfl | ⟨b, off, rfl, hc⟩
  · exact equal_none a a' cap cap' w
  · rcases h' with rfl | ⟨b', off', rfl, hc'⟩
    · exact equal_none _ _ cap cap' w
    · exact equal_some b off b' off' len cap cap' f w hc (fun i hi => by rw [hfg i hi]; exact hc' i hi) hl

/-! ### zzWellFormed -/
def wfB (f : Nat → Nat) (len n : Nat) (ln : Int) : Bool := decide (len = (n + 63) / 64 ∧ (n % 64 ≠ 0 → f (len - 1) / 2 ^ (n % 64) = 0) ∧ ln = (psum f len : Int))
theorem shr_ne (x i : Nat) (h : x / 2 ^ i ≠ 0) : ((x : Int) / 2 ^ i != 0) = true := by
  have e1 : ((x : Int) / 2 ^ i) = ((x / 2 ^ i : Nat) : Int) := by simp
  rw [e1, bne_iff_ne]; omega
theorem shr_eq (x i : Nat) (h : x / 2 ^ i = 0) : ((x : Int) / 2 ^ i != 0) = false := by
  have e1 : ((x : Int) / 2 ^ i) = ((x / 2 ^ i : Nat) : Int) := by simp
  rw [e1, h]; rfl

set_option maxHeartbeats 400000 in
theorem wf_any (a : Option Addr) (len cap n : Nat) (ln : Int) (f : Nat → Nat) (w : World) (hr : RowIs w a len f) (hW : Words f len) (hl : len ≤ 65536) (hn : n ≤ 4194304) :
    Calls Try.prog 9 #[.slice a len cap, .int .i64 (n : Int), .int .i64 ln] w fun e w' => e = .returned (.bool (wfB f len n ln)) ∧ w' = w := by
  have hp := pop_any a len cap f w hr hW hl
  by_cases h1 : len = (n + 63) / 64
  · by_cases h2 : n % 64 = 0
    · have e : wfB f len n ln = decide (ln = (psum f len : Int)) := by unfold wfB; simp only [h2, ne_eq, not_true_eq_false, false_implies, true_and]; rw [← h1]; simp
      rw [e]
      have H1 : Hid (len = (n + 63) / 64) := h1
      have t1 : ((len : Int) != ((n : Int) + 63) / 64) = false := by simp; omega
      have t2 : ((n : Int) % 64 != 0) = false := by simp; omega
      clear h1 h2 e
      go_enter Try.func9, Try.ntmps9
      go_wp2_with (go_at_call 18; refine hp.mono ?_; rintro e w' ⟨rfl, rfl⟩)
      go_ret
      exact ⟨ret_bool (by rw [Bool.eq_iff_iff]; simp), rfl⟩
    · have hpos : 0 < len := by omega
      obtain ⟨b, off, rfl, hc⟩ := hr.resolve_left (by omega)
      have hcell : w.cell? ⟨b, off + (len - 1), none⟩ = some (.int .u64 (f (len - 1) : Int)) := hc (len - 1) (by omega)
      by_cases h3 : f (len - 1) / 2 ^ (n % 64) = 0
      · have e : wfB f len n ln = decide (ln = (psum f len : Int)) := by unfold wfB; rw [h3, ← h1]; simp
        rw [e]
        have H1 : Hid (len = (n + 63) / 64) := h1
        have t1 : ((len : Int) != ((n : Int) + 63) / 64) = false := by simp; omega
        have t2 : ((n : Int) % 64 != 0) = true := by rw [bne_iff_ne]; omega
        have t3 := shr_eq _ _ h3
        clear h1 h2 e h3 hc
        go_enter Try.func9, Try.ntmps9
        go_wp2_with (go_at_call 18; refine hp.mono ?_; rintro e w' ⟨rfl, rfl⟩)
        go_ret
        exact ⟨ret_bool (by rw [Bool.eq_iff_iff]; simp), rfl⟩
      · have e : wfB f len n ln = false := by unfold wfB; rw [decide_eq_false]; intro h; exact h3 (h.2.1 h2)
        rw [e]
        have H1 : Hid (len = (n + 63) / 64) := h1
        have t1 : ((len : Int) != ((n : Int) + 63) / 64) = false := by simp; omega
        have t2 : ((n : Int) % 64 != 0) = true := by rw [bne_iff_ne]; omega
        have t3 := shr_ne _ _ h3
        clear h1 h2 e h3 hc
        go_enter Try.func9, Try.ntmps9
        go_wp2
        go_ret
        exact ⟨rfl, rfl⟩
  · have e : wfB f len n ln = false := by unfold wfB; rw [decide_eq_false]; intro h; exact h1 h.1
    rw [e]
    have t1 : ((len : Int) != ((n : Int) + 63) / 64) = true := by rw [bne_iff_ne]; omega
    clear e h1
    go_enter Try.func9, Try.ntmps9
    go_wp2
    go_ret
    exact ⟨rfl, rfl⟩

/-! ### a new set; what stays of it -/
theorem new_set_is {a : Option Addr} {len cap b : Nat} {f : Nat → Nat} (n ln : Int) {w : World} (ho : Own w a len f b) :
    Calls Try.prog 12 #[.slice a len cap, .int .i64 n, .int .i64 ln] w fun e w' => e = .returned (.pointer (some ⟨w.heap.size, 0, none⟩)) ∧ SetIs w' w.heap.size b a len cap f n ln ∧ Below w.heap.size w w' := by
  refine (new_set a len cap n ln w).mono ?_
  rintro e w' ⟨rfl, rfl⟩
  have hb := (Below.refl w.heap.size w).alloc (Nat.le_refl _) (.cells #[.slice a len cap, .int .i64 n, .int .i64 ln] 38)
  refine ⟨rfl, ⟨?_, ?_, ?_, ?_, ho.below hb, by rcases ho.lt with h | h; exact .inl h; exact .inr (by omega)⟩, hb⟩
  · simp [go_sem]
  · simp [go_sem]
  · simp [go_sem]
  · simp [go_sem]
theorem has_own {w : World} {a : Option Addr} {len cap b : Nat} {f : Nat → Nat} (ho : Own w a len f b) (k : Nat) (hk : k / 64 < len) (hl : len ≤ 65536) (hW : Words f len) :
    Calls Try.prog 11 #[.slice a len cap, .int .i64 (k : Int)] w fun e w' => e = .returned (.bool (has f k)) ∧ w' = w := by
  obtain ⟨rfl, h2⟩ := ho.resolve_left (by omega)
  exact has_any b 0 len cap k (f (k / 64)) w hk hl (by rw [Nat.zero_add]; exact (h2 _ hk).1) (hW _ hk)
theorem Own.only {w w' : World} {S b : Nat} {a : Option Addr} {len : Nat} {f : Nat → Nat} {g : Nat} (h : Own w a len f g) (ho : Only S b w w') (hne : len = 0 ∨ (g ≠ S ∧ g ≠ b)) : Own w' a len f g := by
  rcases h with h | ⟨h1, h2⟩
  · exact .inl h
  · rcases hne with h0 | ⟨n1, n2⟩
    · exact .inl h0
    · exact .inr ⟨h1, fun i hi => ⟨(ho.cell n1 n2).trans (h2 i hi).1, (ho.frozen n1 n2).trans (h2 i hi).2⟩⟩
theorem SetIs.same {w : World} {S b : Nat} {a : Option Addr} {len cap : Nat} {f g : Nat → Nat} {n ln : Int} (h : SetIs w S b a len cap f n ln) (hg : ∀ i, i < len → f i = g i) : SetIs w S b a len cap g n ln :=
  ⟨h.c0, h.c1, h.c2, h.z2, h.own.same hg, h.ne⟩
theorem SetIs.below {w w' : World} {S b : Nat} {a : Option Addr} {len cap : Nat} {f : Nat → Nat} {n ln : Int} (h : SetIs w S b a len cap f n ln) (hb : Below w.heap.size w w') : SetIs w' S b a len cap f n ln := by
  have l : S < w.heap.size := cell_lt h.c0
  exact ⟨(hb.cell l).trans h.c0, (hb.cell l).trans h.c1, (hb.cell l).trans h.c2, (hb.frozen l).trans h.z2, h.own.below hb, h.ne⟩
theorem SetIs.only {w w' : World} {S b S' b' : Nat} {a : Option Addr} {len cap : Nat} {f : Nat → Nat} {n ln : Int} (h : SetIs w S b a len cap f n ln) (ho : Only S' b' w w') (h1 : S ≠ S') (h2 : S ≠ b') (h3 : len = 0 ∨ (b ≠ S' ∧ b ≠ b')) : SetIs w' S b a len cap f n ln :=
  ⟨(ho.cell h1 h2).trans h.c0, (ho.cell h1 h2).trans h.c1, (ho.cell h1 h2).trans h.c2, (ho.frozen h1 h2).trans h.z2, h.own.only ho h3, h.ne⟩
theorem Below.step {w0 w w' : World} (h : Below w0.heap.size w0 w) (h' : Below w.heap.size w w') : Below w0.heap.size w0 w' := h.trans (h'.mono h.size)
end Go.Proofs.Qxb6619332a
