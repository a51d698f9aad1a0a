/-
  The walk over FnCappedBufferWriteSplitKeepsStreamPrefix, whole.
-/
import Derived.Test.Qxb6623288aLaw
namespace Go.Proofs.Qxb6623288a
open Go.RowKit

theorem src_take {w : World} {a : Option Addr} {p : List Int} {len cap i : Nat} (r : RowIs w a p) (hp : p.length = len) (hi : i ≤ len) (hn : a = none → len = 0 ∧ cap = 0) : Src w a i cap (p.take i) := by
  refine ⟨by rw [List.length_take]; omega, fun e => by have := hn e; omega, fun ad e j u hu => ?_⟩
  have hj : j < i := by
    have := (List.getElem?_eq_some_iff.1 hu).1
    rw [List.length_map, List.length_take] at this
    omega
  obtain ⟨b, off, e', h⟩ := r.resolve_left (by omega)
  rw [e] at e'
  injection e' with e'
  subst e'
  rw [Addr.add_lit, h j (by omega), ← hu, List.map_take, List.getElem?_take, if_pos hj]
  simp [show j < p.length by omega]

theorem src_drop0 {w : World} {a : Option Addr} {p : List Int} {m : Nat} (hp : p.length = m) (h0 : m = 0) : Src w a m 0 p := by
  have e : p = [] := List.eq_nil_of_length_eq_zero (by omega)
  subst e
  exact ⟨hp, fun _ => ⟨h0, rfl⟩, fun ad _ j u hu => by simp at hu⟩
theorem src_drop {w : World} {a : Option Addr} {p : List Int} {len cap i : Nat} (r : RowIs w a p) (hp : p.length = len) (hi : i ≤ len) (hn : a = none → len = 0 ∧ cap = 0) : Src w (Option.map (fun x => x.add i) a) (len - i) (cap - i) (p.drop i) := by
  refine ⟨by rw [List.length_drop]; omega, fun e => by have := hn (by simpa using e); omega, fun ad e j u hu => ?_⟩
  have hj : j < len - i := by
    have := (List.getElem?_eq_some_iff.1 hu).1
    rw [List.length_map, List.length_drop] at this
    omega
  obtain ⟨b, off, e', h⟩ := r.resolve_left (by omega)
  subst e'
  simp only [Option.map_some, Option.some.injEq] at e
  subst e
  rw [Addr.add_lit, Addr.add_lit, Nat.add_assoc, h (i + j) (by omega), ← hu, List.map_drop, List.getElem?_drop]
  simp [show i + j < p.length by omega]

set_option maxHeartbeats 1000000 in
theorem cb_main (a0 : Option Addr) (len0 cap0 : Nat) (z : List Int) (lim : Nat) (ov : Bool) (a3 : Option Addr) (len3 cap3 : Nat) (p : List Int) (i : Nat) (w : World)
    (r0 : RowIs w a0 z) (hz : z.length = len0) (n0 : a0 = none → len0 = 0) (r3 : RowIs w a3 p) (hp : p.length = len3) (n3 : a3 = none → len3 = 0 ∧ cap3 = 0) (hc3 : len3 ≤ cap3) (hm3 : cap3 ≤ 9223372036854775807)
    (l0 : len0 ≤ 524288) (l3 : len3 ≤ 524288) (hlim : len0 ≤ lim) (hlim' : lim ≤ 9223372036854775807) (hi : i ≤ len3) :
    Calls Try.prog 3 #[.slice a0 len0 cap0, .int .i64 (lim : Int), .bool ov, .slice a3 len3 cap3, .int .i64 (i : Int)] w fun e w' => e = .returned (.bool true) ∧ Below w.heap.size w w' := by
  have Hz : Hid (z.length = len0) := hz
  have Hp : Hid (p.length = len3) := hp
  clear hz hp
  have hby := bytes_any a0 len0 cap0 lim ov a3 len3 cap3 i w l0 l3
  go_enter Try.func3, Try.ntmps3
  go_wp2_with fail
  refine hby.mono ?_
  rintro e w' ⟨rfl, rfl⟩
  go_wp2_with fail
  refine (clone_any a0 len0 cap0 z _ Hz.out r0 n0 l0).mono ?_
  rintro e w1 ⟨aA, cA, rfl, o1, b1⟩
  have r1 := r0.below b1 (Nat.le_refl _)
  go_wp2_with fail
  refine (clone_any a0 len0 cap0 z _ Hz.out r1 n0 l0).mono ?_
  rintro e w2 ⟨aB, cB, rfl, o2, b2⟩
  go_wp2_with fail
  refine (new_buf_is Hz.out (own_mono (own_below o1 b2) (Nat.le_refl _))).mono ?_
  rintro e w3 ⟨rfl, A3, b3⟩
  have q3 := (r3.below b1 (Nat.le_refl _)).below b2 (Nat.le_refl _) |>.below b3 (Nat.le_refl _)
  have B3 := Below.step (Below.step b1 b2) b3
  have sz1 := b1.size
  have sz2 := b2.size
  have sz3 : w2.heap.size < w3.heap.size := cell_lt A3.c0
  have lt3 : ∀ b off, a3 = some ⟨b, off, none⟩ → 0 < len3 → b < w'.heap.size := by
    intro b off e h
    obtain ⟨b', off', e', hh⟩ := r3.resolve_left (by rw [Hp.out]; omega)
    rw [e] at e'
    injection e' with e'
    injection e' with e1 e2
    have := cell_lt (hh 0 (by rw [Hp.out]; exact h))
    rw [e1]; exact this
  have pos3 : 0 < len3 → ∃ b off, a3 = some ⟨b, off, none⟩ ∧ b < w'.heap.size := by
    intro h
    obtain ⟨b', off', e', hh⟩ := r3.resolve_left (by rw [Hp.out]; omega)
    exact ⟨b', off', e', lt3 b' off' e' h⟩
  go_wp2_with fail
  refine (write_any A3 a3 i cap3 (p.take i) (src_take q3 Hp.out hi n3) (fun h => by obtain ⟨b, off, e, l⟩ := pos3 (by omega); exact ⟨b, off, e, by omega⟩) (by omega) hlim hlim' (by omega) (by omega) (by omega)).mono ?_
  rintro e w4 ⟨rfl, aA', nA, cA', A4, T4⟩
  have sz4 := T4.size
  have B4 := B3.trans (T4.below (B := w'.heap.size) (by omega) (fun k hk => (o1.lt k hk).1) (by omega))
  have q4 := r3.below B4 (Nat.le_refl _)
  have nB1 : (Value.slice aB len0 cB).ownBlock ≠ some w2.heap.size := fun e => by have := (o2.lt _ e).2; omega
  have oB4 := own_touch (own_below o2 b3) T4 nB1 (by
    cases hB : (Value.slice aB len0 cB).ownBlock with
    | none => exact .inl rfl
    | some k => refine .inr fun e => ?_; have l1 := (o2.lt k hB); have l2 := (o1.lt k e.symm); omega)
  have nA' : nA ≤ lim := by have := A4.len; rw [List.length_take] at this; omega
  have nA2' : nA ≤ 1048576 := by have := A4.len; rw [List.length_take, List.length_append, Hz.out, List.length_take] at this; omega
  clear q3 r1 A3 B3
  by_cases hci : i = cap3
  · subst hci
    go_wp2_with fail
    refine (write_any A4 a3 0 0 [] (src_drop0 rfl rfl) (fun h => by omega) (by omega) nA' hlim' (by omega) (by omega) (by omega)).mono ?_
    rintro e w5 ⟨rfl, aA2, nA2, cA2, A5, T5⟩
    have el : i = len3 := by omega
    have eL : ((z ++ p.take i).take lim ++ []).take lim = (z ++ p).take lim := by rw [List.append_nil, List.take_take, Nat.min_self, List.take_of_length_le (l := p) (by rw [Hp.out]; omega)]
    have eO : ((ov || decide (lim < len0 + i)) || decide (lim < nA + 0)) = (ov || decide (lim < len0 + len3)) := by
      have h := over_twice ov lim len0 i i nA (Nat.le_refl _) (by rw [← A4.len, List.length_take, List.length_append, Hz.out, List.length_take, Hp.out]; omega)
      rw [Nat.sub_self] at h
      rw [h, el]
    rw [eL, eO] at A5
    clear eL eO el
    have oB5 := own_touch oB4 T5 nB1 (by
      cases hB : (Value.slice aB len0 cB).ownBlock with
      | none => exact .inl rfl
      | some k =>
        refine .inr fun e => ?_
        have l1 := (o2.lt k hB)
        rcases T4.new k e.symm with h | h
        · have := (o1.lt k h); omega
        · omega)
    have sz5 := T5.size
    have B5 := B4.trans (T5.below (B := w'.heap.size) (by omega) (fun k hk => by rcases T4.new k hk with h | h; exact (o1.lt k h).1; omega) (by omega))
    have A5l := A5.own.lt
    have A5n : ∀ k, (Value.slice aA2 nA2 cA2).ownBlock = some k → (Value.slice aA len0 cA).ownBlock = some k ∨ w3.heap.size ≤ k := fun k hk => by
      rcases T5.new k hk with h | h
      · exact T4.new k h
      · exact .inr (by omega)
    clear T5 A4
    go_wp2_with fail
    refine (new_buf_is Hz.out oB5).mono ?_
    rintro e w6 ⟨rfl, D6, b6⟩
    have A6 := A5.below b6
    have B6 := Below.step B5 b6
    have sz6 := b6.size
    have q6 := r3.below B6 (Nat.le_refl _)
    clear A5 oB5 oB4
    go_wp2_with fail
    refine (write_any D6 a3 len3 _ p (by have h := src_take (i := len3) q6 Hp.out (Nat.le_refl _) n3; rw [List.take_of_length_le (by rw [Hp.out]; exact Nat.le_refl _)] at h; exact h) (fun h => by obtain ⟨b, off, e, l⟩ := pos3 h; exact ⟨b, off, e, by omega⟩) hc3 hlim hlim' (by omega) (by omega) (by omega)).mono ?_
    rintro e w7 ⟨rfl, aD, nD, cD, D7, T7⟩
    have A7 := A6.touched T7 (by omega) (fun e => by have := o2.lt _ e.symm; omega) (fun e => by have := (A5l _ e).2; omega) (by
      cases hA : (Value.slice aA2 nA2 cA2).ownBlock with
      | none => exact .inl rfl
      | some k =>
        refine .inr fun e => ?_
        have l1 := o2.lt k e.symm
        rcases A5n k hA with h | h
        · have := (o1.lt k h); omega
        · omega)
    have B7 := B6.trans (T7.below (B := w'.heap.size) (by omega) (fun k hk => by have := (o2.lt k hk).1; omega) (by omega))
    have q7 := r3.below B7 (Nat.le_refl _)
    have q0 := r0.below B7 (Nat.le_refl _)
    clear A6 D6 q6 T7 B6 A5l A5n B5
    have kA : nA2 = min lim (len0 + len3) := by rw [← A7.len, List.length_take, List.length_append, Hz.out, Hp.out]
    have kD : nD = min lim (len0 + len3) := by rw [← D7.len, List.length_take, List.length_append, Hz.out, Hp.out]
    clear T4 B4 q4 nB1 o1 o2 b1 b2 b3 b6 hby pos3 lt3 r0 r3
    by_cases hT : lim < len0 + len3
    · cases ov with
      | true =>
        have eA : nA2 = lim := by omega
        have eD : nD = lim := by omega
        have eo : (true || decide (lim < len0 + len3)) = true := by rw [decide_eq_true hT, Bool.or_true]
        rw [eA, eo] at A7
        rw [eD, eo] at D7
        have c1 := over_get _ _ _ A7.c2
        have c2 := over_get _ _ _ D7.c2
        have c3 := buf_get _ _ _ _ _ A7.c0
        have c4 := buf_get _ _ _ _ _ D7.c0
        have c5 : ∀ c, Calls Try.prog 9 #[.slice aA2 (lim) cA2, .slice a0 len0 cap0, .slice a3 len3 c, .int .i64 (lim : Int)] w7 fun e w' => e = .returned (.bool true) ∧ w' = w7 := by
          intro c
          have h := prefix_any aA2 (lim) cA2 a0 len0 cap0 a3 len3 c ((z ++ p).take lim) z p w7 A7.row q0 q7 A7.len Hz Hp rfl (by omega)
          exact h
        have c6 : ∀ c, Calls Try.prog 9 #[.slice aD (lim) cD, .slice a0 len0 cap0, .slice a3 len3 c, .int .i64 (lim : Int)] w7 fun e w' => e = .returned (.bool true) ∧ w' = w7 := by
          intro c
          have h := prefix_any aD (lim) cD a0 len0 cap0 a3 len3 c ((z ++ p).take lim) z p w7 D7.row q0 q7 D7.len Hz Hp rfl (by omega)
          exact h
        clear eA eD eo kA kD A7 D7
        go_wp2_with fail
        refine c1.mono ?_
        rintro e w8 ⟨rfl, rfl⟩
        go_wp2_with fail
        refine c2.mono ?_
        rintro e w9 ⟨rfl, rfl⟩
        go_wp2_with fail
        refine c3.mono ?_
        rintro e w10 ⟨rfl, rfl⟩
        go_wp2_with fail
        refine (c5 _).mono ?_
        rintro e w11 ⟨rfl, rfl⟩
        go_wp2_with fail
        refine c4.mono ?_
        rintro e w12 ⟨rfl, rfl⟩
        go_wp2_with fail
        refine (c6 _).mono ?_
        rintro e w13 ⟨rfl, rfl⟩
        go_wp2
        go_ret
        exact ⟨rfl, B7⟩
      | false =>
        have eA : nA2 = lim := by omega
        have eD : nD = lim := by omega
        have eo : (false || decide (lim < len0 + len3)) = true := by rw [decide_eq_true hT, Bool.or_true]
        rw [eA, eo] at A7
        rw [eD, eo] at D7
        have c1 := over_get _ _ _ A7.c2
        have c2 := over_get _ _ _ D7.c2
        have c3 := buf_get _ _ _ _ _ A7.c0
        have c4 := buf_get _ _ _ _ _ D7.c0
        have c5 : ∀ c, Calls Try.prog 9 #[.slice aA2 (lim) cA2, .slice a0 len0 cap0, .slice a3 len3 c, .int .i64 (lim : Int)] w7 fun e w' => e = .returned (.bool true) ∧ w' = w7 := by
          intro c
          have h := prefix_any aA2 (lim) cA2 a0 len0 cap0 a3 len3 c ((z ++ p).take lim) z p w7 A7.row q0 q7 A7.len Hz Hp rfl (by omega)
          exact h
        have c6 : ∀ c, Calls Try.prog 9 #[.slice aD (lim) cD, .slice a0 len0 cap0, .slice a3 len3 c, .int .i64 (lim : Int)] w7 fun e w' => e = .returned (.bool true) ∧ w' = w7 := by
          intro c
          have h := prefix_any aD (lim) cD a0 len0 cap0 a3 len3 c ((z ++ p).take lim) z p w7 D7.row q0 q7 D7.len Hz Hp rfl (by omega)
          exact h
        clear eA eD eo kA kD A7 D7
        go_wp2_with fail
        refine c1.mono ?_
        rintro e w8 ⟨rfl, rfl⟩
        go_wp2_with fail
        refine c2.mono ?_
        rintro e w9 ⟨rfl, rfl⟩
        go_wp2_with fail
        refine c3.mono ?_
        rintro e w10 ⟨rfl, rfl⟩
        go_wp2_with fail
        refine (c5 _).mono ?_
        rintro e w11 ⟨rfl, rfl⟩
        go_wp2_with fail
        refine c4.mono ?_
        rintro e w12 ⟨rfl, rfl⟩
        go_wp2_with fail
        refine (c6 _).mono ?_
        rintro e w13 ⟨rfl, rfl⟩
        go_wp2
        go_ret
        exact ⟨rfl, B7⟩
    · cases ov with
      | true =>
        have eA : nA2 = len0 + len3 := by omega
        have eD : nD = len0 + len3 := by omega
        have eo : (true || decide (lim < len0 + len3)) = true := by rw [decide_eq_false hT, Bool.or_false]
        rw [eA, eo] at A7
        rw [eD, eo] at D7
        have c1 := over_get _ _ _ A7.c2
        have c2 := over_get _ _ _ D7.c2
        have c3 := buf_get _ _ _ _ _ A7.c0
        have c4 := buf_get _ _ _ _ _ D7.c0
        have c5 : ∀ c, Calls Try.prog 9 #[.slice aA2 (len0 + len3) cA2, .slice a0 len0 cap0, .slice a3 len3 c, .int .i64 ((len0 : Int) + (len3 : Int))] w7 fun e w' => e = .returned (.bool true) ∧ w' = w7 := by
          intro c
          have h := prefix_any aA2 (len0 + len3) cA2 a0 len0 cap0 a3 len3 c ((z ++ p).take lim) z p w7 A7.row q0 q7 A7.len Hz Hp (by show _ = _; rw [List.take_of_length_le (by rw [List.length_append, Hz.out, Hp.out]; omega), List.take_of_length_le (by rw [List.length_append, Hz.out, Hp.out]; omega)]) (by omega)
          exact (by rw [Int.natCast_add] at h; exact h)
        have c6 : ∀ c, Calls Try.prog 9 #[.slice aD (len0 + len3) cD, .slice a0 len0 cap0, .slice a3 len3 c, .int .i64 ((len0 : Int) + (len3 : Int))] w7 fun e w' => e = .returned (.bool true) ∧ w' = w7 := by
          intro c
          have h := prefix_any aD (len0 + len3) cD a0 len0 cap0 a3 len3 c ((z ++ p).take lim) z p w7 D7.row q0 q7 D7.len Hz Hp (by show _ = _; rw [List.take_of_length_le (by rw [List.length_append, Hz.out, Hp.out]; omega), List.take_of_length_le (by rw [List.length_append, Hz.out, Hp.out]; omega)]) (by omega)
          exact (by rw [Int.natCast_add] at h; exact h)
        clear eA eD eo kA kD A7 D7
        go_wp2_with fail
        refine c1.mono ?_
        rintro e w8 ⟨rfl, rfl⟩
        go_wp2_with fail
        refine c2.mono ?_
        rintro e w9 ⟨rfl, rfl⟩
        go_wp2_with fail
        refine c3.mono ?_
        rintro e w10 ⟨rfl, rfl⟩
        go_wp2_with fail
        refine (c5 _).mono ?_
        rintro e w11 ⟨rfl, rfl⟩
        go_wp2_with fail
        refine c4.mono ?_
        rintro e w12 ⟨rfl, rfl⟩
        go_wp2_with fail
        refine (c6 _).mono ?_
        rintro e w13 ⟨rfl, rfl⟩
        go_wp2
        go_ret
        exact ⟨rfl, B7⟩
      | false =>
        have eA : nA2 = len0 + len3 := by omega
        have eD : nD = len0 + len3 := by omega
        have eo : (false || decide (lim < len0 + len3)) = false := by rw [decide_eq_false hT, Bool.or_false]
        rw [eA, eo] at A7
        rw [eD, eo] at D7
        have c1 := over_get _ _ _ A7.c2
        have c2 := over_get _ _ _ D7.c2
        have c3 := buf_get _ _ _ _ _ A7.c0
        have c4 := buf_get _ _ _ _ _ D7.c0
        have c5 : ∀ c, Calls Try.prog 9 #[.slice aA2 (len0 + len3) cA2, .slice a0 len0 cap0, .slice a3 len3 c, .int .i64 ((len0 : Int) + (len3 : Int))] w7 fun e w' => e = .returned (.bool true) ∧ w' = w7 := by
          intro c
          have h := prefix_any aA2 (len0 + len3) cA2 a0 len0 cap0 a3 len3 c ((z ++ p).take lim) z p w7 A7.row q0 q7 A7.len Hz Hp (by show _ = _; rw [List.take_of_length_le (by rw [List.length_append, Hz.out, Hp.out]; omega), List.take_of_length_le (by rw [List.length_append, Hz.out, Hp.out]; omega)]) (by omega)
          exact (by rw [Int.natCast_add] at h; exact h)
        have c6 : ∀ c, Calls Try.prog 9 #[.slice aD (len0 + len3) cD, .slice a0 len0 cap0, .slice a3 len3 c, .int .i64 ((len0 : Int) + (len3 : Int))] w7 fun e w' => e = .returned (.bool true) ∧ w' = w7 := by
          intro c
          have h := prefix_any aD (len0 + len3) cD a0 len0 cap0 a3 len3 c ((z ++ p).take lim) z p w7 D7.row q0 q7 D7.len Hz Hp (by show _ = _; rw [List.take_of_length_le (by rw [List.length_append, Hz.out, Hp.out]; omega), List.take_of_length_le (by rw [List.length_append, Hz.out, Hp.out]; omega)]) (by omega)
          exact (by rw [Int.natCast_add] at h; exact h)
        clear eA eD eo kA kD A7 D7
        go_wp2_with fail
        refine c1.mono ?_
        rintro e w8 ⟨rfl, rfl⟩
        go_wp2_with fail
        refine c2.mono ?_
        rintro e w9 ⟨rfl, rfl⟩
        go_wp2_with fail
        refine c3.mono ?_
        rintro e w10 ⟨rfl, rfl⟩
        go_wp2_with fail
        refine (c5 _).mono ?_
        rintro e w11 ⟨rfl, rfl⟩
        go_wp2_with fail
        refine c4.mono ?_
        rintro e w12 ⟨rfl, rfl⟩
        go_wp2_with fail
        refine (c6 _).mono ?_
        rintro e w13 ⟨rfl, rfl⟩
        go_wp2
        go_ret
        exact ⟨rfl, B7⟩
  · have hci' : ¬ cap3 = i := fun e => hci e.symm
    go_wp2_with fail
    refine (write_any A4 _ (len3 - i) (cap3 - i) (p.drop i) (src_drop q4 Hp.out hi n3) (fun h => by obtain ⟨b, off, rfl, l⟩ := pos3 (by omega); exact ⟨b, off + i, by rw [Option.map_some, Addr.add_lit], by omega⟩) (by omega) nA' hlim' (by omega) (by omega) (by omega)).mono ?_
    rintro e w5 ⟨rfl, aA2, nA2, cA2, A5, T5⟩
    have eL : ((z ++ p.take i).take lim ++ p.drop i).take lim = (z ++ p).take lim := by rw [take_twice, List.append_assoc, List.take_append_drop]
    have eO := over_twice ov lim len0 i len3 nA hi (by rw [← A4.len, List.length_take, List.length_append, Hz.out, List.length_take, Hp.out]; omega)
    rw [eL, eO] at A5
    clear eL eO
    have oB5 := own_touch oB4 T5 nB1 (by
      cases hB : (Value.slice aB len0 cB).ownBlock with
      | none => exact .inl rfl
      | some k =>
        refine .inr fun e => ?_
        have l1 := (o2.lt k hB)
        rcases T4.new k e.symm with h | h
        · have := (o1.lt k h); omega
        · omega)
    have sz5 := T5.size
    have B5 := B4.trans (T5.below (B := w'.heap.size) (by omega) (fun k hk => by rcases T4.new k hk with h | h; exact (o1.lt k h).1; omega) (by omega))
    have A5l := A5.own.lt
    have A5n : ∀ k, (Value.slice aA2 nA2 cA2).ownBlock = some k → (Value.slice aA len0 cA).ownBlock = some k ∨ w3.heap.size ≤ k := fun k hk => by
      rcases T5.new k hk with h | h
      · exact T4.new k h
      · exact .inr (by omega)
    clear T5 A4
    go_wp2_with fail
    refine (new_buf_is Hz.out oB5).mono ?_
    rintro e w6 ⟨rfl, D6, b6⟩
    have A6 := A5.below b6
    have B6 := Below.step B5 b6
    have sz6 := b6.size
    have q6 := r3.below B6 (Nat.le_refl _)
    clear A5 oB5 oB4
    go_wp2_with fail
    refine (write_any D6 a3 len3 _ p (by have h := src_take (i := len3) q6 Hp.out (Nat.le_refl _) n3; rw [List.take_of_length_le (by rw [Hp.out]; exact Nat.le_refl _)] at h; exact h) (fun h => by obtain ⟨b, off, e, l⟩ := pos3 h; exact ⟨b, off, e, by omega⟩) hc3 hlim hlim' (by omega) (by omega) (by omega)).mono ?_
    rintro e w7 ⟨rfl, aD, nD, cD, D7, T7⟩
    have A7 := A6.touched T7 (by omega) (fun e => by have := o2.lt _ e.symm; omega) (fun e => by have := (A5l _ e).2; omega) (by
      cases hA : (Value.slice aA2 nA2 cA2).ownBlock with
      | none => exact .inl rfl
      | some k =>
        refine .inr fun e => ?_
        have l1 := o2.lt k e.symm
        rcases A5n k hA with h | h
        · have := (o1.lt k h); omega
        · omega)
    have B7 := B6.trans (T7.below (B := w'.heap.size) (by omega) (fun k hk => by have := (o2.lt k hk).1; omega) (by omega))
    have q7 := r3.below B7 (Nat.le_refl _)
    have q0 := r0.below B7 (Nat.le_refl _)
    clear A6 D6 q6 T7 B6 A5l A5n B5
    have kA : nA2 = min lim (len0 + len3) := by rw [← A7.len, List.length_take, List.length_append, Hz.out, Hp.out]
    have kD : nD = min lim (len0 + len3) := by rw [← D7.len, List.length_take, List.length_append, Hz.out, Hp.out]
    clear T4 B4 q4 nB1 o1 o2 b1 b2 b3 b6 hby pos3 lt3 r0 r3
    by_cases hT : lim < len0 + len3
    · cases ov with
      | true =>
        have eA : nA2 = lim := by omega
        have eD : nD = lim := by omega
        have eo : (true || decide (lim < len0 + len3)) = true := by rw [decide_eq_true hT, Bool.or_true]
        rw [eA, eo] at A7
        rw [eD, eo] at D7
        have c1 := over_get _ _ _ A7.c2
        have c2 := over_get _ _ _ D7.c2
        have c3 := buf_get _ _ _ _ _ A7.c0
        have c4 := buf_get _ _ _ _ _ D7.c0
        have c5 : ∀ c, Calls Try.prog 9 #[.slice aA2 (lim) cA2, .slice a0 len0 cap0, .slice a3 len3 c, .int .i64 (lim : Int)] w7 fun e w' => e = .returned (.bool true) ∧ w' = w7 := by
          intro c
          have h := prefix_any aA2 (lim) cA2 a0 len0 cap0 a3 len3 c ((z ++ p).take lim) z p w7 A7.row q0 q7 A7.len Hz Hp rfl (by omega)
          exact h
        have c6 : ∀ c, Calls Try.prog 9 #[.slice aD (lim) cD, .slice a0 len0 cap0, .slice a3 len3 c, .int .i64 (lim : Int)] w7 fun e w' => e = .returned (.bool true) ∧ w' = w7 := by
          intro c
          have h := prefix_any aD (lim) cD a0 len0 cap0 a3 len3 c ((z ++ p).take lim) z p w7 D7.row q0 q7 D7.len Hz Hp rfl (by omega)
          exact h
        clear eA eD eo kA kD A7 D7
        go_wp2_with fail
        refine c1.mono ?_
        rintro e w8 ⟨rfl, rfl⟩
        go_wp2_with fail
        refine c2.mono ?_
        rintro e w9 ⟨rfl, rfl⟩
        go_wp2_with fail
        refine c3.mono ?_
        rintro e w10 ⟨rfl, rfl⟩
        go_wp2_with fail
        refine (c5 _).mono ?_
        rintro e w11 ⟨rfl, rfl⟩
        go_wp2_with fail
        refine c4.mono ?_
        rintro e w12 ⟨rfl, rfl⟩
        go_wp2_with fail
        refine (c6 _).mono ?_
        rintro e w13 ⟨rfl, rfl⟩
        go_wp2
        go_ret
        exact ⟨rfl, B7⟩
      | false =>
        have eA : nA2 = lim := by omega
        have eD : nD = lim := by omega
        have eo : (false || decide (lim < len0 + len3)) = true := by rw [decide_eq_true hT, Bool.or_true]
        rw [eA, eo] at A7
        rw [eD, eo] at D7
        have c1 := over_get _ _ _ A7.c2
        have c2 := over_get _ _ _ D7.c2
        have c3 := buf_get _ _ _ _ _ A7.c0
        have c4 := buf_get _ _ _ _ _ D7.c0
        have c5 : ∀ c, Calls Try.prog 9 #[.slice aA2 (lim) cA2, .slice a0 len0 cap0, .slice a3 len3 c, .int .i64 (lim : Int)] w7 fun e w' => e = .returned (.bool true) ∧ w' = w7 := by
          intro c
          have h := prefix_any aA2 (lim) cA2 a0 len0 cap0 a3 len3 c ((z ++ p).take lim) z p w7 A7.row q0 q7 A7.len Hz Hp rfl (by omega)
          exact h
        have c6 : ∀ c, Calls Try.prog 9 #[.slice aD (lim) cD, .slice a0 len0 cap0, .slice a3 len3 c, .int .i64 (lim : Int)] w7 fun e w' => e = .returned (.bool true) ∧ w' = w7 := by
          intro c
          have h := prefix_any aD (lim) cD a0 len0 cap0 a3 len3 c ((z ++ p).take lim) z p w7 D7.row q0 q7 D7.len Hz Hp rfl (by omega)
          exact h
        clear eA eD eo kA kD A7 D7
        go_wp2_with fail
        refine c1.mono ?_
        rintro e w8 ⟨rfl, rfl⟩
        go_wp2_with fail
        refine c2.mono ?_
        rintro e w9 ⟨rfl, rfl⟩
        go_wp2_with fail
        refine c3.mono ?_
        rintro e w10 ⟨rfl, rfl⟩
        go_wp2_with fail
        refine (c5 _).mono ?_
        rintro e w11 ⟨rfl, rfl⟩
        go_wp2_with fail
        refine c4.mono ?_
        rintro e w12 ⟨rfl, rfl⟩
        go_wp2_with fail
        refine (c6 _).mono ?_
        rintro e w13 ⟨rfl, rfl⟩
        go_wp2
        go_ret
        exact ⟨rfl, B7⟩
    · cases ov with
      | true =>
        have eA : nA2 = len0 + len3 := by omega
        have eD : nD = len0 + len3 := by omega
        have eo : (true || decide (lim < len0 + len3)) = true := by rw [decide_eq_false hT, Bool.or_false]
        rw [eA, eo] at A7
        rw [eD, eo] at D7
        have c1 := over_get _ _ _ A7.c2
        have c2 := over_get _ _ _ D7.c2
        have c3 := buf_get _ _ _ _ _ A7.c0
        have c4 := buf_get _ _ _ _ _ D7.c0
        have c5 : ∀ c, Calls Try.prog 9 #[.slice aA2 (len0 + len3) cA2, .slice a0 len0 cap0, .slice a3 len3 c, .int .i64 ((len0 : Int) + (len3 : Int))] w7 fun e w' => e = .returned (.bool true) ∧ w' = w7 := by
          intro c
          have h := prefix_any aA2 (len0 + len3) cA2 a0 len0 cap0 a3 len3 c ((z ++ p).take lim) z p w7 A7.row q0 q7 A7.len Hz Hp (by show _ = _; rw [List.take_of_length_le (by rw [List.length_append, Hz.out, Hp.out]; omega), List.take_of_length_le (by rw [List.length_append, Hz.out, Hp.out]; omega)]) (by omega)
          exact (by rw [Int.natCast_add] at h; exact h)
        have c6 : ∀ c, Calls Try.prog 9 #[.slice aD (len0 + len3) cD, .slice a0 len0 cap0, .slice a3 len3 c, .int .i64 ((len0 : Int) + (len3 : Int))] w7 fun e w' => e = .returned (.bool true) ∧ w' = w7 := by
          intro c
          have h := prefix_any aD (len0 + len3) cD a0 len0 cap0 a3 len3 c ((z ++ p).take lim) z p w7 D7.row q0 q7 D7.len Hz Hp (by show _ = _; rw [List.take_of_length_le (by rw [List.length_append, Hz.out, Hp.out]; omega), List.take_of_length_le (by rw [List.length_append, Hz.out, Hp.out]; omega)]) (by omega)
          exact (by rw [Int.natCast_add] at h; exact h)
        clear eA eD eo kA kD A7 D7
        go_wp2_with fail
        refine c1.mono ?_
        rintro e w8 ⟨rfl, rfl⟩
        go_wp2_with fail
        refine c2.mono ?_
        rintro e w9 ⟨rfl, rfl⟩
        go_wp2_with fail
        refine c3.mono ?_
        rintro e w10 ⟨rfl, rfl⟩
        go_wp2_with fail
        refine (c5 _).mono ?_
        rintro e w11 ⟨rfl, rfl⟩
        go_wp2_with fail
        refine c4.mono ?_
        rintro e w12 ⟨rfl, rfl⟩
        go_wp2_with fail
        refine (c6 _).mono ?_
        rintro e w13 ⟨rfl, rfl⟩
        go_wp2
        go_ret
        exact ⟨rfl, B7⟩
      | false =>
        have eA : nA2 = len0 + len3 := by omega
        have eD : nD = len0 + len3 := by omega
        have eo : (false || decide (lim < len0 + len3)) = false := by rw [decide_eq_false hT, Bool.or_false]
        rw [eA, eo] at A7
        rw [eD, eo] at D7
        have c1 := over_get _ _ _ A7.c2
        have c2 := over_get _ _ _ D7.c2
        have c3 := buf_get _ _ _ _ _ A7.c0
        have c4 := buf_get _ _ _ _ _ D7.c0
        have c5 : ∀ c, Calls Try.prog 9 #[.slice aA2 (len0 + len3) cA2, .slice a0 len0 cap0, .slice a3 len3 c, .int .i64 ((len0 : Int) + (len3 : Int))] w7 fun e w' => e = .returned (.bool true) ∧ w' = w7 := by
          intro c
          have h := prefix_any aA2 (len0 + len3) cA2 a0 len0 cap0 a3 len3 c ((z ++ p).take lim) z p w7 A7.row q0 q7 A7.len Hz Hp (by show _ = _; rw [List.take_of_length_le (by rw [List.length_append, Hz.out, Hp.out]; omega), List.take_of_length_le (by rw [List.length_append, Hz.out, Hp.out]; omega)]) (by omega)
          exact (by rw [Int.natCast_add] at h; exact h)
        have c6 : ∀ c, Calls Try.prog 9 #[.slice aD (len0 + len3) cD, .slice a0 len0 cap0, .slice a3 len3 c, .int .i64 ((len0 : Int) + (len3 : Int))] w7 fun e w' => e = .returned (.bool true) ∧ w' = w7 := by
          intro c
          have h := prefix_any aD (len0 + len3) cD a0 len0 cap0 a3 len3 c ((z ++ p).take lim) z p w7 D7.row q0 q7 D7.len Hz Hp (by show _ = _; rw [List.take_of_length_le (by rw [List.length_append, Hz.out, Hp.out]; omega), List.take_of_length_le (by rw [List.length_append, Hz.out, Hp.out]; omega)]) (by omega)
          exact (by rw [Int.natCast_add] at h; exact h)
        clear eA eD eo kA kD A7 D7
        go_wp2_with fail
        refine c1.mono ?_
        rintro e w8 ⟨rfl, rfl⟩
        go_wp2_with fail
        refine c2.mono ?_
        rintro e w9 ⟨rfl, rfl⟩
        go_wp2_with fail
        refine c3.mono ?_
        rintro e w10 ⟨rfl, rfl⟩
        go_wp2_with fail
        refine (c5 _).mono ?_
        rintro e w11 ⟨rfl, rfl⟩
        go_wp2_with fail
        refine c4.mono ?_
        rintro e w12 ⟨rfl, rfl⟩
        go_wp2_with fail
        refine (c6 _).mono ?_
        rintro e w13 ⟨rfl, rfl⟩
        go_wp2
        go_ret
        exact ⟨rfl, B7⟩

/-- the shells' reading of an argument, as a row of bytes -/
theorem row_of {w : World} {a : Option Addr} {len cap : Nat} {zs : List Int} (h : (a = none ∧ len = 0 ∧ cap = 0 ∧ zs = []) ∨
    ∃ x, a = some x ∧ len ≤ cap ∧ cap ≤ maxLen ∧ zs.length = cap ∧ (∀ i, i < zs.length → w.cell? (x.add i) = some (.int .u8 (zs.getD i 0))) ∧ ∀ n ∈ zs, (Lit.int .u8 n).wf = true) :
    ∃ p : List Int, RowIs w a p ∧ p.length = len ∧ (a = none → len = 0 ∧ cap = 0) ∧ len ≤ cap ∧ cap ≤ 9223372036854775807 := by
  rcases h with ⟨rfl, rfl, rfl, _⟩ | ⟨x, rfl, hlc, hm, hz, hc, hwf⟩
  · exact ⟨[], .inl rfl, rfl, fun _ => ⟨rfl, rfl⟩, Nat.le_refl _, by omega⟩
  · have hl : (zs.take len).length = len := by rw [List.length_take]; omega
    refine ⟨zs.take len, ?_, hl, fun e => by (cases e), hlc, by unfold maxLen at hm; omega⟩
    by_cases h0 : len = 0
    · exact .inl (by rw [hl]; exact h0)
    · obtain ⟨b, off, spot⟩ := x
      have hspot : spot = none := by simpa [Addr.add] using World.cell?_spot (hc 0 (by omega))
      subst hspot
      refine .inr ⟨b, off, rfl, fun i hi => ?_⟩
      rw [hl] at hi
      have h1 := hc i (by omega)
      have e : (zs.take len).getD i 0 = zs.getD i 0 := by
        simp only [List.getD_eq_getElem?_getD]
        rw [List.getElem?_take, if_pos hi]
      rw [Addr.add_lit] at h1
      rw [e]
      exact h1

theorem cb_any (a0 : Option Addr) (len0 cap0 : Nat) (z0 : List Int) (x : Int) (ov : Bool) (a3 : Option Addr) (len3 cap3 : Nat) (z3 : List Int) (y : Int) (w : World)
    (h0 : (a0 = none ∧ len0 = 0 ∧ cap0 = 0 ∧ z0 = []) ∨ ∃ x, a0 = some x ∧ len0 ≤ cap0 ∧ cap0 ≤ maxLen ∧ z0.length = cap0 ∧ (∀ i, i < z0.length → w.cell? (x.add i) = some (.int .u8 (z0.getD i 0))) ∧ ∀ n ∈ z0, (Lit.int .u8 n).wf = true) (hx : (Lit.int .i64 x).wf = true)
    (h3 : (a3 = none ∧ len3 = 0 ∧ cap3 = 0 ∧ z3 = []) ∨ ∃ x, a3 = some x ∧ len3 ≤ cap3 ∧ cap3 ≤ maxLen ∧ z3.length = cap3 ∧ (∀ i, i < z3.length → w.cell? (x.add i) = some (.int .u8 (z3.getD i 0))) ∧ ∀ n ∈ z3, (Lit.int .u8 n).wf = true) :
    Calls Try.prog 3 #[.slice a0 len0 cap0, .int .i64 x, .bool ov, .slice a3 len3 cap3, .int .i64 y] w fun e w' => e = .returned (.bool true) ∧ Below w.heap.size w w' := by
  obtain ⟨z, r0, e0, n0, lc0, m0⟩ := row_of h0
  obtain ⟨p, r3, e3, n3, lc3, m3⟩ := row_of h3
  have bx := bounds_i64 hx
  clear h0 h3 hx
  have hby := bytes_big a0 len0 cap0 x ov a3 len3 cap3 y w (by unfold maxLen; omega) (by unfold maxLen; omega)
  by_cases hs : len0 ≤ 524288 ∧ len3 ≤ 524288 ∧ (len0 : Int) ≤ x ∧ 0 ≤ y ∧ y ≤ (len3 : Int)
  · obtain ⟨s1, s2, s3, s4, s5⟩ := hs
    obtain ⟨lim, rfl⟩ := Int.eq_ofNat_of_zero_le (show 0 ≤ x by omega)
    obtain ⟨i, rfl⟩ := Int.eq_ofNat_of_zero_le s4
    exact cb_main a0 len0 cap0 z lim ov a3 len3 cap3 p i w r0 e0 (fun e => (n0 e).1) r3 e3 n3 lc3 m3 s1 s2 (by omega) (by omega) (by omega)
  · have E0 : Hid (z.length = len0) := e0
    have E3 : Hid (p.length = len3) := e3
    clear e0 e3 r0 r3 n0 n3
    go_enter Try.func3, Try.ntmps3
    go_wp2_with fail
    refine hby.mono ?_
    rintro e w' ⟨⟨ok, rfl⟩, rfl⟩
    clear hby
    cases ok with
    | false =>
      go_wp2
      go_ret
      exact ⟨rfl, Below.refl _ _⟩
    | true =>
    by_cases t1 : 524288 < len0
    · go_wp2
      go_ret
      exact ⟨rfl, Below.refl _ _⟩
    by_cases t2 : 524288 < len3
    · go_wp2
      go_ret
      exact ⟨rfl, Below.refl _ _⟩
    by_cases t3 : x < (len0 : Int)
    · go_wp2
      go_ret
      exact ⟨rfl, Below.refl _ _⟩
    by_cases t4 : y < 0
    · go_wp2
      go_ret
      exact ⟨rfl, Below.refl _ _⟩
    have t5 : (len3 : Int) < y := by
      rcases Int.lt_or_le (len3 : Int) y with h | h
      · exact h
      · exact absurd ⟨by omega, by omega, by omega, by omega, h⟩ hs
    clear hs
    go_wp2
    go_ret
    exact ⟨rfl, Below.refl _ _⟩
end Go.Proofs.Qxb6623288a
