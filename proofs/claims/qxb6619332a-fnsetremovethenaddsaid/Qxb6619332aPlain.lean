namespace Go.Proofs.Qxb6619332a.Pl

/-- the number of one bits among the lowest 'f' bits -/
def popF : Nat → Nat → Nat
  | 0, _ => 0
  | f + 1, x => x % 2 + popF f (x / 2)
def pop (x : Nat) : Nat := popF 64 x
def psum (f : Nat → Nat) : Nat → Nat
  | 0 => 0
  | n + 1 => psum f n + pop (f n)
def upd (f : Nat → Nat) (j v : Nat) : Nat → Nat := fun i => if i = j then v else f i

theorem popF_le : ∀ (f x : Nat), popF f x ≤ f := by
  intro f
  induction f with
  | zero => intro x; simp [popF]
  | succ f ih => intro x; have := ih (x / 2); simp only [popF]; omega
theorem pop_le (x : Nat) : pop x ≤ 64 := popF_le 64 x
theorem psum_le (f : Nat → Nat) (n : Nat) : psum f n ≤ 64 * n := by
  induction n with
  | zero => simp [psum]
  | succ n ih => have := pop_le (f n); simp only [psum]; omega
theorem popF_zero (f : Nat) : popF f 0 = 0 := by
  induction f with
  | zero => rfl
  | succ f ih => simp [popF, ih]
theorem pop_zero : pop 0 = 0 := popF_zero 64

theorem kernF : ∀ (f x : Nat), x ≠ 0 → x < 2 ^ f → popF f (x &&& (x - 1)) + 1 = popF f x := by
  intro f
  induction f with
  | zero => intro x h0 h; simp at h; omega
  | succ f ih =>
    intro x h0 h
    simp only [popF]
    have e1 : (x &&& (x - 1)) / 2 = x / 2 &&& (x - 1) / 2 := by rw [Nat.and_div_two]
    rw [e1]
    by_cases hp : x % 2 = 1
    · have e2 : (x - 1) / 2 = x / 2 := by omega
      have e3 : (x &&& (x - 1)) % 2 = 0 := by
        have h4 : (x - 1) % 2 = 0 := by omega
        have := Nat.and_mod_two_pow (a := x) (b := x - 1) (n := 1)
        simp only [Nat.pow_one] at this
        rw [this, h4]; simp
      rw [e2, e3, Nat.and_self]; omega
    · have e2 : (x - 1) / 2 = x / 2 - 1 := by omega
      have e3 : (x &&& (x - 1)) % 2 = 0 := by
        have h4 : x % 2 = 0 := by omega
        have := Nat.and_mod_two_pow (a := x) (b := x - 1) (n := 1)
        simp only [Nat.pow_one] at this
        rw [this, h4]; simp
      rw [e2, e3]
      have := ih (x / 2) (by omega) (by rw [Nat.pow_succ] at h; omega)
      omega
theorem kern (x : Nat) (h0 : x ≠ 0) (h : x < 18446744073709551616) : pop (x &&& (x - 1)) + 1 = pop x := kernF 64 x h0 (by omega)

theorem orF : ∀ (f k x : Nat), k < f → x.testBit k = false → popF f (x ||| 2 ^ k) = popF f x + 1 := by
  intro f
  induction f with
  | zero => intro k x h; omega
  | succ f ih =>
    intro k x h ht
    simp only [popF]
    have e1 : (x ||| 2 ^ k) / 2 = x / 2 ||| 2 ^ k / 2 := by rw [Nat.or_div_two]
    have e2 := Nat.or_mod_two_pow (a := x) (b := 2 ^ k) (n := 1)
    simp only [Nat.pow_one] at e2
    rw [e1, e2]
    match k with
    | 0 =>
      have hx : x % 2 = 0 := by simpa using ht
      simp [hx]; omega
    | k + 1 =>
      have e3 : 2 ^ (k + 1) / 2 = 2 ^ k := by rw [Nat.pow_succ]; omega
      have e4 : 2 ^ (k + 1) % 2 = 0 := by rw [Nat.pow_succ]; omega
      rw [e3, e4, Nat.or_zero, ih k (x / 2) (by omega) (by rw [← ht, Nat.testBit_succ])]
      omega
theorem pop_or (x k : Nat) (hk : k < 64) (h : x.testBit k = false) : pop (x ||| 2 ^ k) = pop x + 1 := orF 64 k x hk h
theorem or_same (x k : Nat) (h : x.testBit k = true) : x ||| 2 ^ k = x := by
  apply Nat.eq_of_testBit_eq
  intro i
  rw [Nat.testBit_or, Nat.testBit_two_pow]
  by_cases e : k = i
  · subst e; simp [h]
  · simp [e]

/-- the mask without bit k -/
theorem mask_bit (k i : Nat) (hk : k < 64) : (18446744073709551615 - 2 ^ k).testBit i = (decide (i < 64) && !decide (k = i)) := by
  have h1 : 2 ^ k < 2 ^ 64 := Nat.pow_lt_pow_right (by omega) hk
  have h2 : 18446744073709551615 - 2 ^ k = 2 ^ 64 - (2 ^ k + 1) := by omega
  rw [h2, Nat.testBit_two_pow_sub_succ h1, Nat.testBit_two_pow]
theorem clr_bit (x k i : Nat) (hk : k < 64) (hx : x < 18446744073709551616) : (x &&& (18446744073709551615 - 2 ^ k)).testBit i = (x.testBit i && !decide (k = i)) := by
  rw [Nat.testBit_and, mask_bit k i hk]
  by_cases h : i < 64
  · simp [h]
  · have : x.testBit i = false := Nat.testBit_lt_two_pow (Nat.lt_of_lt_of_le hx (by have := Nat.pow_le_pow_right (n := 2) (by omega) (show 64 ≤ i by omega); omega))
    simp [this]
theorem or_bit (x k i : Nat) : (x ||| 2 ^ k).testBit i = (x.testBit i || decide (k = i)) := by
  rw [Nat.testBit_or, Nat.testBit_two_pow]
theorem clr_or (x k : Nat) (hk : k < 64) (hx : x < 18446744073709551616) (h : x.testBit k = true) : (x &&& (18446744073709551615 - 2 ^ k)) ||| 2 ^ k = x := by
  apply Nat.eq_of_testBit_eq
  intro i
  rw [or_bit, clr_bit x k i hk hx]
  by_cases e : k = i
  · subst e; simp [h]
  · simp [e]
theorem or_clr (x k : Nat) (hk : k < 64) (hx : x < 18446744073709551616) : (x ||| 2 ^ k) &&& (18446744073709551615 - 2 ^ k) = x &&& (18446744073709551615 - 2 ^ k) := by
  have h1 : 2 ^ k < 2 ^ 64 := Nat.pow_lt_pow_right (by omega) hk
  apply Nat.eq_of_testBit_eq
  intro i
  rw [clr_bit _ k i hk (by have := Nat.or_lt_two_pow (n := 64) (x := x) (y := 2 ^ k) (by omega) h1; omega), clr_bit x k i hk hx, or_bit]
  by_cases e : k = i <;> simp [e]
theorem clr_same (x k : Nat) (hk : k < 64) (hx : x < 18446744073709551616) (h : x.testBit k = false) : x &&& (18446744073709551615 - 2 ^ k) = x := by
  apply Nat.eq_of_testBit_eq
  intro i
  rw [clr_bit x k i hk hx]
  by_cases e : k = i
  · subst e; simp [h]
  · simp [e]
theorem pop_clr (x k : Nat) (hk : k < 64) (hx : x < 18446744073709551616) (h : x.testBit k = true) : pop (x &&& (18446744073709551615 - 2 ^ k)) + 1 = pop x := by
  have h1 := pop_or (x &&& (18446744073709551615 - 2 ^ k)) k hk (by rw [clr_bit x k k hk hx]; simp)
  rw [clr_or x k hk hx h] at h1
  exact h1.symm
theorem or_lt (x k : Nat) (hk : k < 64) (hx : x < 18446744073709551616) : x ||| 2 ^ k < 18446744073709551616 := by
  have h1 : 2 ^ k < 2 ^ 64 := Nat.pow_lt_pow_right (by omega) hk
  have := Nat.or_lt_two_pow (n := 64) (x := x) (y := 2 ^ k) (by omega) h1
  omega
theorem clr_lt (x k : Nat) (hx : x < 18446744073709551616) : x &&& (18446744073709551615 - 2 ^ k) < 18446744073709551616 :=
  Nat.lt_of_le_of_lt Nat.and_le_left hx

theorem psum_congr (f g : Nat → Nat) (n : Nat) (h : ∀ i, i < n → f i = g i) : psum f n = psum g n := by
  induction n with
  | zero => rfl
  | succ n ih => simp only [psum]; rw [ih (fun i hi => h i (by omega)), h n (by omega)]
theorem psum_upd (f : Nat → Nat) (j v n : Nat) (hj : j < n) : psum (upd f j v) n + pop (f j) = psum f n + pop v := by
  induction n with
  | zero => omega
  | succ n ih =>
    simp only [psum]
    by_cases e : j = n
    · subst e
      have : psum (upd f j v) j = psum f j := psum_congr _ _ _ (fun i hi => by simp [upd]; omega)
      rw [this]; simp [upd]; omega
    · have h1 := ih (by omega)
      have h2 : upd f j v n = f n := by simp [upd]; omega
      rw [h2]; omega
theorem psum_zero (f : Nat → Nat) (n : Nat) (h : ∀ i, i < n → f i = 0) : psum f n = 0 := by
  induction n with
  | zero => rfl
  | succ n ih => simp only [psum]; rw [ih (fun i hi => h i (by omega)), h n (by omega), pop_zero]

/-! the set -/
def has (f : Nat → Nat) (k : Nat) : Bool := (f (k / 64)).testBit (k % 64)
def withB (f : Nat → Nat) (k : Nat) : Nat → Nat := upd f (k / 64) (f (k / 64) ||| 2 ^ (k % 64))
def without (f : Nat → Nat) (k : Nat) : Nat → Nat := upd f (k / 64) (f (k / 64) &&& (18446744073709551615 - 2 ^ (k % 64)))
def Words (f : Nat → Nat) (len : Nat) : Prop := ∀ i, i < len → f i < 18446744073709551616

theorem psum_with (f : Nat → Nat) (k len : Nat) (hk : k / 64 < len) (h : has f k = false) : psum (withB f k) len = psum f len + 1 := by
  have h1 := psum_upd f (k / 64) (f (k / 64) ||| 2 ^ (k % 64)) len hk
  rw [pop_or _ _ (by omega) h] at h1
  unfold withB; omega
theorem psum_without (f : Nat → Nat) (k len : Nat) (hW : Words f len) (hk : k / 64 < len) (h : has f k = true) : psum (without f k) len + 1 = psum f len := by
  have h1 := psum_upd f (k / 64) (f (k / 64) &&& (18446744073709551615 - 2 ^ (k % 64))) len hk
  have := pop_clr _ (k % 64) (by omega) (hW _ hk) h
  unfold without; omega


/-! bits of a word -/
theorem bit_out (x i : Nat) (hx : x < 18446744073709551616) (hi : 64 ≤ i) : x.testBit i = false :=
  Nat.testBit_lt_two_pow (Nat.lt_of_lt_of_le hx (by have := Nat.pow_le_pow_right (n := 2) (by omega) hi; omega))
theorem word_ext (x y : Nat) (hx : x < 18446744073709551616) (hy : y < 18446744073709551616) (h : ∀ b, b < 64 → x.testBit b = y.testBit b) : x = y := by
  apply Nat.eq_of_testBit_eq
  intro i
  by_cases hi : i < 64
  · exact h i hi
  · rw [bit_out x i hx (by omega), bit_out y i hy (by omega)]

theorem words_upd (f : Nat → Nat) (j v len : Nat) (h : Words f len) (hv : v < 18446744073709551616) : Words (upd f j v) len := by
  intro i hi
  unfold upd
  split
  · exact hv
  · exact h i hi
theorem words_with (f : Nat → Nat) (k len : Nat) (h : Words f len) (hk : k / 64 < len) : Words (withB f k) len := words_upd f _ _ len h (or_lt _ _ (by omega) (h _ hk))
theorem words_without (f : Nat → Nat) (k len : Nat) (h : Words f len) (hk : k / 64 < len) : Words (without f k) len := words_upd f _ _ len h (clr_lt _ _ (h _ hk))

theorem bit_with (f : Nat → Nat) (k i b : Nat) (hb : b < 64) : (withB f k i).testBit b = ((f i).testBit b || decide (k = 64 * i + b)) := by
  unfold withB upd
  by_cases e : i = k / 64
  · subst e
    rw [if_pos rfl, or_bit]
    congr 1
    by_cases h : k % 64 = b
    · rw [decide_eq_true h, decide_eq_true (by omega)]
    · rw [decide_eq_false h, decide_eq_false (by omega)]
  · rw [if_neg e, decide_eq_false (by omega), Bool.or_false]
theorem bit_without (f : Nat → Nat) (k i b len : Nat) (hW : Words f len) (hi : i < len) (hb : b < 64) : (without f k i).testBit b = ((f i).testBit b && !decide (k = 64 * i + b)) := by
  unfold without upd
  by_cases e : i = k / 64
  · subst e
    rw [if_pos rfl, clr_bit _ _ _ (by omega) (hW _ hi)]
    congr 2
    by_cases h : k % 64 = b
    · rw [decide_eq_true h, decide_eq_true (by omega)]
    · rw [decide_eq_false h, decide_eq_false (by omega)]
  · rw [if_neg e, decide_eq_false (by omega)]; simp

/-- no bit at or past n -/
def Clear (f : Nat → Nat) (len n : Nat) : Prop := ∀ i b, i < len → b < 64 → n ≤ 64 * i + b → (f i).testBit b = false
theorem clear_of (f : Nat → Nat) (len n : Nat) (hl : len = (n + 63) / 64) (h : n % 64 ≠ 0 → f (len - 1) / 2 ^ (n % 64) = 0) : Clear f len n := by
  intro i b hi hb hn
  by_cases hr : n % 64 = 0
  · omega
  · have e : i = len - 1 := by omega
    subst e
    have h1 := h hr
    have h2 : f (len - 1) < 2 ^ (n % 64) := by
      rcases Nat.div_eq_zero_iff.1 h1 with h | h
      · have := Nat.two_pow_pos (n % 64); omega
      · exact h
    exact Nat.testBit_lt_two_pow (Nat.lt_of_lt_of_le h2 (Nat.pow_le_pow_right (by omega) (by omega)))

/-- removing 0 .. j-1 -/
def RemInv (f g : Nat → Nat) (len j : Nat) : Prop := Words g len ∧ ∀ i b, i < len → b < 64 → (g i).testBit b = ((f i).testBit b && decide (j ≤ 64 * i + b))
theorem remInv_start (f : Nat → Nat) (len : Nat) (h : Words f len) : RemInv f f len 0 := ⟨h, fun i b _ _ => by simp⟩
theorem remInv_has (f g : Nat → Nat) (len j : Nat) (h : RemInv f g len j) (hj : j / 64 < len) : has g j = has f j := by
  unfold has
  rw [h.2 (j / 64) (j % 64) hj (by omega), decide_eq_true (by omega), Bool.and_true]
theorem remInv_yes (f g : Nat → Nat) (len j : Nat) (h : RemInv f g len j) (hj : j / 64 < len) : RemInv f (without g j) len (j + 1) := by
  refine ⟨words_without g j len h.1 hj, fun i b hi hb => ?_⟩
  rw [bit_without g j i b len h.1 hi hb, h.2 i b hi hb, Bool.and_assoc]
  congr 1
  rw [Bool.eq_iff_iff]; simp; omega
theorem remInv_no (f g : Nat → Nat) (len j : Nat) (h : RemInv f g len j) (hj : j / 64 < len) (hh : has g j = false) : RemInv f g len (j + 1) := by
  refine ⟨h.1, fun i b hi hb => ?_⟩
  rw [h.2 i b hi hb]
  by_cases e : j = 64 * i + b
  · have e1 : j / 64 = i := by omega
    have e2 : j % 64 = b := by omega
    unfold has at hh
    rw [h.2 (j / 64) (j % 64) hj (by omega), e1, e2, decide_eq_true (by omega), Bool.and_true] at hh
    rw [hh]; simp
  · congr 1
    rw [Bool.eq_iff_iff]; simp; omega
theorem remInv_end (f g : Nat → Nat) (len n : Nat) (h : RemInv f g len n) (hc : Clear f len n) : psum g len = 0 := by
  refine psum_zero g len fun i hi => word_ext _ _ (h.1 i hi) (by omega) fun b hb => ?_
  rw [h.2 i b hi hb, Nat.zero_testBit]
  by_cases e : n ≤ 64 * i + b
  · rw [hc i b hi hb e]; simp
  · simp [e]

/-- the full set -/
def full (n len : Nat) : Nat → Nat := fun i => if n % 64 ≠ 0 ∧ i = len - 1 then 2 ^ (n % 64) - 1 else 18446744073709551615
theorem full_lt (n len i : Nat) : full n len i < 18446744073709551616 := by
  unfold full
  split
  · have : 2 ^ (n % 64) ≤ 2 ^ 64 := Nat.pow_le_pow_right (by omega) (by omega)
    omega
  · omega
theorem bit_full (n len i b : Nat) (hl : len = (n + 63) / 64) (hi : i < len) (hb : b < 64) : (full n len i).testBit b = decide (64 * i + b < n) := by
  unfold full
  by_cases e : n % 64 ≠ 0 ∧ i = len - 1
  · rw [if_pos e, Nat.testBit_two_pow_sub_one]
    by_cases h : b < n % 64
    · rw [decide_eq_true h, decide_eq_true (by omega)]
    · rw [decide_eq_false h, decide_eq_false (by omega)]
  · have e2 : 18446744073709551615 = 2 ^ 64 - 1 := by decide
    rw [if_neg e, e2, Nat.testBit_two_pow_sub_one, decide_eq_true hb, decide_eq_true (by omega)]
theorem pop_ones : ∀ r, r < 65 → pop (2 ^ r - 1) = r := by decide +kernel
theorem psum_ones (f : Nat → Nat) (m : Nat) (h : ∀ i, i < m → f i = 18446744073709551615) : psum f m = 64 * m := by
  induction m with
  | zero => rfl
  | succ m ih =>
    simp only [psum]
    rw [ih (fun i hi => h i (by omega)), h m (by omega)]
    have := pop_ones 64 (by omega)
    have e2 : 18446744073709551615 = 2 ^ 64 - 1 := by decide
    rw [e2, this]; omega
theorem psum_full (n len : Nat) (hl : len = (n + 63) / 64) : psum (full n len) len = n := by
  by_cases hr : n % 64 = 0
  · rw [psum_ones _ _ (fun i hi => by unfold full; rw [if_neg (by omega)])]; omega
  · obtain ⟨m, rfl⟩ : ∃ m, len = m + 1 := ⟨len - 1, by omega⟩
    simp only [psum]
    rw [psum_ones _ _ (fun i hi => by unfold full; rw [if_neg (by omega)])]
    have : full n (m + 1) m = 2 ^ (n % 64) - 1 := by unfold full; rw [if_pos (by omega)]
    rw [this, pop_ones _ (by omega)]; omega
theorem full_top (n len : Nat) (hr : n % 64 ≠ 0) : full n len (len - 1) / 2 ^ (n % 64) = 0 := by
  have : full n len (len - 1) = 2 ^ (n % 64) - 1 := by unfold full; rw [if_pos (by omega)]
  rw [this]
  have := Nat.two_pow_pos (n % 64)
  exact Nat.div_eq_of_lt (by omega)
theorem has_full (n len k : Nat) (hl : len = (n + 63) / 64) (hk : k < n) : has (full n len) k = true := by
  unfold has
  rw [bit_full n len (k / 64) (k % 64) hl (by omega) (by omega)]
  exact decide_eq_true (by omega)

/-- adding 0 .. j-1 -/
def AddInv (f g : Nat → Nat) (len j : Nat) : Prop := Words g len ∧ ∀ i b, i < len → b < 64 → (g i).testBit b = ((f i).testBit b || decide (64 * i + b < j))
theorem addInv_start (f : Nat → Nat) (len : Nat) (h : Words f len) : AddInv f f len 0 := ⟨h, fun i b _ _ => by simp⟩
theorem addInv_no (f g : Nat → Nat) (len j : Nat) (h : AddInv f g len j) (hj : j / 64 < len) : AddInv f (withB g j) len (j + 1) := by
  refine ⟨words_with g j len h.1 hj, fun i b hi hb => ?_⟩
  rw [bit_with g j i b hb, h.2 i b hi hb, Bool.or_assoc]
  congr 1
  rw [Bool.eq_iff_iff]; simp; omega
theorem addInv_yes (f g : Nat → Nat) (len j : Nat) (h : AddInv f g len j) (hj : j / 64 < len) (hh : has g j = true) : AddInv f g len (j + 1) := by
  refine ⟨h.1, fun i b hi hb => ?_⟩
  rw [h.2 i b hi hb]
  by_cases e : j = 64 * i + b
  · have e1 : j / 64 = i := by omega
    have e2 : j % 64 = b := by omega
    unfold has at hh
    rw [h.2 (j / 64) (j % 64) hj (by omega), e1, e2, decide_eq_false (show ¬ 64 * i + b < j by omega), Bool.or_false] at hh
    rw [hh]; simp
  · congr 1
    rw [Bool.eq_iff_iff]; simp; omega
theorem addInv_end (f g : Nat → Nat) (len n : Nat) (hl : len = (n + 63) / 64) (h : AddInv f g len n) (hc : Clear f len n) : ∀ i, i < len → g i = full n len i := by
  intro i hi
  refine word_ext _ _ (h.1 i hi) (full_lt n len i) fun b hb => ?_
  rw [h.2 i b hi hb, bit_full n len i b hl hi hb]
  by_cases e : n ≤ 64 * i + b
  · rw [hc i b hi hb e]; simp
  · rw [decide_eq_true (show 64 * i + b < n by omega)]; simp

end Go.Proofs.Qxb6619332a.Pl
