/-
  The walks over zzTypes, sameTypes, ZZSameTypes.
-/
import Derived.Test.Qxb6621711aWalkB
namespace Go.Proofs.Qxb6621711a
open Go.RowKit
theorem Try.info32 : (Try.prog.info? 32).map (fun i => (i.zero, i.size, i.bytes)) = some (some (.agg #[.string ⟨#[]⟩, .string ⟨#[]⟩]), 2, 32) := by kernel_rfl

/-- a row of the call's own, of pairs of strings, the first k of them known -/
def Part (w : World) (g len k : Nat) (t n : Nat → ByteArray) : Prop :=
  ∀ i, i < len → (∃ u, w.cell? ⟨g, i * 2, none⟩ = some u) ∧ (∃ u, w.cell? ⟨g, i * 2 + 1, none⟩ = some u) ∧ w.frozen? ⟨g, i * 2, none⟩ = false ∧ w.frozen? ⟨g, i * 2 + 1, none⟩ = false ∧
    (i < k → w.cell? ⟨g, i * 2, none⟩ = some (.string (t i)) ∧ w.cell? ⟨g, i * 2 + 1, none⟩ = some (.string (n i)))
theorem part_made {w : World} {g len : Nat} {xs : List Value} (h : w.ownsRow g 32 2 (.slice (some ⟨g, 0, none⟩) len len) len xs) (t n : Nat → ByteArray) : Part w g len 0 t n := by
  intro i hi
  have hx := h.1
  refine ⟨?_, ?_, h.frozenAt _, h.frozenAt _, fun h => by omega⟩
  · rw [h.cellAt (i * 2) (by omega), List.getElem?_eq_getElem (by omega)]; exact ⟨_, rfl⟩
  · rw [h.cellAt (i * 2 + 1) (by omega), List.getElem?_eq_getElem (by omega)]; exact ⟨_, rfl⟩
theorem Part.same {w w' : World} {g len k : Nat} {t n : Nat → ByteArray} (h : Part w g len k t n) (hb : w'.heap[g]? = w.heap[g]?) : Part w' g len k t n := by
  intro i hi
  have e : ∀ o, w'.cell? ⟨g, o, none⟩ = w.cell? ⟨g, o, none⟩ := fun o => World.cell?_of_block (w := w) hb
  have e' : ∀ o, w'.frozen? ⟨g, o, none⟩ = w.frozen? ⟨g, o, none⟩ := fun o => World.frozen?_of_block (w := w) hb
  rw [e, e, e', e']
  exact h i hi
theorem Part.set {w : World} {g len k : Nat} {t n : Nat → ByteArray} (h : Part w g len k t n) (hk : k < len) :
    Part ((w.setCell ⟨g, k * 2, none⟩ (.string (t k))).setCell ⟨g, k * 2 + 1, none⟩ (.string (n k))) g len (k + 1) t n := by
  intro i hi
  obtain ⟨⟨u1, h1⟩, ⟨u2, h2⟩, f1, f2, h3⟩ := h i hi
  obtain ⟨⟨v1, g1⟩, ⟨v2, g2⟩, _, _, _⟩ := h k hk
  simp only [World.frozen?_setCell]
  have c2 : (w.setCell ⟨g, k * 2, none⟩ (.string (t k))).cell? ⟨g, k * 2 + 1, none⟩ = some v2 := by
    rw [World.cell?_setCell_other _ _ _ _ (fun e => by injection e; omega)]; exact g2
  by_cases e : i = k
  · subst e
    have d1 : ((w.setCell ⟨g, i * 2, none⟩ (.string (t i))).setCell ⟨g, i * 2 + 1, none⟩ (.string (n i))).cell? ⟨g, i * 2, none⟩ = some (.string (t i)) := by
      rw [World.cell?_setCell_other _ _ _ _ (fun e => by injection e; omega)]
      exact World.cell?_setCell_same _ _ _ g1
    have d2 : ((w.setCell ⟨g, i * 2, none⟩ (.string (t i))).setCell ⟨g, i * 2 + 1, none⟩ (.string (n i))).cell? ⟨g, i * 2 + 1, none⟩ = some (.string (n i)) := World.cell?_setCell_same _ _ _ c2
    exact ⟨⟨_, d1⟩, ⟨_, d2⟩, f1, f2, fun _ => ⟨d1, d2⟩⟩
  · have q : ∀ o, o = i * 2 ∨ o = i * 2 + 1 → ((w.setCell ⟨g, k * 2, none⟩ (.string (t k))).setCell ⟨g, k * 2 + 1, none⟩ (.string (n k))).cell? ⟨g, o, none⟩ = w.cell? ⟨g, o, none⟩ := by
      intro o ho
      rw [World.cell?_setCell_other _ _ _ _ (fun e => by injection e; omega), World.cell?_setCell_other _ _ _ _ (fun e => by injection e; omega)]
    rw [q _ (.inl rfl), q _ (.inr rfl)]
    exact ⟨⟨u1, h1⟩, ⟨u2, h2⟩, f1, f2, fun hh => h3 (by omega)⟩
theorem Part.alloc {w : World} {g len k : Nat} {t n : Nat → ByteArray} (h : Part w g len k t n) (o : Obj) (hg : g < w.heap.size) : Part (w.alloc o) g len k t n := h.same (Below.heap_alloc w o g hg)
theorem Part.drew {w : World} {g len k : Nat} {t n : Nat → ByteArray} (h : Part w g len k t n) : Part w.drew g len k t n := h
theorem Part.row {w : World} {g len : Nat} {t n : Nat → ByteArray} (h : Part w g len len t n) : RowIs w (some ⟨g, 0, none⟩) len t n :=
  .inr ⟨g, 0, rfl, fun i hi => by rw [Nat.zero_add]; exact (h i hi).2.2.2.2 hi⟩

theorem keep_alloc {w : World} {o : Obj} {p : Addr} {v : Value} (hp : p.block < w.heap.size) (h : w.cell? p = some v) : (w.alloc o).drew.cell? p = some v :=
  (World.cell?_alloc_lt w o p hp).trans h
theorem keep_store {w : World} {o : Obj} {a b p : Addr} {x y v : Value} (hp : p.block < w.heap.size) (ha : a.block ≠ p.block) (hb : b.block ≠ p.block) (h : w.cell? p = some v) : (((w.setCell a x).setCell b y).alloc o).drew.cell? p = some v := by
  refine (World.cell?_alloc_lt _ o p (by simpa [World.setCell] using hp)).trans ?_
  rw [World.cell?_setCell_other _ _ _ _ (fun e => hb (by rw [e])), World.cell?_setCell_other _ _ _ _ (fun e => ha (by rw [e]))]
  exact h

set_option maxHeartbeats 1000000 in
theorem types_any (a : Option Addr) (len cap : Nat) (t n : Nat → ByteArray) (w : World) (hr : RowIs w a len t n) (hl : len ≤ 65536) :
    Calls Try.prog 8 #[.slice a len cap] w fun e w' => e = .returned (.slice (some ⟨w.heap.size, 0, none⟩) len len) ∧ Part w' w.heap.size len len t n ∧ Below w.heap.size w w' := by
  obtain ⟨i0, hi, hz0, hz1, hz2⟩ := info_parts Try.info32
  go_enter Try.func8, Try.ntmps8
  go_wp2_with (at_make; refine wpList_make_full _ rfl _ _ 27 rfl w.heap.size 32 i0 (.agg #[.string ⟨#[]⟩, .string ⟨#[]⟩]) 2 Try.underlying27 hi hz0 hz1 _ _ _ _ len rfl rfl rfl rfl ?b2 ?b3 ?b4 ?_)
  case b2 => rw [hz2]; omega
  case b3 => unfold maxLen; omega
  case b4 => exact Nat.le_refl _
  intro w1 hown hgrow
  have hO := part_made hown t n
  have hB := (Below.refl w.heap.size w).grown hgrow (Nat.le_refl _) (fun k h => by cases h)
  clear hown hgrow
  go_wp2
  go_loopw [4] (fun i wr => ∃ k : Nat, k ≤ len ∧ i = .int .i64 k ∧ Part wr w.heap.size len k t n ∧ Below w.heap.size w wr) (fun i _ => len - (intOf i).toNat)
  case atStart => exact ⟨0, Nat.zero_le _, rfl, hO, hB⟩
  case round =>
    obtain ⟨k, hk, rfl, hP, hB1⟩ := hrel
    clear hO hB
    by_cases hlt : k < len
    · obtain ⟨b, off, rfl, hc⟩ := hr.resolve_left (by omega)
      have h1 := (hB1.cell (cell_lt (hc k hlt).1)).trans (hc k hlt).1
      have h2 := (hB1.cell (cell_lt (hc k hlt).2)).trans (hc k hlt).2
      have hlb : b < w.heap.size := cell_lt (hc k hlt).1
      have HP : Hid (Part wr w.heap.size len k t n) := hP
      obtain ⟨⟨u1, h3⟩, ⟨u2, h4⟩, f1, f2, _⟩ := hP k hlt
      have hsz : w.heap.size < wr.heap.size := cell_lt h3
      have hki : (k : Int) < (len : Int) := by omega
      have hlb' : b < wr.heap.size := by omega
      have hne : w.heap.size ≠ b := by omega
      clear hP hc
      go_wp2
      go_region_held3 (fun w' => w'.cell? ⟨b, off + k * 2, none⟩ = some (.string (t k)) ∧ w'.cell? ⟨b, off + k * 2 + 1, none⟩ = some (.string (n k))) (first | exact ⟨h1, h2⟩ | exact ⟨keep_alloc hlb' h1, keep_alloc hlb' h2⟩ | exact ⟨keep_store hlb' hne hne h1, keep_store hlb' hne hne h2⟩)
        (first | (go_at_call 9; refine (make_type _ _ _).mono ?_; rintro e w' ⟨rfl, rfl⟩))
      go_wp2
      have P2 := ((HP.out.set hlt).alloc (.cells #[.string (t k), .string (n k)] 32) (by simpa [World.setCell] using hsz)).drew
      have B2 := (((hB1.setCell (p := ⟨w.heap.size, k * 2, none⟩) (Nat.le_refl _) (.string (t k))).setCell (p := ⟨w.heap.size, k * 2 + 1, none⟩) (Nat.le_refl _) (.string (n k))).alloc (by simp [World.setCell]; omega) (.cells #[.string (t k), .string (n k)] 32)).drew
      go_roundw
      case rel => exact ⟨k + 1, by omega, by go_num, P2, B2⟩
      case measure => simp [intOf]; omega
    · have e : k = len := by omega
      subst e
      go_wp2
      go_ret
      exact ⟨rfl, hP, hB1⟩

/-! ### sameTypes -/
def sameB (len len' : Nat) (n n' : Nat → ByteArray) : Bool := decide (len = len' ∧ ∀ i, i < len → eqS (n i) (n' i) = true)
theorem keep_two {w : World} {o o' : Obj} {p : Addr} {v : Value} (hp : p.block < w.heap.size) (h : w.cell? p = some v) : ((w.alloc o).alloc o').drew.cell? p = some v := by
  refine (World.cell?_alloc_lt _ o' p (by simp; omega)).trans ((World.cell?_alloc_lt w o p hp).trans h)

set_option maxHeartbeats 1000000 in
theorem sameTypes_any (a : Option Addr) (len cap : Nat) (t n : Nat → ByteArray) (a' : Option Addr) (len' cap' : Nat) (t' n' : Nat → ByteArray) (w : World) (hr : RowIs w a len t n) (hr' : RowIs w a' len' t' n') (hl : len ≤ 65537) :
    Calls Try.prog 13 #[.slice a len cap, .slice a' len' cap'] w fun e w' => e = .returned (.bool (sameB len len' n n')) ∧ Below w.heap.size w w' := by
  by_cases he : len = len'
  · subst he
    go_enter Try.func13, Try.ntmps13
    go_wp2
    go_loopw [13] (fun i wr => ∃ k : Nat, k ≤ len ∧ i = .int .i64 k ∧ Hid (∀ j, j < k → eqS (n j) (n' j) = true) ∧ Below w.heap.size w wr) (fun i _ => len - (intOf i).toNat)
    case atStart => exact ⟨0, Nat.zero_le _, rfl, fun j hj => by omega, Below.refl _ _⟩
    case round =>
      obtain ⟨k, hk, rfl, hP, hB1⟩ := hrel
      by_cases hlt : k < len
      · obtain ⟨b, off, rfl, hc⟩ := hr.resolve_left (by omega)
        obtain ⟨b', off', rfl, hc'⟩ := hr'.resolve_left (by omega)
        have h1 := (hB1.cell (cell_lt (hc k hlt).1)).trans (hc k hlt).1
        have h2 := (hB1.cell (cell_lt (hc k hlt).2)).trans (hc k hlt).2
        have h3 := (hB1.cell (cell_lt (hc' k hlt).1)).trans (hc' k hlt).1
        have h4 := (hB1.cell (cell_lt (hc' k hlt).2)).trans (hc' k hlt).2
        have l1 : b < wr.heap.size := cell_lt h1
        have l2 : b' < wr.heap.size := cell_lt h3
        have hki : (k : Int) < (len : Int) := by omega
        clear hc hc'
        cases hs : eqS (n k) (n' k) with
        | true =>
          go_wp2
          go_region_held3 (fun w' => w'.cell? ⟨b, off + k * 2, none⟩ = some (.string (t k)) ∧ w'.cell? ⟨b, off + k * 2 + 1, none⟩ = some (.string (n k)) ∧ w'.cell? ⟨b', off' + k * 2, none⟩ = some (.string (t' k)) ∧ w'.cell? ⟨b', off' + k * 2 + 1, none⟩ = some (.string (n' k)))
            (first | exact ⟨h1, h2, h3, h4⟩ | exact ⟨keep_two l1 h1, keep_two l1 h2, keep_two l2 h3, keep_two l2 h4⟩)
            (first | (go_at_call 14; refine (same_any _ _ _ _ _).mono ?_; rintro e w' ⟨rfl, rfl⟩))
          go_wp2
          have B2 := ((hB1.alloc hB1.size (.cells #[.string (t k), .string (n k)] 32)).alloc (by have := hB1.size; simp; omega) (.cells #[.string (t' k), .string (n' k)] 32)).drew
          go_roundw
          case rel => exact ⟨k + 1, by omega, by go_num, fun j hj => by rcases Nat.lt_or_ge j k with h | h; exact hP.out j h; rw [show j = k by omega]; exact hs, B2⟩
          case measure => simp [intOf]; omega
        | false =>
          have e : sameB len len n n' = false := decide_eq_false (fun h => by have := h.2 k hlt; rw [hs] at this; cases this)
          have E : Hid (sameB len len n n' = false) := e
          clear e
          go_wp2
          go_region_held3 (fun w' => w'.cell? ⟨b, off + k * 2, none⟩ = some (.string (t k)) ∧ w'.cell? ⟨b, off + k * 2 + 1, none⟩ = some (.string (n k)) ∧ w'.cell? ⟨b', off' + k * 2, none⟩ = some (.string (t' k)) ∧ w'.cell? ⟨b', off' + k * 2 + 1, none⟩ = some (.string (n' k)))
            (first | exact ⟨h1, h2, h3, h4⟩ | exact ⟨keep_two l1 h1, keep_two l1 h2, keep_two l2 h3, keep_two l2 h4⟩)
            (first | (go_at_call 14; refine (same_any _ _ _ _ _).mono ?_; rintro e w' ⟨rfl, rfl⟩))
          go_wp2
          have B2 := ((hB1.alloc hB1.size (.cells #[.string (t k), .string (n k)] 32)).alloc (by have := hB1.size; simp; omega) (.cells #[.string (t' k), .string (n' k)] 32)).drew
          go_ret
          exact ⟨ret_bool E.out.symm, B2⟩
      · have e : k = len := by omega
        subst e
        go_wp2
        go_ret
        exact ⟨ret_bool (decide_eq_true ⟨rfl, hP⟩).symm, hB1⟩
  · have e : sameB len len' n n' = false := decide_eq_false (fun h => he h.1)
    rw [e]
    have hne : ((len : Int) != (len' : Int)) = true := by rw [bne_iff_ne]; omega
    clear e
    go_enter Try.func13, Try.ntmps13
    go_wp2
    go_ret
    exact ⟨rfl, Below.refl _ _⟩

theorem zzSame_any (a : Option Addr) (len cap : Nat) (t n : Nat → ByteArray) (a' : Option Addr) (len' cap' : Nat) (t' n' : Nat → ByteArray) (w : World) (hr : RowIs w a len t n) (hr' : RowIs w a' len' t' n') (hl : len ≤ 65537) :
    Calls Try.prog 10 #[.slice a len cap, .slice a' len' cap'] w fun e w' => e = .returned (.bool (sameB len len' n n')) ∧ Below w.heap.size w w' := by
  go_enter Try.func10, Try.ntmps10
  go_wp2_with fail
  refine (sameTypes_any a len cap t n a' len' cap' t' n' _ hr hr' hl).mono ?_
  rintro e w' ⟨rfl, hb⟩
  go_wp2
  go_ret
  exact ⟨rfl, hb⟩
theorem Part.below {w w' : World} {g len k : Nat} {t n : Nat → ByteArray} (h : Part w g len k t n) (hb : Below w.heap.size w w') (hg : g < w.heap.size) : Part w' g len k t n := h.same (hb.block g hg)
theorem Below.step {w0 w w' : World} (h : Below w0.heap.size w0 w) (h' : Below w.heap.size w w') : Below w0.heap.size w0 w' := h.trans (h'.mono h.size)
end Go.Proofs.Qxb6621711a
