/-
  The walks over zzBytes_..: whatever they answer.
-/
import Derived.Test.Qxb6621711aWalkA
namespace Go.Proofs.Qxb6621711a
open Go.RowKit

/-- it returns one bool -/
def AnsB (e : Ending) : Prop := ∃ r : Bool, e = .returned (.bool r)

theorem cell_lt {w : World} {a : Addr} {v : Value} (h : w.cell? a = some v) : a.block < w.heap.size := by
  rcases Nat.lt_or_ge a.block w.heap.size with h1 | h1
  · exact h1
  · simp [World.cell?, Array.getElem?_eq_none h1] at h
theorem RowIs.below {w w' : World} {a : Option Addr} {len : Nat} {t n : Nat → ByteArray} (h : RowIs w a len t n) (hb : Below w.heap.size w w') : RowIs w' a len t n := by
  rcases h with h | ⟨b, off, h1, h2⟩
  · exact .inl h
  · exact .inr ⟨b, off, h1, fun i hi => ⟨(hb.cell (cell_lt (h2 i hi).1)).trans (h2 i hi).1, (hb.cell (cell_lt (h2 i hi).2)).trans (h2 i hi).2⟩⟩
theorem StrsIs.below {w w' : World} {a : Option Addr} {len : Nat} {t : Nat → ByteArray} (h : StrsIs w a len t) (hb : Below w.heap.size w w') : StrsIs w' a len t := by
  rcases h with h | ⟨b, off, h1, h2⟩
  · exact .inl h
  · exact .inr ⟨b, off, h1, fun i hi => (hb.cell (cell_lt (h2 i hi))).trans (h2 i hi)⟩

set_option maxHeartbeats 1000000 in
theorem bytes11_any (a : Option Addr) (len cap : Nat) (x : Int) (s tt nn : ByteArray) (t n : Nat → ByteArray) (w : World) (hr : RowIs w a len t n) (hm : len ≤ maxLen) :
    Calls Try.prog 11 #[.slice a len cap, .int .i64 x, .string s, .agg #[.string tt, .string nn]] w fun e w' => AnsB e ∧ Below w.heap.size w w' := by
  have hB := (Below.refl w.heap.size w).alloc (Nat.le_refl _) (.cells #[.string tt, .string nn] 30)
  have HR := hr.below hB
  unfold maxLen at hm
  by_cases hl : 1048576 < len
  · go_enter Try.func11, Try.ntmps11
    go_wp2
    go_ret
    exact ⟨⟨_, rfl⟩, hB⟩
  go_enter Try.func11, Try.ntmps11
  go_wp2
  go_loop [9, 10] (fun c i => ∃ (k : Nat) (q : Int), k ≤ len ∧ i = .int .i64 k ∧ c = .int .i64 q ∧ 0 ≤ q ∧ q ≤ 1048576) (fun _ i => len - (intOf i).toNat)
  case atStart => exact ⟨0, len, Nat.zero_le _, rfl, rfl, by omega, by omega⟩
  case round =>
    obtain ⟨k, q, hk, rfl, rfl, hq, hq'⟩ := hrel
    by_cases hlt : k < len
    · obtain ⟨b, off, rfl, hc⟩ := HR.resolve_left (by omega)
      have h1 := (hc k hlt).1
      have h2 := (hc k hlt).2
      go_wp2
      all_goals first
        | (go_ret; exact ⟨⟨_, rfl⟩, hB⟩)
        | (go_round
           case rel => exact ⟨k + 1, _, by omega, by go_num, rfl, by omega, by omega⟩
           case measure => simp [intOf]; omega)
    · go_wp2
      all_goals (go_ret; exact ⟨⟨_, rfl⟩, hB⟩)

set_option maxHeartbeats 1000000 in
theorem bytes5_any (a : Option Addr) (len cap : Nat) (t n : Nat → ByteArray) (a' : Option Addr) (len' cap' : Nat) (t' : Nat → ByteArray) (a'' : Option Addr) (len'' cap'' : Nat) (t'' n'' : Nat → ByteArray) (w : World)
    (hr : RowIs w a len t n) (hm : len ≤ maxLen) (hr' : StrsIs w a' len' t') (hm' : len' ≤ maxLen) (hr'' : RowIs w a'' len'' t'' n'') (hm'' : len'' ≤ maxLen) :
    Calls Try.prog 5 #[.slice a len cap, .slice a' len' cap', .slice a'' len'' cap''] w fun e w' => AnsB e ∧ w' = w := by
  unfold maxLen at hm hm' hm''
  by_cases hl : 1048576 < len
  · go_enter Try.func5, Try.ntmps5
    go_wp2
    go_ret
    exact ⟨⟨_, rfl⟩, rfl⟩
  go_enter Try.func5, Try.ntmps5
  go_wp2
  go_loop [7, 8] (fun c i => ∃ (k : Nat) (q : Int), k ≤ len ∧ i = .int .i64 k ∧ c = .int .i64 q ∧ 0 ≤ q ∧ q ≤ 1048576) (fun _ i => len - (intOf i).toNat)
  case atStart => exact ⟨0, len, Nat.zero_le _, rfl, rfl, by omega, by omega⟩
  case round =>
    obtain ⟨k, q, hk, rfl, rfl, hq, hq'⟩ := hrel
    by_cases hlt : k < len
    · obtain ⟨b, off, rfl, hc⟩ := hr.resolve_left (by omega)
      have h1 := (hc k hlt).1
      have h2 := (hc k hlt).2
      go_wp2
      all_goals first
        | (go_ret; exact ⟨⟨_, rfl⟩, rfl⟩)
        | (go_round
           case rel => exact ⟨k + 1, _, by omega, by go_num, rfl, by omega, by omega⟩
           case measure => simp [intOf]; omega)
    · by_cases hl' : 1048576 < len'
      · go_wp2
        go_ret
        exact ⟨⟨_, rfl⟩, rfl⟩
      by_cases hq2 : 1048576 < q + (len' : Int)
      · go_wp2
        go_ret
        exact ⟨⟨_, rfl⟩, rfl⟩
      go_wp2
      go_loop [7, 9] (fun c i => ∃ (k : Nat) (q : Int), k ≤ len' ∧ i = .int .i64 k ∧ c = .int .i64 q ∧ 0 ≤ q ∧ q ≤ 1048576) (fun _ i => len' - (intOf i).toNat)
      case atStart => exact ⟨0, _, Nat.zero_le _, rfl, rfl, by omega, by omega⟩
      case round =>
        clear hq hq' hq2
        obtain ⟨k', q', hk', rfl, rfl, hq, hq'⟩ := hrel
        by_cases hlt' : k' < len'
        · obtain ⟨b, off, rfl, hc⟩ := hr'.resolve_left (by omega)
          have h1 := hc k' hlt'
          go_wp2
          all_goals first
            | (go_ret; exact ⟨⟨_, rfl⟩, rfl⟩)
            | (go_round
               case rel => exact ⟨k' + 1, _, by omega, by go_num, rfl, by omega, by omega⟩
               case measure => simp [intOf]; omega)
        · by_cases hl'' : 1048576 < len''
          · go_wp2
            go_ret
            exact ⟨⟨_, rfl⟩, rfl⟩
          by_cases hq2 : 1048576 < q' + (len'' : Int)
          · go_wp2
            go_ret
            exact ⟨⟨_, rfl⟩, rfl⟩
          go_wp2
          go_loop [7, 10] (fun c i => ∃ (k : Nat) (q : Int), k ≤ len'' ∧ i = .int .i64 k ∧ c = .int .i64 q ∧ 0 ≤ q ∧ q ≤ 1048576) (fun _ i => len'' - (intOf i).toNat)
          case atStart => exact ⟨0, _, Nat.zero_le _, rfl, rfl, by omega, by omega⟩
          case round =>
            clear hq hq' hq2
            obtain ⟨k3, q3, hk3, rfl, rfl, hq, hq'⟩ := hrel
            by_cases hlt3 : k3 < len''
            · obtain ⟨b, off, rfl, hc⟩ := hr''.resolve_left (by omega)
              have h1 := (hc k3 hlt3).1
              have h2 := (hc k3 hlt3).2
              go_wp2
              all_goals first
                | (go_ret; exact ⟨⟨_, rfl⟩, rfl⟩)
                | (go_round
                   case rel => exact ⟨k3 + 1, _, by omega, by go_num, rfl, by omega, by omega⟩
                   case measure => simp [intOf]; omega)
            · go_wp2
              go_ret
              exact ⟨⟨_, rfl⟩, rfl⟩
end Go.Proofs.Qxb6621711a
