/-
  The walks over zzAdd, zzTypeBytes, zzWordsBytes, ZZMakeType, same.
-/
import Derived.Test.Qxb6621711aRows
import Derived.WalkKit
import Derived.WalkSpells
import Derived.WalkLawsBesides
import Derived.Deep.QuietTactic
import Derived.BigQuiet
import Derived.Deep.RegionHeld3
namespace Go.Proofs.Qxb6621711a
open Go.RowKit

theorem add_any (x y : Int) (w : World) (hx : 0 ≤ x) (hx' : x ≤ 1000000000) (hy : 0 ≤ y) :
    Calls Try.prog 12 #[.int .i64 x, .int .i64 y] w fun e w' => ∃ r : Int, e = .returned (.int .i64 r) ∧ 0 ≤ r ∧ r ≤ 1000000000 ∧ w' = w := by
  by_cases h1 : 1048576 < x
  · go_enter Try.func12, Try.ntmps12
    go_wp2
    go_ret
    exact ⟨_, rfl, by omega, by omega, rfl⟩
  by_cases h2 : 1048576 < y
  · go_enter Try.func12, Try.ntmps12
    go_wp2
    go_ret
    exact ⟨_, rfl, by omega, by omega, rfl⟩
  go_enter Try.func12, Try.ntmps12
  go_wp2
  go_ret
  exact ⟨_, rfl, by omega, by omega, rfl⟩

theorem make_type (t n : ByteArray) (w : World) :
    Calls Try.prog 9 #[.string t, .string n] w fun e w' => e = .returned (.agg #[.string t, .string n]) ∧ w' = w.alloc (.cells #[.string t, .string n] 32) := by
  go_enter Try.func9, Try.ntmps9
  go_wp2
  exact bodyPost_ret (v := .agg #[.string t, .string n]) (by simp [results, Try.results9, go_sem]) rfl ⟨rfl, rfl⟩
theorem ret_bool {a b : Bool} (h : a = b) : Ending.returned (.bool a) = .returned (.bool b) := by rw [h]
/-- Go's '==' on two strings -/
def eqS (x y : ByteArray) : Bool := x.toList == y.toList
theorem same_any (t n t' n' : ByteArray) (w : World) :
    Calls Try.prog 14 #[.agg #[.string t, .string n], .agg #[.string t', .string n']] w fun e w' => e = .returned (.bool (eqS n n')) ∧ w' = (w.alloc (.cells #[.string t, .string n] 32)).alloc (.cells #[.string t', .string n'] 32) := by
  go_enter Try.func14, Try.ntmps14
  go_wp2
  go_ret
  exact ⟨ret_bool rfl, rfl⟩

/-- a row of pairs of strings that may be read: nothing is asked of an empty one -/
def RowIs (w : World) (a : Option Addr) (len : Nat) (t n : Nat → ByteArray) : Prop :=
  len = 0 ∨ ∃ b off, a = some ⟨b, off, none⟩ ∧ ∀ i, i < len → w.cell? ⟨b, off + i * 2, none⟩ = some (.string (t i)) ∧ w.cell? ⟨b, off + i * 2 + 1, none⟩ = some (.string (n i))

set_option maxHeartbeats 400000 in
theorem typeBytes_some (b off len cap : Nat) (x : Int) (t n : Nat → ByteArray) (w : World) (hc : ∀ i, i < len → w.cell? ⟨b, off + i * 2, none⟩ = some (.string (t i)) ∧ w.cell? ⟨b, off + i * 2 + 1, none⟩ = some (.string (n i))) (hl : len ≤ 65536) (hx : 0 ≤ x) (hx' : x ≤ 1000000000) :
    Calls Try.prog 6 #[.int .i64 x, .slice (some ⟨b, off, none⟩) len cap] w fun e w' => ∃ r : Int, e = .returned (.int .i64 r) ∧ 0 ≤ r ∧ r ≤ 1000000000 ∧ w' = w := by
  go_enter Try.func6, Try.ntmps6
  go_wp2_with fail
  refine (add_any _ _ _ hx hx' (by omega)).mono ?_
  rintro e w' ⟨r, rfl, hr, hr', rfl⟩
  go_wp2
  go_loop [0, 5] (fun c i => ∃ (k : Nat) (r : Int), k ≤ len ∧ i = .int .i64 k ∧ c = .int .i64 r ∧ 0 ≤ r ∧ r ≤ 1000000000) (fun _ i => len - (intOf i).toNat)
  case atStart => exact ⟨0, r, Nat.zero_le _, rfl, rfl, hr, hr'⟩
  case round =>
    clear hr hr'
    obtain ⟨k, q, hk, rfl, rfl, hq, hq'⟩ := hrel
    by_cases hlt : k < len
    · by_cases hq2 : q ≤ 1048576
      · have h1 := (hc k hlt).1
        have h2 := (hc k hlt).2
        go_wp2_with fail
        refine (add_any _ _ _ hq hq' (by omega)).mono ?_
        rintro e w2 ⟨r1, rfl, hr, hr', rfl⟩
        go_wp2_with fail
        refine (add_any _ _ _ hr hr' (by omega)).mono ?_
        rintro e w3 ⟨r2, rfl, hs, hs', rfl⟩
        go_wp2
        go_round
        case rel => exact ⟨k + 1, r2, by omega, by go_num, rfl, hs, hs'⟩
        case measure => simp [intOf]; omega
      · go_wp2
        go_ret
        exact ⟨_, rfl, hq, hq', rfl⟩
    · go_wp2
      go_ret
      exact ⟨_, rfl, hq, hq', rfl⟩
theorem typeBytes_none (a : Option Addr) (cap : Nat) (x : Int) (w : World) (hx : 0 ≤ x) (hx' : x ≤ 1000000000) :
    Calls Try.prog 6 #[.int .i64 x, .slice a 0 cap] w fun e w' => ∃ r : Int, e = .returned (.int .i64 r) ∧ 0 ≤ r ∧ r ≤ 1000000000 ∧ w' = w := by
  go_enter Try.func6, Try.ntmps6
  go_wp2_with fail
  refine (add_any _ _ _ hx hx' (by omega)).mono ?_
  rintro e w' ⟨r, rfl, hr, hr', rfl⟩
  go_wp2
  go_loop [0, 5] (fun c i => i = .int .i64 0 ∧ c = .int .i64 r) (fun _ _ => 0)
  case atStart => exact ⟨rfl, rfl⟩
  case round =>
    obtain ⟨rfl, rfl⟩ := hrel
    go_wp2
    go_ret
    exact ⟨_, rfl, hr, hr', rfl⟩
theorem typeBytes_any (a : Option Addr) (len cap : Nat) (x : Int) (t n : Nat → ByteArray) (w : World) (h : RowIs w a len t n) (hl : len ≤ 65536) (hx : 0 ≤ x) (hx' : x ≤ 1000000000) :
    Calls Try.prog 6 #[.int .i64 x, .slice a len cap] w fun e w' => ∃ r : Int, e = .returned (.int .i64 r) ∧ 0 ≤ r ∧ r ≤ 1000000000 ∧ w' = w := by
  rcases h with rfl | ⟨b, off, rfl, hc⟩
  · exact typeBytes_none a cap x w hx hx'
  · exact typeBytes_some b off len cap x t n w hc hl hx hx'

/-- a row of strings that may be read -/
def StrsIs (w : World) (a : Option Addr) (len : Nat) (t : Nat → ByteArray) : Prop :=
  len = 0 ∨ ∃ b off, a = some ⟨b, off, none⟩ ∧ ∀ i, i < len → w.cell? ⟨b, off + i, none⟩ = some (.string (t i))
set_option maxHeartbeats 400000 in
theorem wordsBytes_some (b off len cap : Nat) (x : Int) (t : Nat → ByteArray) (w : World) (hc : ∀ i, i < len → w.cell? ⟨b, off + i, none⟩ = some (.string (t i))) (hl : len ≤ 65536) (hx : 0 ≤ x) (hx' : x ≤ 1000000000) :
    Calls Try.prog 7 #[.int .i64 x, .slice (some ⟨b, off, none⟩) len cap] w fun e w' => ∃ r : Int, e = .returned (.int .i64 r) ∧ 0 ≤ r ∧ r ≤ 1000000000 ∧ w' = w := by
  go_enter Try.func7, Try.ntmps7
  go_wp2_with fail
  refine (add_any _ _ _ hx hx' (by omega)).mono ?_
  rintro e w' ⟨r, rfl, hr, hr', rfl⟩
  go_wp2
  go_loop [0, 5] (fun c i => ∃ (k : Nat) (r : Int), k ≤ len ∧ i = .int .i64 k ∧ c = .int .i64 r ∧ 0 ≤ r ∧ r ≤ 1000000000) (fun _ i => len - (intOf i).toNat)
  case atStart => exact ⟨0, r, Nat.zero_le _, rfl, rfl, hr, hr'⟩
  case round =>
    clear hr hr'
    obtain ⟨k, q, hk, rfl, rfl, hq, hq'⟩ := hrel
    by_cases hlt : k < len
    · by_cases hq2 : q ≤ 1048576
      · have h1 := hc k hlt
        go_wp2_with fail
        refine (add_any _ _ _ hq hq' (by omega)).mono ?_
        rintro e w2 ⟨r1, rfl, hr, hr', rfl⟩
        go_wp2
        go_round
        case rel => exact ⟨k + 1, r1, by omega, by go_num, rfl, hr, hr'⟩
        case measure => simp [intOf]; omega
      · go_wp2
        go_ret
        exact ⟨_, rfl, hq, hq', rfl⟩
    · go_wp2
      go_ret
      exact ⟨_, rfl, hq, hq', rfl⟩
theorem wordsBytes_none (a : Option Addr) (cap : Nat) (x : Int) (w : World) (hx : 0 ≤ x) (hx' : x ≤ 1000000000) :
    Calls Try.prog 7 #[.int .i64 x, .slice a 0 cap] w fun e w' => ∃ r : Int, e = .returned (.int .i64 r) ∧ 0 ≤ r ∧ r ≤ 1000000000 ∧ w' = w := by
  go_enter Try.func7, Try.ntmps7
  go_wp2_with fail
  refine (add_any _ _ _ hx hx' (by omega)).mono ?_
  rintro e w' ⟨r, rfl, hr, hr', rfl⟩
  go_wp2
  go_loop [0, 5] (fun c i => i = .int .i64 0 ∧ c = .int .i64 r) (fun _ _ => 0)
  case atStart => exact ⟨rfl, rfl⟩
  case round =>
    obtain ⟨rfl, rfl⟩ := hrel
    go_wp2
    go_ret
    exact ⟨_, rfl, hr, hr', rfl⟩
theorem wordsBytes_any (a : Option Addr) (len cap : Nat) (x : Int) (t : Nat → ByteArray) (w : World) (h : StrsIs w a len t) (hl : len ≤ 65536) (hx : 0 ≤ x) (hx' : x ≤ 1000000000) :
    Calls Try.prog 7 #[.int .i64 x, .slice a len cap] w fun e w' => ∃ r : Int, e = .returned (.int .i64 r) ∧ 0 ≤ r ∧ r ≤ 1000000000 ∧ w' = w := by
  rcases h with rfl | ⟨b, off, rfl, hc⟩
  · exact wordsBytes_none a cap x w hx hx'
  · exact wordsBytes_some b off len cap x t w hc hl hx hx'
end Go.Proofs.Qxb6621711a
