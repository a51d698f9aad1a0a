/-
  The walks over the functions that only read: zzBytes_.., zzPop, zzHas, zzWellFormed.
-/
import Derived.Test.Qxb6619332aRows
import Derived.Test.Qxb6619332aPlain
import Derived.WalkKit
import Derived.WalkSpells
import Derived.WalkLawsBesides
import Derived.OpenShut
namespace Go.Proofs.Qxb6619332a
open Go.RowKit Pl

/-- a row of words that may be read: nothing is asked of an empty one -/
def RowIs (w : World) (a : Option Addr) (len : Nat) (f : Nat → Nat) : Prop :=
  len = 0 ∨ ∃ b off, a = some ⟨b, off, none⟩ ∧ ∀ i, i < len → w.cell? ⟨b, off + i, none⟩ = some (.int .u64 (f i : Int))

/-- the shells' reading of an argument, as a row of words -/
theorem row_of {w : World} {a : Option Addr} {len cap : Nat} {zs : List Int} (h : (a = none ∧ len = 0 ∧ cap = 0 ∧ zs = []) ∨
    ∃ x, a = some x ∧ len ≤ cap ∧ cap ≤ maxLen ∧ zs.length = cap ∧ (∀ i, i < zs.length → w.cell? (x.add i) = some (.int .u64 (zs.getD i 0))) ∧ ∀ n ∈ zs, (Lit.int .u64 n).wf = true) :
    ∃ f : Nat → Nat, RowIs w a len f ∧ Words f len ∧ len ≤ maxLen := by
  rcases h with ⟨rfl, rfl, _, _⟩ | ⟨x, rfl, hlc, hm, hz, hc, hwf⟩
  · exact ⟨fun _ => 0, .inl rfl, fun i hi => by omega, Nat.zero_le _⟩
  · have hb : ∀ i, i < zs.length → 0 ≤ zs.getD i 0 ∧ zs.getD i 0 ≤ 18446744073709551615 := fun i hi => by
      have hmem : zs.getD i 0 ∈ zs := by
        have e : zs.getD i 0 = zs[i] := by simp [hi]
        rw [e]; exact List.getElem_mem hi
      exact bounds_u64 (hwf _ hmem)
    refine ⟨fun i => (zs.getD i 0).toNat, ?_, fun i hi => by have := hb i (by omega); show (zs.getD i 0).toNat < _; omega, Nat.le_trans hlc hm⟩
    by_cases h0 : len = 0
    · exact .inl h0
    · obtain ⟨b, off, spot⟩ := x
      have hspot : spot = none := by simpa [Addr.add] using World.cell?_spot (hc 0 (by omega))
      subst hspot
      refine .inr ⟨b, off, rfl, fun i hi => ?_⟩
      have h1 := hc i (by omega)
      have h2 := hb i (by omega)
      have e : (((zs.getD i 0).toNat : Nat) : Int) = zs.getD i 0 := by omega
      rw [Addr.add_lit] at h1
      rw [e]
      exact h1

theorem ret_int {k : IntKind} {a b : Int} (h : a = b) : Ending.returned (.int k a) = .returned (.int k b) := by rw [h]

set_option maxHeartbeats 400000 in
theorem pop_some (b off len cap : Nat) (f : Nat → Nat) (w : World) (hc : ∀ i, i < len → w.cell? ⟨b, off + i, none⟩ = some (.int .u64 (f i : Int))) (hW : Words f len) (hl : len ≤ 65536) :
    Calls Try.prog 18 #[.slice (some ⟨b, off, none⟩) len cap] w fun e w' => e = .returned (.int .i64 (psum f len : Int)) ∧ w' = w := by
  go_enter Try.func18, Try.ntmps18
  go_wp2
  go_loop [3, 4] (fun c i => ∃ k : Nat, k ≤ len ∧ i = .int .i64 k ∧ c = .int .i64 (psum f k : Int)) (fun _ i => len - (intOf i).toNat)
  case atStart => exact ⟨0, Nat.zero_le _, rfl, rfl⟩
  case round =>
    obtain ⟨k, hk, rfl, rfl⟩ := hrel
    have hps := psum_le f k
    by_cases hlt : k < len
    · have hcell := hc k hlt
      have hw := hW k hlt
      have hpl := pop_le (f k)
      go_wp2
      go_loop [3, 5] (fun c x => ∃ cc xx : Nat, c = .int .i64 (cc : Int) ∧ x = .int .u64 (xx : Int) ∧ xx < 18446744073709551616 ∧ Hid (cc + pop xx = psum f k + pop (f k))) (fun _ x => (intOf x).toNat)
      case atStart => exact ⟨psum f k, f k, rfl, rfl, hw, rfl⟩
      case round =>
        obtain ⟨cc, xx, rfl, rfl, hx, hp⟩ := hrel
        have hcc : cc ≤ 64 * k + 64 := by have := hp.out; omega
        by_cases h0 : xx = 0
        · subst h0
          go_wp2
          go_round
          case rel => exact ⟨k + 1, by omega, by go_num, by have := hp.out; rw [pop_zero] at this; simp only [psum]; rw [← this]; go_num⟩
          case measure => simp [intOf]; omega
        · have h1 : 1 ≤ xx := by omega
          have hne : ((xx : Int) != 0) = true := by rw [bne_iff_ne]; omega
          have hand : bits .and .u64 (xx : Int) ((xx : Int) - 1) = ((xx &&& (xx - 1) : Nat) : Int) := by
            rw [show (xx : Int) - 1 = ((xx - 1 : Nat) : Int) by omega]
            exact u64_and_nat _ _ hx (by omega)
          have hk1 := kern xx h0 hx
          have hle : xx &&& (xx - 1) ≤ xx - 1 := Nat.and_le_right
          generalize xx &&& (xx - 1) = yy at *
          go_wp2
          go_round
          case rel => exact ⟨cc + 1, yy, by go_num, rfl, by omega, by show cc + 1 + pop yy = _; have := hp.out; omega⟩
          case measure => simp [intOf]; omega
    · go_wp2
      go_ret
      exact ⟨ret_int (by rw [show k = len by omega]), rfl⟩

theorem pop_none (a : Option Addr) (cap : Nat) (w : World) :
    Calls Try.prog 18 #[.slice a 0 cap] w fun e w' => e = .returned (.int .i64 0) ∧ w' = w := by
  go_enter Try.func18, Try.ntmps18
  go_wp2
  go_loop [3, 4] (fun c i => c = .int .i64 0 ∧ i = .int .i64 0) (fun _ _ => 0)
  case atStart => exact ⟨rfl, rfl⟩
  case round =>
    obtain ⟨rfl, rfl⟩ := hrel
    go_wp2
    go_ret
    exact ⟨rfl, rfl⟩

theorem pop_any (a : Option Addr) (len cap : Nat) (f : Nat → Nat) (w : World) (hr : RowIs w a len f) (hW : Words f len) (hl : len ≤ 65536) :
    Calls Try.prog 18 #[.slice a len cap] w fun e w' => e = .returned (.int .i64 (psum f len : Int)) ∧ w' = w := by
  rcases hr with rfl | ⟨b, off, rfl, hc⟩
  · exact pop_none a cap w
  · exact pop_some b off len cap f w hc hW hl

/-! zzBytes_..: with a length that the law lets by they answer true; else they may answer false -/
theorem bytes8 (a : Option Addr) (len cap : Nat) (x y z : Int) (w : World) (hl : len ≤ 1048576) :
    Calls Try.prog 8 #[.slice a len cap, .int .i64 x, .int .i64 y, .int .i64 z] w fun e w' => e = .returned (.bool true) ∧ w' = w := by
  go_enter Try.func8, Try.ntmps8
  go_wp2
  go_ret
  exact ⟨rfl, rfl⟩
theorem bytes8_no (a : Option Addr) (len cap : Nat) (x y z : Int) (w : World) (hl : 1048576 < len) :
    Calls Try.prog 8 #[.slice a len cap, .int .i64 x, .int .i64 y, .int .i64 z] w fun e w' => e = .returned (.bool false) ∧ w' = w := by
  go_enter Try.func8, Try.ntmps8
  go_wp2
  go_ret
  exact ⟨rfl, rfl⟩

theorem ret_bool {a b : Bool} (h : a = b) : Ending.returned (.bool a) = .returned (.bool b) := by rw [h]
theorem bits_has (x i : Nat) (hx : x < 18446744073709551616) : (bits .and .u64 ((x : Int) / 2 ^ i) 1 == 1) = x.testBit i := by
  have e1 : ((x : Int) / 2 ^ i) = ((x / 2 ^ i : Nat) : Int) := by simp
  have e2 := u64_and_nat (x / 2 ^ i) 1 (Nat.lt_of_le_of_lt (Nat.div_le_self _ _) hx) (by omega)
  rw [e1, show (1 : Int) = ((1 : Nat) : Int) from rfl, e2, Nat.testBit_eq_decide_div_mod_eq, nat_mask1, Bool.eq_iff_iff]
  simp
  omega

set_option maxHeartbeats 400000 in
theorem has_any (b off len cap k : Nat) (x : Nat) (w : World) (hk : k / 64 < len) (hl : len ≤ 65536) (hc : w.cell? ⟨b, off + k / 64, none⟩ = some (.int .u64 (x : Int))) (hx : x < 18446744073709551616) :
    Calls Try.prog 11 #[.slice (some ⟨b, off, none⟩) len cap, .int .i64 (k : Int)] w fun e w' => e = .returned (.bool (x.testBit (k % 64))) ∧ w' = w := by
  have hk' : k < 4194304 := by omega
  go_enter Try.func11, Try.ntmps11
  go_wp2
  go_ret
  exact ⟨ret_bool (bits_has x (k % 64) hx), rfl⟩
end Go.Proofs.Qxb6619332a
