/-
  How the arguments are opened: a slice of pairs of strings, a slice of strings, a pair of strings.
-/
import Derived.Test.Qxb6621711aWalkB
import Derived.ProofKit
import Derived.OpenShut
import Derived.ShutString
import Derived.ChangeOld
import Derived.Below
import Derived.Deep.SlicePairs
import Derived.SliceStrings
import Derived.Lib.SmallJoins
namespace Go.Proofs.Qxb6621711a
open Go.ChangeShapes Go.WideShapes Go.ChangeAt Go.RowKit Go.Deep

theorem pairs_of {H : Type} {enc : TypeId × Value → H} {W : World} {a : Option Addr} {len cap : Nat} {d : DataW H} {p : List MemPlace}
    (h : DataW.Trod enc Try.prog W 0 (fun _ => true) true 22 (.slice a len cap) d p) : ∃ t n, RowIs W a len t n ∧ len ≤ maxLen := by
  obtain ⟨fuel, hf⟩ := h
  rcases open_slice_pairs Try.underlying22 Try.underlying30 (by kernel_rfl) rfl rfl (by kernel_rfl) (by kernel_rfl) hf with ⟨hcs, _⟩ | ⟨x, l, c, m, q, V0, V1, D0, D1, P0, P1, hcs, _, hl, hm, hmm, _, hx⟩
  · simp [Value.cells] at hcs
    obtain ⟨rfl, rfl, rfl⟩ := hcs
    exact ⟨fun _ => ByteArray.empty, fun _ => ByteArray.empty, .inl rfl, Nat.zero_le _⟩
  · simp [Value.cells] at hcs
    obtain ⟨rfl, rfl, rfl⟩ := hcs
    simp only [if_true] at hmm
    subst hmm
    have h0 : ∀ i, i < m → ∃ s : ByteArray, V0 i = .string s := fun i hi => by
      obtain ⟨s, e, _⟩ := DataW.trod_string Try.underlying9 (hx i hi).2.2.1
      simp at e
      exact ⟨s, e⟩
    have h1 : ∀ i, i < m → ∃ s : ByteArray, V1 i = .string s := fun i hi => by
      obtain ⟨s, e, _⟩ := DataW.trod_string Try.underlying9 (hx i hi).2.2.2
      simp at e
      exact ⟨s, e⟩
    obtain ⟨t, ht⟩ := choose_lt h0
    obtain ⟨n, hn⟩ := choose_lt h1
    refine ⟨t, n, ?_, Nat.le_trans hl hm⟩
    by_cases hz : len = 0
    · exact .inl hz
    · obtain ⟨b, off, spot⟩ := x
      have hspot : spot = none := by simpa [Addr.add] using World.cell?_spot (hx 0 (by omega)).1
      subst hspot
      refine .inr ⟨b, off, rfl, fun i hi => ?_⟩
      have g := hx i (by omega)
      have g1 := g.1
      have g2 := g.2.1
      rw [Addr.add_lit, ht i (by omega)] at g1
      rw [Addr.add_lit, hn i (by omega), ← Nat.add_assoc] at g2
      exact ⟨g1, g2⟩

theorem strs_of {H : Type} {enc : TypeId × Value → H} {W : World} {a : Option Addr} {len cap : Nat} {d : DataW H} {p : List MemPlace}
    (h : DataW.Trod enc Try.prog W 0 (fun _ => true) true 23 (.slice a len cap) d p) : ∃ t, StrsIs W a len t ∧ len ≤ maxLen := by
  obtain ⟨fuel, hf⟩ := h
  rcases open_strings Try.underlying23 Try.underlying9 (by kernel_rfl) hf with ⟨hcs, _⟩ | ⟨x, l, c, ss, hcs, _, hl, hm, hz, _, hx, _⟩
  · simp [Value.cells] at hcs
    obtain ⟨rfl, rfl, rfl⟩ := hcs
    exact ⟨fun _ => ByteArray.empty, .inl rfl, Nat.zero_le _⟩
  · simp [Value.cells] at hcs
    obtain ⟨rfl, rfl, rfl⟩ := hcs
    simp only [if_true] at hz
    refine ⟨fun i => ss.getD i ByteArray.empty, ?_, Nat.le_trans hl hm⟩
    by_cases h0 : len = 0
    · exact .inl h0
    · obtain ⟨b, off, spot⟩ := x
      have hspot : spot = none := by simpa [Addr.add] using World.cell?_spot (hx 0 (by omega))
      subst hspot
      refine .inr ⟨b, off, rfl, fun i hi => ?_⟩
      have g := hx i (by omega)
      rw [Addr.add_lit] at g
      exact g

theorem pair_of {H : Type} {enc : TypeId × Value → H} {W : World} {r : Reach} {b0 : Nat} {v : Value} {d : DataW H} {p : List MemPlace}
    (hv : Value.okWide Try.prog W r b0 30 v) (h : DataW.Trod enc Try.prog W 0 (fun _ => true) true 30 v d p) : ∃ et en : ByteArray, v = .agg #[.string et, .string en] := by
  obtain ⟨c0, c1, y0, y1, m, rfl, _, _, hy0, hy1⟩ := Joins.open_agg2 Try.underlying30 (by kernel_rfl) (by kernel_rfl) hv h
  obtain ⟨s0, e0, _⟩ := DataW.trod_string Try.underlying9 hy0
  obtain ⟨s1, e1, _⟩ := DataW.trod_string Try.underlying9 hy1
  simp at e0 e1
  subst e0 e1
  exact ⟨s0, s1, rfl⟩
end Go.Proofs.Qxb6621711a
