import Derived.WalkKit
import Derived.OpenShut
import Derived.ProofKit
import Derived.ShutString
import Derived.ChangeOld
import Derived.Below
import Derived.Deep.Matrix
import Derived.SliceStrings
import Derived.Test.Qxb6600323aApJ
namespace Go.Proofs.Qxb6600323a
open Go.ChangeShapes Go.WideShapes Go.ChangeAt Go.RowKit
set_option linter.unusedVariables false

theorem cellsOf28 : Try.prog.cellsOf 28 = 1 := by kernel_rfl
theorem cellsOf39 : Try.prog.cellsOf 39 = 1 := by kernel_rfl
theorem cellsOf9 : Try.prog.cellsOf 9 = 1 := by kernel_rfl
theorem cellsOf5 : Try.prog.cellsOf 5 = 1 := by kernel_rfl

/-- What the reading of a slice of slices of strings gives. -/
theorem keys_read {H : Type} {enc : TypeId × Value → H} {W : World} {a : Option Addr} {len cap : Nat} {d : DataW H} {p : List MemPlace} (h : DataW.Trod enc Try.prog W 0 (fun _ => true) true 22 (.slice a len cap) d p) :
    len ≤ maxLen ∧ ∃ aI nI cI kk, (∀ i, i < len → nI i ≤ maxLen) ∧ KeysAt W a len aI nI cI kk := by
  obtain ⟨fuel, hf⟩ := h
  rcases Go.Deep.open_slice1 Try.underlying22 cellsOf28 hf with ⟨hcs, _⟩ | ⟨x, l, c, m, n, V, D, Pl, hcs, _, hl, hm, hmm, _, hx⟩
  · simp [Value.cells] at hcs
    obtain ⟨rfl, rfl, rfl⟩ := hcs
    exact ⟨Nat.zero_le _, fun _ => none, fun _ => 0, fun _ => 0, fun _ _ => ⟨#[]⟩, fun i hi => by omega, fun h => absurd h (Nat.lt_irrefl 0)⟩
  · simp [Value.cells] at hcs
    obtain ⟨rfl, rfl, rfl⟩ := hcs
    simp only [if_true] at hmm
    subst hmm
    have each : ∀ r, r < m → ∃ y : Option Addr × Nat × Nat × List ByteArray, V r = .slice y.1 y.2.1 y.2.2.1 ∧ y.2.1 ≤ maxLen ∧ (0 < y.2.1 → ∃ b' off', y.1 = some ⟨b', off', none⟩ ∧ ∀ q, q < y.2.1 → W.cell? ⟨b', off' + q, none⟩ = some (.string (y.2.2.2.getD q ByteArray.empty))) := by
      intro r hr
      rcases Go.ChangeShapes.open_strings Try.underlying28 Try.underlying9 cellsOf9 (hx r hr).2 with ⟨hcs, hy⟩ | ⟨a', len', cap', ss, hcs, hb', hl', hm', hz, hy, hcell, hwz⟩
      · exact ⟨(none, 0, 0, []), by simpa using hcs, Nat.zero_le _, fun h => absurd h (Nat.lt_irrefl 0)⟩
      · simp only [if_true] at hz
        refine ⟨(some a', len', cap', ss), by simpa using hcs, by show len' ≤ maxLen; omega, fun hpos => ?_⟩
        have hpos' : 0 < len' := hpos
        have h0 := hcell 0 (by omega)
        obtain ⟨b, off, spot⟩ := a'
        have hspot : spot = none := by simpa [Addr.add] using World.cell?_spot h0
        subst hspot
        exact ⟨b, off, rfl, fun q hq => by
          have hq' : q < len' := hq
          rw [← add_plain]; exact hcell q (by omega)⟩
    obtain ⟨y, hy⟩ := Go.Deep.choose_lt each
    refine ⟨by omega, fun r => (y r).1, fun r => (y r).2.1, fun r => (y r).2.2.1, fun r q => (y r).2.2.2.getD q ByteArray.empty, fun i hi => (hy i (by omega)).2.1, fun hn => ?_⟩
    have h0 := (hx 0 (by omega)).1
    obtain ⟨b, off, spot⟩ := x
    have hspot : spot = none := by simpa [Addr.add] using World.cell?_spot h0
    subst hspot
    refine ⟨b, off, rfl, fun i hi => ⟨?_, (hy i (by omega)).2.2⟩⟩
    rw [← add_plain, (hx i (by omega)).1, (hy i (by omega)).1]

/-- What the reading of a slice of slices of bytes gives. -/
theorem ops_read {H : Type} {enc : TypeId × Value → H} {W : World} {a : Option Addr} {len cap : Nat} {d : DataW H} {p : List MemPlace} (h : DataW.Trod enc Try.prog W 0 (fun _ => true) true 23 (.slice a len cap) d p) :
    len ≤ maxLen ∧ ∃ aI nI cI oo, (∀ i, i < len → nI i ≤ maxLen) ∧ OpsAt W a len aI nI cI oo := by
  obtain ⟨fuel, hf⟩ := h
  rcases Go.Deep.open_int_rows Try.underlying23 Try.underlying39 Try.underlying5 cellsOf39 cellsOf5 hf with ⟨hcs, _⟩ | ⟨x, l, c, A, L, C, Z, hcs, _, hl, hm, _, hr⟩
  · simp [Value.cells] at hcs
    obtain ⟨rfl, rfl, rfl⟩ := hcs
    exact ⟨Nat.zero_le _, fun _ => none, fun _ => 0, fun _ => 0, fun _ _ => 0, fun i hi => by omega, fun h => absurd h (Nat.lt_irrefl 0)⟩
  · simp [Value.cells] at hcs
    obtain ⟨rfl, rfl, rfl⟩ := hcs
    refine ⟨by omega, A, L, C, fun r i => (Z r).getD i 0, fun i hi => by have := hr i (by omega); omega, fun hn => ?_⟩
    have h0 := (hr 0 (by omega)).1
    obtain ⟨b, off, spot⟩ := x
    have hspot : spot = none := by simpa [Addr.add] using World.cell?_spot h0
    subst hspot
    refine ⟨b, off, rfl, fun i hi => ?_⟩
    obtain ⟨q1, q2, q3, q4, _, q6, q7⟩ := hr i (by omega)
    refine ⟨by rw [← add_plain]; exact q1, fun hq => ?_⟩
    cases hA : A i with
    | none => have := q6 hA; omega
    | some a' =>
      have h1 := (q7 a' hA).2
      have h2 := h1 0 (by omega)
      obtain ⟨b', off', spot'⟩ := a'
      have hspot : spot' = none := by simpa [Addr.add] using World.cell?_spot h2
      subst hspot
      exact ⟨b', off', rfl, fun q hq => by rw [← add_plain]; exact h1 q (by omega)⟩
end Go.Proofs.Qxb6600323a
