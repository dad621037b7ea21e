import Derived.Test.Qxb6600323aApA
namespace Go.Proofs.Qxb6600323a
open Go.RowKit
set_option linter.unusedVariables false

/-! ### blocks laid end to end -/
def psum (nI : Nat → Nat) : Nat → Nat
  | 0 => 0
  | k + 1 => psum nI k + nI k
def gflat {α : Type} (nI : Nat → Nat) (f : Nat → Nat → α) : Nat → List α
  | 0 => []
  | k + 1 => gflat nI f k ++ (List.range (nI k)).map (f k)
theorem gflat_len {α : Type} (nI : Nat → Nat) (f : Nat → Nat → α) (k : Nat) : (gflat nI f k).length = psum nI k := by
  induction k with
  | zero => rfl
  | succ k ih => simp [gflat, psum, ih]
theorem gflat_get {α : Type} (nI : Nat → Nat) (f : Nat → Nat → α) {k b q : Nat} (hb : b < k) (hq : q < nI b) : (gflat nI f k)[psum nI b + q]? = some (f b q) := by
  induction k with
  | zero => omega
  | succ k ih =>
    by_cases e : b = k
    · subst e
      rw [gflat, List.getElem?_append_right (by rw [gflat_len]; omega), gflat_len]
      simp [hq]
    · have h := ih (by omega)
      have hl := (List.getElem?_eq_some_iff.1 h).1
      rw [gflat, List.getElem?_append_left hl]
      exact h
theorem psum_le (nI : Nat → Nat) {k n : Nat} (h : k ≤ n) : psum nI k ≤ psum nI n := by
  induction n with
  | zero => have : k = 0 := by omega
            subst this; exact Nat.le_refl _
  | succ n ih =>
    by_cases e : k = n + 1
    · subst e; exact Nat.le_refl _
    · have := ih (by omega)
      simp [psum]; omega
theorem psum_lt (nI : Nat → Nat) {b n q : Nat} (hb : b < n) (hq : q < nI b) : psum nI b + q < psum nI n := by
  have := psum_le nI (show b + 1 ≤ n by omega)
  simp [psum] at this
  omega
def inpOf (nB : Nat) (nI : Nat → Nat) (kk : Nat → Nat → ByteArray) (oo : Nat → Nat → Int) : Inp := ⟨fun i => (gflat nI kk nB).getD i ⟨#[]⟩, fun i => (gflat nI oo nB).getD i 0⟩
theorem inp_K {nB : Nat} {nI : Nat → Nat} {kk : Nat → Nat → ByteArray} {oo : Nat → Nat → Int} {b q : Nat} (hb : b < nB) (hq : q < nI b) : (inpOf nB nI kk oo).K (psum nI b + q) = kk b q := by
  simp [inpOf, gflat_get nI kk hb hq]
theorem inp_O {nB : Nat} {nI : Nat → Nat} {kk : Nat → Nat → ByteArray} {oo : Nat → Nat → Int} {b q : Nat} (hb : b < nB) (hq : q < nI b) : (inpOf nB nI kk oo).O (psum nI b + q) = oo b q := by
  simp [inpOf, gflat_get nI oo hb hq]

/-- The blocks of keys lie there. -/
def KeysAt (w : World) (a : Option Addr) (nB : Nat) (aI : Nat → Option Addr) (nI cI : Nat → Nat) (kk : Nat → Nat → ByteArray) : Prop :=
  0 < nB → ∃ b off, a = some ⟨b, off, none⟩ ∧ ∀ i, i < nB → w.cell? ⟨b, off + i, none⟩ = some (.slice (aI i) (nI i) (cI i)) ∧ (0 < nI i → ∃ b' off', aI i = some ⟨b', off', none⟩ ∧ ∀ q, q < nI i → w.cell? ⟨b', off' + q, none⟩ = some (.string (kk i q)))
def OpsAt (w : World) (a : Option Addr) (nB : Nat) (aI : Nat → Option Addr) (nI cI : Nat → Nat) (oo : Nat → Nat → Int) : Prop :=
  0 < nB → ∃ b off, a = some ⟨b, off, none⟩ ∧ ∀ i, i < nB → w.cell? ⟨b, off + i, none⟩ = some (.slice (aI i) (nI i) (cI i)) ∧ (0 < nI i → ∃ b' off', aI i = some ⟨b', off', none⟩ ∧ ∀ q, q < nI i → w.cell? ⟨b', off' + q, none⟩ = some (.int .u8 (oo i q)))
theorem KeysAt.below {w w' : World} {a : Option Addr} {nB : Nat} {aI : Nat → Option Addr} {nI cI : Nat → Nat} {kk : Nat → Nat → ByteArray} (h : KeysAt w a nB aI nI cI kk) (hb : Below w.heap.size w w') : KeysAt w' a nB aI nI cI kk := by
  intro hn
  obtain ⟨b, off, e, hc⟩ := h hn
  refine ⟨b, off, e, fun i hi => ?_⟩
  obtain ⟨h1, h2⟩ := hc i hi
  refine ⟨by rw [hb.cell (World.block_lt_of_cell? w _ h1)]; exact h1, fun hq => ?_⟩
  obtain ⟨b', off', e', hc'⟩ := h2 hq
  exact ⟨b', off', e', fun q hq => by rw [hb.cell (World.block_lt_of_cell? w _ (hc' q hq))]; exact hc' q hq⟩
theorem OpsAt.below {w w' : World} {a : Option Addr} {nB : Nat} {aI : Nat → Option Addr} {nI cI : Nat → Nat} {oo : Nat → Nat → Int} (h : OpsAt w a nB aI nI cI oo) (hb : Below w.heap.size w w') : OpsAt w' a nB aI nI cI oo := by
  intro hn
  obtain ⟨b, off, e, hc⟩ := h hn
  refine ⟨b, off, e, fun i hi => ?_⟩
  obtain ⟨h1, h2⟩ := hc i hi
  refine ⟨by rw [hb.cell (World.block_lt_of_cell? w _ h1)]; exact h1, fun hq => ?_⟩
  obtain ⟨b', off', e', hc'⟩ := h2 hq
  exact ⟨b', off', e', fun q hq => by rw [hb.cell (World.block_lt_of_cell? w _ (hc' q hq))]; exact hc' q hq⟩
end Go.Proofs.Qxb6600323a
