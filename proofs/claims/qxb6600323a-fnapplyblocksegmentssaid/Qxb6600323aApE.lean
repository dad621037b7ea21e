import Derived.Test.Qxb6600323aApA
import Derived.Test.Qxb6600323aRelA
namespace Go.Proofs.Qxb6600323a
open Go.RowKit
set_option linter.unusedVariables false

theorem Try.info3Q : (Try.prog.info? 3).map (fun i => (i.zero, i.size, i.bytes)) = some (some (.int .i64 0), 1, 8) := by kernel_rfl
/-- The lines of a run, as the cells of a row. -/
def lineC (L : List Nat) (i : Nat) : Value := .int .i64 ((L.getD i 0 : Nat) : Int)

set_option maxHeartbeats 1000000 in
theorem lines_any (I : Inp) (w : World) (v : Value) (L : List Nat) (h : Run I w v L) (hL : L.length ≤ 1048576) :
    Calls Try.prog 37 #[v] w fun e w' => e = .returned (.slice (some ⟨w.heap.size, 0, none⟩) L.length L.length) ∧ w'.rowIs w.heap.size 3 L.length (lineC L) ∧ Below w.heap.size w w' := by
  obtain ⟨b, off, cap, cs, rfl, h1, h2, h3, _⟩ := h
  have hlb : b < w.heap.size := (Array.getElem?_eq_some_iff.1 h2).1
  have hmk := run_make_row' (P := Try.prog) 34 3 (.int .i64 0) 8 Try.underlying34 Try.info3Q rfl .i64 .i64 L.length (by omega) (by omega)
  have HC : Hid (∀ k, k < L.length → w.cell? ⟨b, off + k * 9 + 4, none⟩ = some (lineC L k)) := by
    intro k hk
    rw [cell_of_row w b _ cs 71 (0, 0) h2, Nat.add_assoc]
    refine h3 _ _ ?_
    rw [asgL_get I L k L[k] 4 (List.getElem?_eq_getElem hk) (by omega)]
    simp [asg, lineC, hk]
  clear h2 h3
  go_enter Try.func37, Try.ntmps37
  go_wp2_with fail
  go_loopw [4] (fun i wr => ∃ k : Nat, k ≤ L.length ∧ i = .int .i64 k ∧ Below w.heap.size w wr ∧ wr.rowIs w.heap.size 3 L.length (partR k (lineC L) (.int .i64 0))) (fun i _ => L.length - (intOf i).toNat)
  case atStart => exact ⟨0, Nat.zero_le _, rfl, (Below.refl _ _).alloc (Nat.le_refl _) _, partR_start (World.rowIs_made _ _ _ _)⟩
  case round =>
    obtain ⟨k, hk, rfl, hb, hrow⟩ := hrel
    by_cases hlt : k < L.length
    · have hc : wr.cell? ⟨b, off + k * 9 + 4, none⟩ = some (lineC L k) := by rw [hb.cell (by exact hlb)]; exact HC.out k hlt
      obtain ⟨x, hx⟩ : ∃ x : Int, Hid (lineC L k = .int .i64 x) := ⟨_, rfl⟩
      rw [hx.out] at hc
      have hd := hrow.cell hlt
      have hf := hrow.frozen k
      go_wp2_with fail
      go_roundw
      case rel =>
        refine ⟨k + 1, by omega, by go_num, hb.setCell (Nat.le_refl _) _, ?_⟩
        have := partR_set (f := lineC L) hrow
        rw [hx.out] at this
        exact this
      case measure => simp [intOf]; omega
    · obtain rfl : k = L.length := by omega
      go_wp2_with fail
      go_ret
      exact ⟨rfl, partR_end hrow, hb⟩
end Go.Proofs.Qxb6600323a
