import Derived.Test.Qxb6600323aApC
import Derived.Deep.RegionHeld3
import Derived.Deep.RegionLaw
import Derived.Deep.DrawnRows
import Derived.Deep.AppendLies
namespace Go.Proofs.Qxb6600323a
open Go.RowKit
set_option linter.unusedVariables false
set_option linter.unusedSimpArgs false
attribute [local go_sem ↓] Go.wp_at_zero Go.wp_at_succ

/-- append by its run's equation, in a region that draws. -/
theorem step_app_run {P : Program} {ops : Array Oper} {o : Oper} {a : Act} {w : World} {K : Act → World → Prop} {Q : Exit → Act → World → Prop} {E : Prop}
    (hg : o.guard = none) (s x : Operand) (t : TypeId) (hop : o.op = Op.call { callee := Callee.builtin Builtin.append, args := #[s, x], argTypes := #[t, t] })
    {v1 v2 v' : Value} {w' : World} (hs : a.eval s = v1) (hx : a.eval x = v2) (hrun : (Builtin.append_ #[t, t] o.type #[v1, v2]).run P w = .ok v' w')
    (hK : K (a.put o.dst v') w') :
    if Region.wanted o (yielded ops a.tmps) = true then Oper.wp P o a w K Q else E := by
  have hw : Region.wanted o (yielded ops a.tmps) = true := by simp [Region.wanted, hg]
  rw [if_pos hw]
  unfold Oper.wp
  simp [execOp, hop, resolve, invoke, builtin, hs, hx, hrun, Result.andThen]
  exact hK

theorem Try.zero3 (w : World) : (zeroValue 3).run Try.prog w = .ok (.int .i64 0) w := by kernel_rfl
theorem Try.zero76 (w : World) : (zeroValue 76).run Try.prog w = .ok (.slice none 0 0) w := by kernel_rfl
theorem cell_al {w : World} {a : Addr} {v : Value} (h : w.cell? a = some v) (o : Obj) : (w.alloc o).cell? a = some v := (World.cell?_of_block (Below.heap_alloc _ _ _ (World.block_lt_of_cell? w _ h))).trans h
theorem cell_so {w : World} {b c i j : Nat} {u v : Value} (h : w.cell? ⟨c, j, none⟩ = some v) (hne : c ≠ b) : (w.setCell ⟨b, i, none⟩ u).cell? ⟨c, j, none⟩ = some v := (cell_setOther hne).trans h
def AB (w0 : World) (N : Nat) (I : Inp) (SB PM sb base len : Nat) (s : St) (w : World) : Prop :=
  ∃ ov em M Eo E, ABs w0 N w SB PM s ov em M Eo E ∧ ABr N I w sb base len s M E ∧ (em.isSome = true → 0 < s.cnt)
def steps (I : Inp) (rep : Bool) (s : St) (base : Nat) : Nat → St
  | 0 => s
  | p + 1 => (steps I rep s base p).step I rep (base + p)
def St.Fits (s : St) (b : Nat) : Prop := s.n ≤ b ∧ ∀ j, j < s.n → (s.made j).length ≤ b ∧ (s.early j).length ≤ b
theorem St.Fits.step {s : St} {b : Nat} (h : s.Fits b) (I : Inp) (rep : Bool) (i : Nat) : (s.step I rep i).Fits (b + 1) := by
  obtain ⟨h1, h2⟩ := h
  unfold St.step
  split
  · refine ⟨Nat.succ_le_succ h1, fun j hj => ?_⟩
    have hj' : j < s.n + 1 := hj
    by_cases e : j = s.n
    · subst e
      simp [St.new, upd_same]
    · simp only [St.new, upd_other _ _ e]
      have := h2 j (by omega)
      omega
  · rename_i j0 _
    split
    · refine ⟨Nat.le_succ_of_le h1, fun j hj => ?_⟩
      have := h2 j hj
      by_cases e : j = j0
      · subst e
        simp [St.app, upd_same]
        omega
      · simp only [St.app, upd_other _ _ e]
        omega
    · split
      · refine ⟨Nat.le_succ_of_le h1, fun j hj => ?_⟩
        have := h2 j hj
        by_cases e : j = j0
        · subst e
          simp [St.set, St.bury, upd_same]
          omega
        · simp only [St.set, St.bury, upd_other _ _ e]
          omega
      · refine ⟨Nat.le_succ_of_le h1, fun j hj => ?_⟩
        have := h2 j hj
        by_cases e : j = j0
        · subst e
          simp [St.set, upd_same]
          omega
        · simp only [St.set, upd_other _ _ e]
          omega
theorem steps_fits {s : St} {base : Nat} (h : s.Fits base) (I : Inp) (rep : Bool) (p : Nat) : (steps I rep s base p).Fits (base + p) := by
  induction p with
  | zero => exact h
  | succ p ih => exact ih.step I rep _
/-- The cells of line p of the settings. -/
theorem ABr.line {N : Nat} {I : Inp} {w : World} {sb base len p : Nat} {s : St} {M : Nat → Value} {E : Nat → Nat → Value} (h : ABr N I w sb base len s M E) (hp : p < len) {f : Nat} {u : Value} (hf : (asg I (base + p))[f]? = some u) : w.cell? ⟨sb, p * 9 + f, none⟩ = some u := by
  obtain ⟨b, off, cap, cs, e, h1, h2, h3, _⟩ := h.view hp
  simp at e
  obtain ⟨⟨rfl, rfl⟩, e1⟩ := e
  rw [cell_of_row w sb _ cs 71 (0, 0) h2]
  exact h3 f u (by simpa [asgL] using hf)
theorem ABs.ovIs {w0 : World} {N : Nat} {w : World} {SB PM : Nat} {s : St} {ov : Value} {em : Option Nat} {M Eo : Nat → Value} {E : Nat → Nat → Value} (h : ABs w0 N w SB PM s ov em M Eo E) (hn : 0 < s.n) :
    ∃ ob cap, ov = .slice (some ⟨ob, 0, none⟩) s.n cap ∧ s.n ≤ cap ∧ ob < w.heap.size ∧ (∀ j, j < s.n → w.cell? ⟨ob, j * 2, none⟩ = some (.string (s.key j)) ∧ w.cell? ⟨ob, j * 2 + 1, none⟩ = some (M j)) ∧ ∀ i, w.frozen? ⟨ob, i, none⟩ = false := by
  rcases id h.own.2 with ⟨_, q⟩ | ⟨g, cap, cur, e, _, hg, hc, _⟩
  · omega
  · refine ⟨g, cap, e, hc, (Array.getElem?_eq_some_iff.1 hg).1, fun j hj => ?_, fun i => ?_⟩
    · have h1 := h.own.cells (g := g) (by rw [e]; rfl) (j * 2) _ (ownL_0 _ _ hj)
      have h2 := h.own.cells (g := g) (by rw [e]; rfl) (j * 2 + 1) _ (ownL_1 _ _ hj)
      rw [show ∀ k, (⟨g, 0, none⟩ : Addr).add k = ⟨g, k, none⟩ from fun k => by unfold Addr.add; split <;> simp_all] at h1 h2
      exact ⟨h1, h2⟩
    · exact frozen_of_row w g i cur 74 hg

end Go.Proofs.Qxb6600323a
