import Derived.Test.Qxb6600323aApG
namespace Go.Proofs.Qxb6600323a
open Go.RowKit
set_option linter.unusedVariables false
set_option linter.unusedSimpArgs false

def sl (b l : Nat) : Value := .slice (some ⟨b, 0, none⟩) l l
def keyC (s : St) (j : Nat) : Value := .string (s.key j)
def madeC (s : St) (mB : Nat → Nat) (j : Nat) : Value := sl (mB j) (s.made j).length
def earC (s : St) (eB : Nat → Nat) (j : Nat) : Value := if s.early j = [] then .slice none 0 0 else sl (eB j) (s.early j).length
def idC (j : Nat) : Value := .int .i64 (j : Int)
def runC (s : St) (eR : Nat → Nat → Nat) (j r : Nat) : Value := sl (eR j r) ((s.early j).getD r []).length

/-- The four rows that ZZApplyBlocks returns, being laid. -/
structure Out (w : World) (B : Nat) (s : St) (k1 k2 k3 k4 k5 : Nat) (mB eB : Nat → Nat) (eR : Nat → Nat → Nat) : Prop where
  r1 : w.rowIs B 9 s.n (partR k1 (keyC s) (.string ⟨#[]⟩))
  r2 : w.rowIs (B + 1) 34 s.n (partR k2 (madeC s mB) (.slice none 0 0))
  r3 : w.rowIs (B + 2) 32 s.n (partR k3 (earC s eB) (.slice none 0 0))
  r4 : w.rowIs (B + 3) 3 s.n (partR k4 idC (.int .i64 0))
  mR : ∀ j, j < k2 → B + 4 ≤ mB j ∧ w.rowIs (mB j) 3 (s.made j).length (lineC (s.made j))
  eR : ∀ j, j < k5 → s.early j ≠ [] → B + 4 ≤ eB j ∧ w.rowIs (eB j) 34 (s.early j).length (runC s eR j) ∧ ∀ r, r < (s.early j).length → B + 4 ≤ eR j r ∧ w.rowIs (eR j r) 3 ((s.early j).getD r []).length (lineC ((s.early j).getD r []))

section
variable {w w' : World} {B : Nat} {s : St} {k1 k2 k3 k4 k5 : Nat} {mB eB : Nat → Nat} {eR : Nat → Nat → Nat}
theorem Out.kept (h : Out w B s k1 k2 k3 k4 k5 mB eB eR) (hb : ∀ k, k < w.heap.size → w'.heap[k]? = w.heap[k]?) : Out w' B s k1 k2 k3 k4 k5 mB eB eR :=
  ⟨h.r1.of_block (hb _ h.r1.lt), h.r2.of_block (hb _ h.r2.lt), h.r3.of_block (hb _ h.r3.lt), h.r4.of_block (hb _ h.r4.lt), fun j hj => ⟨(h.mR j hj).1, (h.mR j hj).2.of_block (hb _ (h.mR j hj).2.lt)⟩,
    fun j hj he => by
      obtain ⟨a1, a2, a3⟩ := h.eR j hj he
      exact ⟨a1, a2.of_block (hb _ a2.lt), fun r hr => ⟨(a3 r hr).1, (a3 r hr).2.of_block (hb _ (a3 r hr).2.lt)⟩⟩⟩
theorem Out.drew (h : Out w B s k1 k2 k3 k4 k5 mB eB eR) : Out w.drew B s k1 k2 k3 k4 k5 mB eB eR := h.kept (fun _ _ => rfl)
theorem Out.alloc (h : Out w B s k1 k2 k3 k4 k5 mB eB eR) (o : Obj) : Out (w.alloc o) B s k1 k2 k3 k4 k5 mB eB eR := h.kept (fun k hk => Below.heap_alloc _ _ _ hk)
/-- A store into one of the four rows leaves the others and the runs. -/
theorem Out.far (h : Out w B s k1 k2 k3 k4 k5 mB eB eR) {b i : Nat} (hb : b < B + 4) (v : Value) :
    (∀ j, j < k2 → B + 4 ≤ mB j ∧ (w.setCell ⟨b, i, none⟩ v).rowIs (mB j) 3 (s.made j).length (lineC (s.made j))) ∧
    (∀ j, j < k5 → s.early j ≠ [] → B + 4 ≤ eB j ∧ (w.setCell ⟨b, i, none⟩ v).rowIs (eB j) 34 (s.early j).length (runC s eR j) ∧ ∀ r, r < (s.early j).length → B + 4 ≤ eR j r ∧ (w.setCell ⟨b, i, none⟩ v).rowIs (eR j r) 3 ((s.early j).getD r []).length (lineC ((s.early j).getD r []))) := by
  constructor
  · intro j hj
    obtain ⟨a1, a2⟩ := h.mR j hj
    exact ⟨a1, a2.setOther (by show mB j ≠ b; omega) _⟩
  · intro j hj he
    obtain ⟨a1, a2, a3⟩ := h.eR j hj he
    refine ⟨a1, a2.setOther (by show eB j ≠ b; omega) _, fun r hr => ?_⟩
    obtain ⟨c1, c2⟩ := a3 r hr
    exact ⟨c1, c2.setOther (by show eR j r ≠ b; omega) _⟩
theorem Out.set1 (h : Out w B s k1 k2 k3 k4 k5 mB eB eR) : Out (w.setCell ⟨B, k1, none⟩ (.string (s.key k1))) B s (k1 + 1) k2 k3 k4 k5 mB eB eR := by
  have hf := h.far (b := B) (i := k1) (by omega) (.string (s.key k1))
  exact ⟨partR_set (f := keyC s) h.r1, h.r2.setOther (by show B + 1 ≠ B; omega) _, h.r3.setOther (by show B + 2 ≠ B; omega) _, h.r4.setOther (by show B + 3 ≠ B; omega) _, hf.1, hf.2⟩
theorem Out.set4 (h : Out w B s k1 k2 k3 k4 k5 mB eB eR) : Out (w.setCell ⟨B + 3, k4, none⟩ (.int .i64 (k4 : Int))) B s k1 k2 k3 (k4 + 1) k5 mB eB eR := by
  have hf := h.far (b := B + 3) (i := k4) (by omega) (.int .i64 (k4 : Int))
  exact ⟨h.r1.setOther (by show B ≠ B + 3; omega) _, h.r2.setOther (by show B + 1 ≠ B + 3; omega) _, h.r3.setOther (by show B + 2 ≠ B + 3; omega) _, partR_set (f := idC) h.r4, hf.1, hf.2⟩
theorem Out.set2 (h : Out w B s k1 k2 k3 k4 k5 mB eB eR) {nb : Nat} (hn : B + 4 ≤ nb) (hr : w.rowIs nb 3 (s.made k2).length (lineC (s.made k2))) :
    Out (w.setCell ⟨B + 1, k2, none⟩ (.slice (some ⟨nb, 0, none⟩) (s.made k2).length (s.made k2).length)) B s k1 (k2 + 1) k3 k4 k5 (upd mB k2 nb) eB eR := by
  have hf := h.far (b := B + 1) (i := k2) (by omega) (.slice (some ⟨nb, 0, none⟩) (s.made k2).length (s.made k2).length)
  refine ⟨h.r1.setOther (by show B ≠ B + 1; omega) _, ?_, h.r3.setOther (by show B + 2 ≠ B + 1; omega) _, h.r4.setOther (by show B + 3 ≠ B + 1; omega) _, ?_, hf.2⟩
  · have h2 : w.rowIs (B + 1) 34 s.n (partR k2 (madeC s (upd mB k2 nb)) (.slice none 0 0)) := h.r2.congr (fun i hi => by
      unfold partR madeC
      by_cases e : i < k2
      · rw [if_pos e, if_pos e, upd_other _ _ (by omega)]
      · rw [if_neg e, if_neg e])
    have := partR_set (f := madeC s (upd mB k2 nb)) h2
    rw [show madeC s (upd mB k2 nb) k2 = .slice (some ⟨nb, 0, none⟩) (s.made k2).length (s.made k2).length by simp [madeC, upd_same, sl]] at this
    exact this
  · intro j hj
    by_cases e : j = k2
    · subst e
      rw [upd_same]
      exact ⟨hn, hr.setOther (by show nb ≠ B + 1; omega) _⟩
    · rw [upd_other _ _ e]
      exact hf.1 j (by omega)
theorem Out.skip (h : Out w B s k1 k2 k3 k4 k5 mB eB eR) (he : s.early k3 = []) : Out w B s k1 k2 (k3 + 1) k4 k5 mB eB eR := by
  refine ⟨h.r1, h.r2, h.r3.congr (fun i hi => ?_), h.r4, h.mR, h.eR⟩
  unfold partR
  by_cases e : i < k3
  · have e1 : i < k3 + 1 := by omega
    rw [if_pos e, if_pos e1]
  · rw [if_neg e]
    by_cases e2 : i = k3
    · subst e2
      rw [if_pos (Nat.lt_succ_self _), earC, if_pos he]
    · have e1 : ¬ i < k3 + 1 := by omega
      rw [if_neg e1]
theorem Out.skip5 (h : Out w B s k1 k2 k3 k4 k5 mB eB eR) (he : s.early k5 = []) : Out w B s k1 k2 k3 k4 (k5 + 1) mB eB eR := by
  refine ⟨h.r1, h.r2, h.r3, h.r4, h.mR, fun j hj hn => ?_⟩
  by_cases e : j = k5
  · subst e; exact absurd he hn
  · exact h.eR j (by omega) hn
/-- earlier[k] is made. -/
theorem Out.set3 (h : Out w B s k1 k2 k3 k4 k5 mB eB eR) (h5 : k5 ≤ k3) (he : s.early k3 ≠ []) (nb : Nat) :
    Out (w.setCell ⟨B + 2, k3, none⟩ (.slice (some ⟨nb, 0, none⟩) (s.early k3).length (s.early k3).length)) B s k1 k2 (k3 + 1) k4 k5 mB (upd eB k3 nb) eR := by
  have hf := h.far (b := B + 2) (i := k3) (by omega) (.slice (some ⟨nb, 0, none⟩) (s.early k3).length (s.early k3).length)
  refine ⟨h.r1.setOther (by show B ≠ B + 2; omega) _, h.r2.setOther (by show B + 1 ≠ B + 2; omega) _, ?_, h.r4.setOther (by show B + 3 ≠ B + 2; omega) _, hf.1, ?_⟩
  · have h2 : w.rowIs (B + 2) 32 s.n (partR k3 (earC s (upd eB k3 nb)) (.slice none 0 0)) := h.r3.congr (fun i hi => by
      unfold partR earC
      by_cases e : i < k3
      · rw [if_pos e, if_pos e, upd_other _ _ (by omega)]
      · rw [if_neg e, if_neg e])
    have := partR_set (f := earC s (upd eB k3 nb)) h2
    rw [show earC s (upd eB k3 nb) k3 = .slice (some ⟨nb, 0, none⟩) (s.early k3).length (s.early k3).length by simp [earC, upd_same, sl, he]] at this
    exact this
  · intro j hj hn
    rw [upd_other _ _ (by omega)]
    exact hf.2 j hj hn
/-- The earlier values of key k5, being laid. -/
def Fill (w : World) (B : Nat) (s : St) (j e nb : Nat) (q : Nat → Nat) : Prop :=
  B + 4 ≤ nb ∧ w.rowIs nb 34 (s.early j).length (partR e (fun r => sl (q r) ((s.early j).getD r []).length) (.slice none 0 0)) ∧ ∀ r, r < e → B + 4 ≤ q r ∧ w.rowIs (q r) 3 ((s.early j).getD r []).length (lineC ((s.early j).getD r []))
theorem Fill.kept {j e nb : Nat} {q : Nat → Nat} (h : Fill w B s j e nb q) (hb : ∀ k, k < w.heap.size → w'.heap[k]? = w.heap[k]?) : Fill w' B s j e nb q :=
  ⟨h.1, h.2.1.of_block (hb _ h.2.1.lt), fun r hr => ⟨(h.2.2 r hr).1, (h.2.2 r hr).2.of_block (hb _ (h.2.2 r hr).2.lt)⟩⟩
theorem Fill.set {j e nb nb2 : Nat} {q : Nat → Nat} (h : Fill w B s j e nb q) (hn : B + 4 ≤ nb2) (hr : w.rowIs nb2 3 ((s.early j).getD e []).length (lineC ((s.early j).getD e []))) :
    Fill (w.setCell ⟨nb, e, none⟩ (.slice (some ⟨nb2, 0, none⟩) ((s.early j).getD e []).length ((s.early j).getD e []).length)) B s j (e + 1) nb (upd q e nb2) := by
  obtain ⟨h1, h2, h3⟩ := h
  refine ⟨h1, ?_, fun r hr' => ?_⟩
  · have h2' : w.rowIs nb 34 (s.early j).length (partR e (fun r => sl (upd q e nb2 r) ((s.early j).getD r []).length) (.slice none 0 0)) := h2.congr (fun i hi => by
      unfold partR
      by_cases c : i < e
      · have c2 : i ≠ e := by omega
        rw [if_pos c, if_pos c]
        show sl (q i) _ = sl (upd q e nb2 i) _
        rw [upd_other _ _ c2]
      · rw [if_neg c, if_neg c])
    have := partR_set h2'
    simp only [upd_same] at this
    exact this
  · by_cases c : r = e
    · subst c
      rw [upd_same]
      exact ⟨hn, hr.setOther (by exact row_ne hr h2 (by decide)) _⟩
    · rw [upd_other _ _ c]
      obtain ⟨c1, c2⟩ := h3 r (by omega)
      exact ⟨c1, c2.setOther (by exact row_ne c2 h2 (by decide)) _⟩
theorem Out.fill {j e nb : Nat} {q : Nat → Nat} (h : Out w B s k1 k2 k3 k4 k5 mB eB eR) (hq : Fill w B s j e nb q) (hne : ∀ j', j' < k5 → s.early j' ≠ [] → eB j' ≠ nb) (v : Value) : Out (w.setCell ⟨nb, e, none⟩ v) B s k1 k2 k3 k4 k5 mB eB eR := by
  have hb := hq.1
  refine ⟨h.r1.setOther (by show B ≠ nb; omega) _, h.r2.setOther (by show B + 1 ≠ nb; omega) _, h.r3.setOther (by show B + 2 ≠ nb; omega) _, h.r4.setOther (by show B + 3 ≠ nb; omega) _, fun j hj => ⟨(h.mR j hj).1, (h.mR j hj).2.setOther (by exact row_ne (h.mR j hj).2 hq.2.1 (by decide)) _⟩, fun j hj he => ?_⟩
  obtain ⟨a1, a2, a3⟩ := h.eR j hj he
  exact ⟨a1, a2.setOther (by exact hne j hj he) _, fun r hr => ⟨(a3 r hr).1, (a3 r hr).2.setOther (by exact row_ne (a3 r hr).2 hq.2.1 (by decide)) _⟩⟩
theorem Out.close {nb : Nat} {q : Nat → Nat} (h : Out w B s k1 k2 k3 k4 k5 mB eB eR) (hnb : eB k5 = nb) (hq : Fill w B s k5 (s.early k5).length nb q) : Out w B s k1 k2 k3 k4 (k5 + 1) mB eB (upd eR k5 q) := by
  refine ⟨h.r1, h.r2, h.r3, h.r4, h.mR, fun j hj he => ?_⟩
  by_cases e : j = k5
  · subst e
    subst hnb
    refine ⟨hq.1, hq.2.1.congr (fun i hi => ?_), fun r hr => ?_⟩
    · unfold partR runC
      rw [if_pos hi, upd_same]
    · rw [upd_same]
      exact hq.2.2 r hr
  · obtain ⟨a1, a2, a3⟩ := h.eR j (by omega) he
    refine ⟨a1, a2.congr (fun i hi => by unfold runC; rw [upd_other _ _ e]), fun r hr => ?_⟩
    rw [upd_other _ _ e]
    exact a3 r hr
end
end Go.Proofs.Qxb6600323a
