import Derived.Test.Qxb6600323aApD0
import Derived.Test.Qxb6600323aApE
import Derived.Test.Qxb6600323aApF
namespace Go.Proofs.Qxb6600323a
open Go.RowKit
set_option linter.unusedVariables false
set_option linter.unusedSimpArgs false

/-- What is shown of applyBlock. -/
def ApplySays : Prop := ∀ (w0 : World) (N : Nat) (I : Inp) (SB PM sb base len : Nat) (rep : Bool) (s : St) (w : World), s.Fits base → base + len ≤ 1048576 → AB w0 N I SB PM sb base len s w →
    Calls Try.prog 36 #[.pointer (some ⟨SB, 0, none⟩), .slice (some ⟨sb, 0, none⟩) len len, .map (some PM), .bool rep] w fun e w' => e = .returned (.tuple #[]) ∧ AB w0 N I SB PM sb base len (steps I rep s base len) w'

structure ABq (N : Nat) (I : Inp) (w : World) (s : St) (M : Nat → Value) (E : Nat → Nat → Value) : Prop where
  runM : ∀ j, j < s.n → Run I w (M j) (s.made j)
  runE : ∀ j r L, j < s.n → (s.early j)[r]? = some L → Run I w (E j r) L
  alone : ∀ j, j < s.n → Grow (M j) → (∀ j', j' < s.n → j' ≠ j → (M j').ownBlock ≠ (M j).ownBlock) ∧ (∀ j' r L, j' < s.n → (s.early j')[r]? = some L → (E j' r).ownBlock ≠ (M j).ownBlock) ∧ ∀ k, (M j).ownBlock = some k → N ≤ k
def AQ (w0 : World) (N : Nat) (I : Inp) (SB PM : Nat) (s : St) (w : World) : Prop :=
  ∃ ov em M Eo E, ABs w0 N w SB PM s ov em M Eo E ∧ ABq N I w s M E ∧ (em.isSome = true → 0 < s.cnt)
theorem AB.toQ {w0 : World} {N : Nat} {I : Inp} {SB PM sb base len : Nat} {s : St} {w : World} (h : AB w0 N I SB PM sb base len s w) : AQ w0 N I SB PM s w := by
  obtain ⟨ov, em, M, Eo, E, h1, h2, h3⟩ := h
  exact ⟨ov, em, M, Eo, E, h1, ⟨h2.runM, h2.runE, fun j hj hg => (h2.alone j hj hg).2⟩, h3⟩
def setC (I : Inp) (base x : Nat) : Value := (asg I (base + x / 9)).getD (x % 9) undef
theorem setC_run {I : Inp} {w : World} {sb base len : Nat} (h : w.rowIs sb 71 (len * 9) (setC I base)) : Run I w (.slice (some ⟨sb, 0, none⟩) len len) (List.range' base len) := by
  obtain ⟨cs, h1, h2, h3⟩ := h
  refine ⟨sb, 0, len, cs, by simp, by simp, h1, ?_, .inl (by simp)⟩
  intro j u hj
  have hjl := (List.getElem?_eq_some_iff.1 hj).1
  rw [asgL_len, List.length_range'] at hjl
  rw [Nat.zero_add, h3 j hjl]
  have hq : (List.range' base len)[j / 9]? = some (base + j / 9) := by
    rw [List.getElem?_range' (by omega)]
    simp
  have := asgL_get I (List.range' base len) (j / 9) (base + j / 9) (j % 9) hq (by omega)
  rw [show j / 9 * 9 + j % 9 = j by omega, hj] at this
  rw [setC, List.getD_eq_getElem?_getD, ← this]
  rfl
theorem below_grown {w w' : World} (h : Below w.heap.size w w') : w.grownBy w' none := ⟨h.os, h.tape, h.output, h.size, fun k hk _ => h.block k hk⟩
theorem AQ.withSet {w0 : World} {N : Nat} {I : Inp} {SB PM base len : Nat} {s : St} {w w' : World} (h : AQ w0 N I SB PM s w) (hb : Below w.heap.size w w') (hr : w'.rowIs w.heap.size 71 (len * 9) (setC I base)) : AB w0 N I SB PM w.heap.size base len s w' := by
  obtain ⟨ov, em, M, Eo, E, h1, h2, h3⟩ := h
  have hg := below_grown hb
  refine ⟨ov, em, M, Eo, E, h1.fresh hg, ⟨setC_run hr, fun j hj => (h2.runM j hj).fresh hb.block, fun j r L hj hL => (h2.runE j r L hj hL).fresh hb.block, fun j hj hgr => ⟨?_, h2.alone j hj hgr⟩⟩, h3⟩
  obtain ⟨b, e, hlt⟩ := (h2.runM j hj).lt
  rw [e]
  simp
  omega
theorem AQ_start (w : World) (I : Inp) : AQ w w.heap.size I w.heap.size (w.heap.size + 1) St.empty ((w.alloc (.cells #[.slice none 0 0, .slice none 0 0, .slice none 0 0, .map none, .int .i64 0, .bool false] 65)).alloc (.map #[] 0)) := by
  refine ⟨.slice none 0 0, none, fun _ => .slice none 0 0, fun _ => .slice none 0 0, fun _ _ => .slice none 0 0, ⟨?_, ((Below.refl _ _).alloc (Nat.le_refl _) _).alloc (by simp) _, Nat.le_refl _, by omega, (fun m e => by cases e), ?_, World.ownsRow_nil _ _ _ _, ?_, ?_, (fun m e => by cases e), (fun m e => by cases e), ?_, ?_⟩, ⟨?_, ?_, ?_⟩, (fun e => by cases e)⟩
  · intro k j
    simp [St.empty]
  · exact (World.rowIs_alloc w #[.slice none 0 0, .slice none 0 0, .slice none 0 0, .map none, .int .i64 0, .bool false] 65 (secC (.slice none 0 0) (.map none)) (fun i hi => by
      match i, hi with
      | 0, _ => rfl
      | 1, _ => rfl
      | 2, _ => rfl
      | 3, _ => rfl
      | 4, _ => rfl
      | 5, _ => rfl)).alloc _
  · have := MapIs.made (key := strKey) (w.alloc (.cells #[.slice none 0 0, .slice none 0 0, .slice none 0 0, .map none, .int .i64 0, .bool false] 65))
    rw [World.size_alloc] at this
    exact this.congr (fun k => rfl)
  · intro _
    exact ⟨rfl, fun j hj => rfl⟩
  · intro j hj; exact absurd hj (Nat.not_lt_zero _)
  · intro j j' hj; exact absurd hj (Nat.not_lt_zero _)
  · intro j hj; exact absurd hj (Nat.not_lt_zero _)
  · intro j r L hj; exact absurd hj (Nat.not_lt_zero _)
  · intro j hj; exact absurd hj (Nat.not_lt_zero _)
theorem steps_at (I : Inp) (rep : Bool) (base p : Nat) : steps I rep (stAt I rep base) base p = stAt I rep (base + p) := by
  induction p with
  | zero => rfl
  | succ p ih => rw [steps, ih]; rfl
theorem stAt_fits (I : Inp) (rep : Bool) (i : Nat) : (stAt I rep i).Fits i := by
  induction i with
  | zero => exact ⟨Nat.le_refl _, fun j hj => absurd hj (Nat.not_lt_zero _)⟩
  | succ i ih => exact ih.step I rep i

/-! ### the settings, being laid -/
def zeroC (x : Nat) : Value := [Value.int .u8 0, .int .u8 0, .bool false, .string ⟨#[]⟩, .int .i64 0, .string ⟨#[]⟩, .string ⟨#[]⟩, .string ⟨#[]⟩, .string ⟨#[]⟩].getD (x % 9) default
def partS (I : Inp) (base p x : Nat) : Value := if x < p * 9 then setC I base x else zeroC x
theorem row9 {w : World} {b n : Nat} {f : Nat → Value} (h : w.rowIs b 71 n f) (i : Nat) (v0 v1 v2 v3 v4 v5 v6 v7 v8 : Value) :
    (((((((((w.setCell ⟨b, i, none⟩ v0).setCell ⟨b, i + 1, none⟩ v1).setCell ⟨b, i + 2, none⟩ v2).setCell ⟨b, i + 3, none⟩ v3).setCell ⟨b, i + 4, none⟩ v4).setCell ⟨b, i + 5, none⟩ v5).setCell ⟨b, i + 6, none⟩ v6).setCell ⟨b, i + 7, none⟩ v7).setCell ⟨b, i + 8, none⟩ v8).rowIs b 71 n
      (fun x => if x = i + 8 then v8 else if x = i + 7 then v7 else if x = i + 6 then v6 else if x = i + 5 then v5 else if x = i + 4 then v4 else if x = i + 3 then v3 else if x = i + 2 then v2 else if x = i + 1 then v1 else if x = i then v0 else f x) :=
  ((((((((h.set i v0).set (i + 1) v1).set (i + 2) v2).set (i + 3) v3).set (i + 4) v4).set (i + 5) v5).set (i + 6) v6).set (i + 7) v7).set (i + 8) v8
theorem setC_at (I : Inp) (base p f : Nat) (hf : f < 9) : setC I base (p * 9 + f) = (asg I (base + p)).getD f undef := by
  unfold setC
  rw [show (p * 9 + f) / 9 = p by omega, show (p * 9 + f) % 9 = f by omega]
theorem partS_next {I : Inp} {base p n : Nat} {w : World} {b : Nat} (h : w.rowIs b 71 n (partS I base p)) {v0 v4 v7 : Value} (h0 : v0 = .int .u8 (I.O (base + p))) (h4 : v4 = .int .i64 ((base + p : Nat) : Int)) (h7 : v7 = .string (I.K (base + p))) :
    (((((((((w.setCell ⟨b, p * 9, none⟩ v0).setCell ⟨b, p * 9 + 1, none⟩ (.int .u8 0)).setCell ⟨b, p * 9 + 2, none⟩ (.bool false)).setCell ⟨b, p * 9 + 3, none⟩ (.string ⟨#[]⟩)).setCell ⟨b, p * 9 + 4, none⟩ v4).setCell ⟨b, p * 9 + 5, none⟩ (.string ⟨#[]⟩)).setCell ⟨b, p * 9 + 6, none⟩ (.string ⟨#[]⟩)).setCell ⟨b, p * 9 + 7, none⟩ v7).setCell ⟨b, p * 9 + 8, none⟩ (.string ⟨#[]⟩)).rowIs b 71 n (partS I base (p + 1)) := by
  refine (row9 h (p * 9) v0 (.int .u8 0) (.bool false) (.string ⟨#[]⟩) v4 (.string ⟨#[]⟩) (.string ⟨#[]⟩) v7 (.string ⟨#[]⟩)).congr ?_
  intro x hx
  subst h0 h4 h7
  have q := setC_at I base p
  unfold partS
  by_cases hlt : x < p * 9
  · rw [if_neg (by omega), if_neg (by omega), if_neg (by omega), if_neg (by omega), if_neg (by omega), if_neg (by omega), if_neg (by omega), if_neg (by omega), if_neg (by omega), if_pos hlt, if_pos (by omega)]
  · by_cases hge : p * 9 + 9 ≤ x
    · rw [if_neg (by omega), if_neg (by omega), if_neg (by omega), if_neg (by omega), if_neg (by omega), if_neg (by omega), if_neg (by omega), if_neg (by omega), if_neg (by omega), if_neg hlt, if_neg (by omega)]
    · obtain ⟨f, rfl⟩ : ∃ f, x = p * 9 + f := ⟨x - p * 9, by omega⟩
      rw [if_pos (show p * 9 + f < (p + 1) * 9 by omega), q f (by omega)]
      have hf : f < 9 := by omega
      match f, hf with
      | 0, _ => simp [asg]
      | 1, _ => simp [asg]
      | 2, _ => simp [asg]
      | 3, _ => simp [asg]
      | 4, _ => simp [asg]
      | 5, _ => simp [asg]
      | 6, _ => simp [asg]
      | 7, _ => simp [asg]
      | 8, _ => simp [asg]
theorem partS_start (w : World) (I : Inp) (base n : Nat) : (w.alloc (.cells (madeCells (Value.agg #[.int .u8 0, .int .u8 0, .bool false, .string ⟨#[]⟩, .int .i64 0, .string ⟨#[]⟩, .string ⟨#[]⟩, .string ⟨#[]⟩, .string ⟨#[]⟩]).cells (n * 9)) 71)).rowIs w.heap.size 71 (n * 9) (partS I base 0) := by
  have h : (madeCells (Value.agg #[.int .u8 0, .int .u8 0, .bool false, .string ⟨#[]⟩, .int .i64 0, .string ⟨#[]⟩, .string ⟨#[]⟩, .string ⟨#[]⟩, .string ⟨#[]⟩]).cells (n * 9)).size = n * 9 := by simp [madeCells]
  have := World.rowIs_alloc w (madeCells (Value.agg #[.int .u8 0, .int .u8 0, .bool false, .string ⟨#[]⟩, .int .i64 0, .string ⟨#[]⟩, .string ⟨#[]⟩, .string ⟨#[]⟩, .string ⟨#[]⟩]).cells (n * 9)) 71 (partS I base 0) (fun i hi => by
    have hi' : i < n * 9 := by omega
    have hz : (Value.agg #[.int .u8 0, .int .u8 0, .bool false, .string ⟨#[]⟩, .int .i64 0, .string ⟨#[]⟩, .string ⟨#[]⟩, .string ⟨#[]⟩, .string ⟨#[]⟩]).cells = #[.int .u8 0, .int .u8 0, .bool false, .string ⟨#[]⟩, .int .i64 0, .string ⟨#[]⟩, .string ⟨#[]⟩, .string ⟨#[]⟩, .string ⟨#[]⟩] := rfl
    rw [hz]
    simp [madeCells, hi', partS, zeroC])
  rw [h] at this
  exact this
end Go.Proofs.Qxb6600323a
