import Derived.Test.Qxb6600323aApF
namespace Go.Proofs.Qxb6600323a
open Go.RowKit
set_option linter.unusedVariables false

/-! ### the plain laws of the state -/
theorem psum_congr {f g : Nat → Nat} {n : Nat} (h : ∀ j, j < n → f j = g j) : psum f n = psum g n := by
  induction n with
  | zero => rfl
  | succ n ih => rw [psum, psum, ih (fun j hj => h j (by omega)), h n (by omega)]
theorem psum_bump {f g : Nat → Nat} {n j : Nat} (hj : j < n) (h : ∀ i, i < n → i ≠ j → g i = f i) (hb : g j = f j + 1) : psum g n = psum f n + 1 := by
  induction n with
  | zero => omega
  | succ n ih =>
    rw [psum, psum]
    by_cases e : j = n
    · subst e
      rw [psum_congr (f := g) (g := f) (fun i hi => h i (by omega) (by omega)), hb]; omega
    · rw [ih (by omega) (fun i hi => h i (by omega)), h n (by omega) (by omega)]; omega

def occOf (I : Inp) (i : Nat) (k : ByteArray) : List Nat := (List.range i).filter (fun x => decide (I.K x = k))
theorem occOf_succ (I : Inp) (i : Nat) (k : ByteArray) : occOf I (i + 1) k = occOf I i k ++ if I.K i = k then [i] else [] := by
  unfold occOf
  rw [List.range_succ, List.filter_append]
  congr 1
  by_cases e : I.K i = k <;> simp [e]
theorem occOf_eq {I : Inp} {i : Nat} {k : ByteArray} (h : I.K i = k) : occOf I (i + 1) k = occOf I i k ++ [i] := by rw [occOf_succ, if_pos h]
theorem occOf_ne {I : Inp} {i : Nat} {k : ByteArray} (h : I.K i ≠ k) : occOf I (i + 1) k = occOf I i k := by rw [occOf_succ, if_neg h, List.append_nil]
theorem mem_occOf {I : Inp} {i x : Nat} {k : ByteArray} : x ∈ occOf I i k ↔ x < i ∧ I.K x = k := by simp [occOf]
theorem occOf_sorted (I : Inp) (i : Nat) (k : ByteArray) : (occOf I i k).Pairwise (· < ·) := List.Pairwise.filter _ List.pairwise_lt_range

theorem St.new_okQ {s : St} {k : ByteArray} {i : Nat} (h : s.Ok) (hk : s.place k = none) : (s.new k i).Ok := by
  intro k' j
  simp only [St.new]
  by_cases e : k' = k
  · subst e
    rw [if_pos rfl]
    constructor
    · intro q
      obtain rfl := Option.some.inj q
      exact ⟨Nat.lt_succ_self _, upd_same _ _ _⟩
    · rintro ⟨q1, q2⟩
      by_cases e2 : j = s.n
      · rw [e2]
      · rw [upd_other _ _ e2] at q2
        have := (h k' j).2 ⟨by omega, q2⟩
        rw [hk] at this; cases this
  · rw [if_neg e]
    constructor
    · intro q
      obtain ⟨q1, q2⟩ := (h k' j).1 q
      exact ⟨by omega, by rw [upd_other _ _ (by omega)]; exact q2⟩
    · rintro ⟨q1, q2⟩
      by_cases e2 : j = s.n
      · rw [e2, upd_same] at q2; exact absurd q2.symm e
      · rw [upd_other _ _ e2] at q2
        exact (h k' j).2 ⟨by omega, q2⟩

structure Law (I : Inp) (i : Nat) (s : St) : Prop where
  ok : s.Ok
  all : ∀ x, x < i → ∃ j, j < s.n ∧ s.key j = I.K x
  occ : ∀ j, j < s.n → (s.early j).flatten ++ s.made j = occOf I i (s.key j)
  mne : ∀ j, j < s.n → s.made j ≠ []
  ene : ∀ j, j < s.n → ∀ L ∈ s.early j, L ≠ []
  tot : psum (fun j => (occOf I i (s.key j)).length) s.n = i

theorem law_step {I : Inp} {i : Nat} {s : St} (h : Law I i s) : Law I (i + 1) (s.step I true i) := by
  unfold St.step
  cases hp : s.place (I.K i) with
  | none =>
    have hnk : ∀ j, j < s.n → I.K i ≠ s.key j := fun j hj e => by
      have := (h.ok (I.K i) j).2 ⟨hj, e.symm⟩
      rw [hp] at this; cases this
    have hkn : (s.new (I.K i) i).key s.n = I.K i := upd_same _ _ _
    have hkj : ∀ j, j < s.n → (s.new (I.K i) i).key j = s.key j := fun j hj => upd_other _ _ (by omega)
    have hempty : occOf I i (I.K i) = [] := by
      cases hc : occOf I i (I.K i) with
      | nil => rfl
      | cons x xs =>
        exfalso
        have hx := (mem_occOf (I := I) (i := i) (x := x) (k := I.K i)).1 (by rw [hc]; exact List.mem_cons_self)
        obtain ⟨j, hj, hk⟩ := h.all x hx.1
        exact hnk j hj (by rw [hk, hx.2])
    have hon : occOf I (i + 1) (I.K i) = [i] := by rw [occOf_eq rfl, hempty, List.nil_append]
    refine ⟨St.new_okQ h.ok hp, ?_, ?_, ?_, ?_, ?_⟩
    · intro x hx
      by_cases e : x = i
      · subst e
        exact ⟨s.n, Nat.lt_succ_self _, hkn⟩
      · obtain ⟨j, hj, hk⟩ := h.all x (by omega)
        exact ⟨j, Nat.lt_succ_of_lt hj, by rw [hkj j hj, hk]⟩
    · intro j hj
      have hj' : j < s.n + 1 := hj
      by_cases e : j = s.n
      · subst e
        rw [hkn, hon]
        simp [St.new, upd_same]
      · rw [hkj j (by omega), occOf_ne (hnk j (by omega)), ← h.occ j (by omega)]
        simp [St.new, upd_other _ _ e]
    · intro j hj
      have hj' : j < s.n + 1 := hj
      by_cases e : j = s.n
      · subst e; simp [St.new, upd_same]
      · simp only [St.new, upd_other _ _ e]
        exact h.mne j (by omega)
    · intro j hj L hL
      have hj' : j < s.n + 1 := hj
      by_cases e : j = s.n
      · subst e; simp [St.new, upd_same] at hL
      · simp only [St.new, upd_other _ _ e] at hL
        exact h.ene j (by omega) L hL
    · show psum _ (s.n + 1) = i + 1
      rw [psum, hkn, hon]
      rw [psum_congr (g := fun j => (occOf I i (s.key j)).length) (fun j hj => by rw [hkj j hj, occOf_ne (hnk j hj)]), h.tot]
      rfl
  | some j0 =>
    obtain ⟨hj0, hk0⟩ := (h.ok (I.K i) j0).1 hp
    have hother : ∀ j, j < s.n → j ≠ j0 → I.K i ≠ s.key j := fun j hj hne e => by
      have := (h.ok (I.K i) j).2 ⟨hj, e.symm⟩
      rw [hp] at this
      exact hne (Option.some.inj this).symm
    have hall : ∀ x, x < i + 1 → ∃ j, j < s.n ∧ s.key j = I.K x := by
      intro x hx
      by_cases e : x = i
      · exact ⟨j0, hj0, by rw [e]; exact hk0⟩
      · exact h.all x (by omega)
    have htot : psum (fun j => (occOf I (i + 1) (s.key j)).length) s.n = i + 1 := by
      rw [psum_bump (f := fun j => (occOf I i (s.key j)).length) hj0 (fun j hj hne => by rw [occOf_ne (hother j hj hne)]) (by rw [occOf_eq hk0.symm, List.length_append]; rfl), h.tot]
    dsimp only
    by_cases hO : I.O i = 1
    · rw [if_pos hO]
      refine ⟨h.ok, hall, ?_, ?_, h.ene, htot⟩
      · intro j hj
        by_cases e : j = j0
        · subst e
          simp only [St.app, upd_same]
          rw [occOf_eq hk0.symm, ← h.occ j hj, List.append_assoc]
        · simp only [St.app, upd_other _ _ e]
          rw [occOf_ne (hother j hj e), ← h.occ j hj]
      · intro j hj
        by_cases e : j = j0
        · subst e
          simp [St.app, upd_same]
        · simp only [St.app, upd_other _ _ e]
          exact h.mne j hj
    · rw [if_neg hO, if_pos rfl]
      refine ⟨h.ok, hall, ?_, ?_, ?_, htot⟩
      · intro j hj
        by_cases e : j = j0
        · subst e
          simp only [St.set, St.bury, upd_same]
          rw [occOf_eq hk0.symm, ← h.occ j hj]
          simp
        · simp only [St.set, St.bury, upd_other _ _ e]
          rw [occOf_ne (hother j hj e), ← h.occ j hj]
      · intro j hj
        by_cases e : j = j0
        · subst e
          simp [St.set, upd_same]
        · simp only [St.set, St.bury, upd_other _ _ e]
          exact h.mne j hj
      · intro j hj L hL
        by_cases e : j = j0
        · subst e
          simp only [St.set, St.bury, upd_same, List.mem_append, List.mem_singleton] at hL
          rcases hL with hL | rfl
          · exact h.ene j hj L hL
          · exact h.mne j hj
        · simp only [St.set, St.bury, upd_other _ _ e] at hL
          exact h.ene j hj L hL
theorem stAt_law (I : Inp) (i : Nat) : Law I i (stAt I true i) := by
  induction i with
  | zero => exact ⟨fun k j => by simp [stAt, St.empty], fun x hx => by omega, fun j hj => absurd hj (Nat.not_lt_zero _), fun j hj => absurd hj (Nat.not_lt_zero _), fun j hj => absurd hj (Nat.not_lt_zero _), rfl⟩
  | succ i ih => exact law_step ih

/-- repeats changes nothing but earlier. -/
theorem stAt_same (I : Inp) (i : Nat) : (stAt I false i).n = (stAt I true i).n ∧ (stAt I false i).key = (stAt I true i).key ∧ (stAt I false i).place = (stAt I true i).place ∧ (stAt I false i).made = (stAt I true i).made := by
  induction i with
  | zero => exact ⟨rfl, rfl, rfl, rfl⟩
  | succ i ih =>
    rw [stAt, stAt]
    revert ih
    generalize stAt I false i = t
    generalize stAt I true i = s
    rintro ⟨h1, h2, h3, h4⟩
    unfold St.step
    rw [h3]
    cases hp : s.place (I.K i) with
    | none => simp [St.new, h1, h2, h3, h4]
    | some j =>
      dsimp only
      by_cases hO : I.O i = 1
      · rw [if_pos hO, if_pos hO]
        simp [St.app, h1, h2, h3, h4]
      · rw [if_neg hO, if_neg hO]
        simp [St.set, St.bury, h1, h2, h3, h4]
theorem stAt_still (I : Inp) (i : Nat) : (∀ j, (stAt I false i).early j = []) ∧ (stAt I false i).cnt = 0 := by
  induction i with
  | zero => exact ⟨fun _ => rfl, rfl⟩
  | succ i ih =>
    rw [stAt]
    revert ih
    generalize stAt I false i = t
    rintro ⟨h1, h2⟩
    unfold St.step
    cases hp : t.place (I.K i) with
    | none =>
      refine ⟨fun j => ?_, h2⟩
      simp only [St.new]
      unfold upd
      split
      · rfl
      · exact h1 j
    | some j =>
      dsimp only
      by_cases hO : I.O i = 1
      · rw [if_pos hO]; exact ⟨h1, h2⟩
      · rw [if_neg hO]
        simp only [Bool.false_eq_true, if_false]
        exact ⟨h1, h2⟩
end Go.Proofs.Qxb6600323a
