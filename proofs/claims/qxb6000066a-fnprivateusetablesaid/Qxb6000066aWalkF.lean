import Derived.Test.Qxb6000066aWalkE
namespace Go.Proofs.Qxb6000066a
open Go.RowKit

def pua (f s : Int) : Int × Bool :=
  if (area f s 170 175 161 254).2 = true then (57344 + (area f s 170 175 161 254).1, true)
  else if (area f s 248 254 161 254).2 = true then (57908 + (area f s 248 254 161 254).1, true)
  else if (area f s 161 167 64 160).2 = true then (58566 + (area f s 161 167 64 160).1, true)
  else (0, false)

theorem area_1 (f s : Int) : (area f s 170 175 161 254).1 = (if 170 ≤ f ∧ f ≤ 175 ∧ 161 ≤ s ∧ s ≤ 254 ∧ s ≠ 127 then (f - 170) * 94 + (s - 161) else 0) ∧ (area f s 170 175 161 254).2 = decide (170 ≤ f ∧ f ≤ 175 ∧ 161 ≤ s ∧ s ≤ 254 ∧ s ≠ 127) := by
  unfold area hitB posT
  by_cases h : 170 ≤ f ∧ f ≤ 175 ∧ 161 ≤ s ∧ s ≤ 254 ∧ s ≠ 127 <;> simp [h]
theorem area_2 (f s : Int) : (area f s 248 254 161 254).1 = (if 248 ≤ f ∧ f ≤ 254 ∧ 161 ≤ s ∧ s ≤ 254 ∧ s ≠ 127 then (f - 248) * 94 + (s - 161) else 0) ∧ (area f s 248 254 161 254).2 = decide (248 ≤ f ∧ f ≤ 254 ∧ 161 ≤ s ∧ s ≤ 254 ∧ s ≠ 127) := by
  unfold area hitB posT
  by_cases h : 248 ≤ f ∧ f ≤ 254 ∧ 161 ≤ s ∧ s ≤ 254 ∧ s ≠ 127 <;> simp [h]
theorem area_3 (f s : Int) : (area f s 161 167 64 160).1 = (if 161 ≤ f ∧ f ≤ 167 ∧ 64 ≤ s ∧ s ≤ 160 ∧ s ≠ 127 then (f - 161) * 96 + (s - 64 - (if 127 < s then 1 else 0)) else 0) ∧ (area f s 161 167 64 160).2 = decide (161 ≤ f ∧ f ≤ 167 ∧ 64 ≤ s ∧ s ≤ 160 ∧ s ≠ 127) := by
  unfold area hitB posT
  by_cases h : 161 ≤ f ∧ f ≤ 167 ∧ 64 ≤ s ∧ s ≤ 160 ∧ s ≠ 127 <;> simp [h]

theorem area_1b (f s : Int) : 0 ≤ (area f s 170 175 161 254).1 ∧ (area f s 170 175 161 254).1 ≤ 70000 := by
  rw [(area_1 f s).1]; split <;> omega
theorem area_2b (f s : Int) : 0 ≤ (area f s 248 254 161 254).1 ∧ (area f s 248 254 161 254).1 ≤ 70000 := by
  rw [(area_2 f s).1]; split <;> omega
theorem area_3b (f s : Int) : 0 ≤ (area f s 161 167 64 160).1 ∧ (area f s 161 167 64 160).1 ≤ 70000 := by
  rw [(area_3 f s).1]; split
  · split <;> omega
  · omega

/-- The plain law: on two-byte codes the two maps agree. -/
theorem pu_pua (f s : Int) (f1 : f ≤ 255) (s1 : s ≤ 255) (h : twoB f s = true) : pu f s = pua f s := by
  have hl : 129 ≤ f ∧ f ≠ 255 := by
    have : leadC f = 1 := by simp [twoB] at h; exact h.1
    unfold leadC at this
    split at this
    · omega
    · split at this
      · omega
      · omega
  have ht : 64 ≤ s ∧ s ≠ 127 ∧ s ≠ 255 := by
    have : trailB s = true := by simp [twoB] at h; exact h.2
    exact of_decide_eq_true this
  unfold pua pu
  rw [(area_1 f s).1, (area_1 f s).2, (area_2 f s).1, (area_2 f s).2, (area_3 f s).1, (area_3 f s).2]
  have c1 : (170 ≤ f ∧ f ≤ 175 ∧ 161 ≤ s ∧ s ≤ 254 ∧ s ≠ 127) ↔ (170 ≤ f ∧ f ≤ 175 ∧ 161 ≤ s) := by omega
  have c2 : (248 ≤ f ∧ f ≤ 254 ∧ 161 ≤ s ∧ s ≤ 254 ∧ s ≠ 127) ↔ (248 ≤ f ∧ 161 ≤ s) := by omega
  have c3 : (161 ≤ f ∧ f ≤ 167 ∧ 64 ≤ s ∧ s ≤ 160 ∧ s ≠ 127) ↔ (161 ≤ f ∧ f ≤ 167 ∧ s ≤ 160) := by omega
  simp only [decide_eq_true_eq, c1, c2, c3]
  by_cases a1 : 170 ≤ f ∧ f ≤ 175 ∧ 161 ≤ s
  · simp only [if_pos a1, Prod.mk.injEq, and_true]
    omega
  simp only [if_neg a1]
  by_cases a2 : 248 ≤ f ∧ 161 ≤ s
  · simp only [if_pos a2, Prod.mk.injEq, and_true]
    omega
  simp only [if_neg a2]
  by_cases a3 : 161 ≤ f ∧ f ≤ 167 ∧ s ≤ 160
  · simp only [if_pos a3, Prod.mk.injEq, and_true]
    split <;> omega
  simp only [if_neg a3]

theorem pua_any (f s : Int) (w : World) (f0 : 0 ≤ f) (f1 : f ≤ 255) (s0 : 0 ≤ s) (s1 : s ≤ 255) :
    Calls Try.prog 13 #[.int .u8 f, .int .u8 s] w fun e w' => e = .returned (.tuple #[.int .i32 (pua f s).1, .bool (pua f s).2]) ∧ w' = w := by
  have b1 := area_1b f s
  have b2 := area_2b f s
  have b3 := area_3b f s
  obtain ⟨i1, hi1⟩ : ∃ i, i = (area f s 170 175 161 254).1 := ⟨_, rfl⟩
  obtain ⟨o1, ho1⟩ : ∃ o, o = (area f s 170 175 161 254).2 := ⟨_, rfl⟩
  obtain ⟨i2, hi2⟩ : ∃ i, i = (area f s 248 254 161 254).1 := ⟨_, rfl⟩
  obtain ⟨o2, ho2⟩ : ∃ o, o = (area f s 248 254 161 254).2 := ⟨_, rfl⟩
  obtain ⟨i3, hi3⟩ : ∃ i, i = (area f s 161 167 64 160).1 := ⟨_, rfl⟩
  obtain ⟨o3, ho3⟩ : ∃ o, o = (area f s 161 167 64 160).2 := ⟨_, rfl⟩
  have c1 := fun w => area_any f s 170 175 161 254 w f0 f1 s0 s1 (by omega) (by omega) (by omega) (by omega) (by omega) (by omega)
  have c2 := fun w => area_any f s 248 254 161 254 w f0 f1 s0 s1 (by omega) (by omega) (by omega) (by omega) (by omega) (by omega)
  have c3 := fun w => area_any f s 161 167 64 160 w f0 f1 s0 s1 (by omega) (by omega) (by omega) (by omega) (by omega) (by omega)
  unfold pua
  rw [← hi1, ← ho1] at c1 ⊢
  rw [← hi2, ← ho2] at c2 ⊢
  rw [← hi3, ← ho3] at c3 ⊢
  rw [← hi1] at b1
  rw [← hi2] at b2
  rw [← hi3] at b3
  clear hi1 hi2 hi3 ho1 ho2 ho3
  have C1 := (id c1 : Hid _)
  have C2 := (id c2 : Hid _)
  have C3 := (id c3 : Hid _)
  clear c1 c2 c3
  cases o1 with
  | true =>
    go_enter Try.func13, Try.ntmps13
    go_wp2_with fail
    refine (C1.out _).mono ?_
    rintro e w' ⟨rfl, rfl⟩
    go_wp2
    go_ret2
    exact ⟨rfl, rfl⟩
  | false =>
  cases o2 with
  | true =>
    go_enter Try.func13, Try.ntmps13
    go_wp2_with fail
    refine (C1.out _).mono ?_
    rintro e w' ⟨rfl, rfl⟩
    go_wp2_with fail
    refine (C2.out _).mono ?_
    rintro e w' ⟨rfl, rfl⟩
    go_wp2
    go_ret2
    exact ⟨rfl, rfl⟩
  | false =>
  cases o3 with
  | true =>
    go_enter Try.func13, Try.ntmps13
    go_wp2_with fail
    refine (C1.out _).mono ?_
    rintro e w' ⟨rfl, rfl⟩
    go_wp2_with fail
    refine (C2.out _).mono ?_
    rintro e w' ⟨rfl, rfl⟩
    go_wp2_with fail
    refine (C3.out _).mono ?_
    rintro e w' ⟨rfl, rfl⟩
    go_wp2
    go_ret2
    exact ⟨rfl, rfl⟩
  | false =>
    go_enter Try.func13, Try.ntmps13
    go_wp2_with fail
    refine (C1.out _).mono ?_
    rintro e w' ⟨rfl, rfl⟩
    go_wp2_with fail
    refine (C2.out _).mono ?_
    rintro e w' ⟨rfl, rfl⟩
    go_wp2_with fail
    refine (C3.out _).mono ?_
    rintro e w' ⟨rfl, rfl⟩
    go_wp2
    go_ret2
    exact ⟨rfl, rfl⟩
end Go.Proofs.Qxb6000066a
