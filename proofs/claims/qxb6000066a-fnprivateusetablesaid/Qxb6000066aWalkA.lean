import Derived.Test.Qxb6000066aProg
import Derived.WalkKit
import Derived.Deep.QuietTactic
import Derived.BigQuiet
namespace Go.Proofs.Qxb6000066a
open Go.RowKit

/-- zzLeadClass. -/
def leadC (c : Int) : Int := if c < 128 then 0 else if c = 128 ∨ c = 255 then 2 else 1
theorem lead_any (c : Int) (w : World) :
    Calls Try.prog 17 #[.int .u8 c] w fun e w' => e = .returned (.int .i64 (leadC c)) ∧ w' = w := by
  unfold leadC
  by_cases h1 : c < 128
  · rw [if_pos h1]
    go_enter Try.func17, Try.ntmps17
    go_wp2
    go_ret
    exact ⟨rfl, rfl⟩
  · rw [if_neg h1]
    by_cases h2 : c = 128
    · subst h2
      go_enter Try.func17, Try.ntmps17
      go_wp2
      go_ret
      exact ⟨rfl, rfl⟩
    · by_cases h3 : c = 255
      · subst h3
        go_enter Try.func17, Try.ntmps17
        go_wp2
        go_ret
        exact ⟨rfl, rfl⟩
      · rw [if_neg (by omega)]
        have e2 : (c == 128) = false := by simpa using h2
        have e3 : (c == 255) = false := by simpa using h3
        go_enter Try.func17, Try.ntmps17
        go_wp2
        go_ret
        exact ⟨rfl, rfl⟩

/-- zzTwoByteTrail. -/
def trailB (c : Int) : Bool := decide (64 ≤ c ∧ c ≠ 127 ∧ c ≠ 255)
theorem trail_any (c : Int) (w : World) :
    Calls Try.prog 18 #[.int .u8 c] w fun e w' => e = .returned (.bool (trailB c)) ∧ w' = w := by
  by_cases h1 : 64 ≤ c
  · by_cases h2 : c = 127
    · subst h2
      go_enter Try.func18, Try.ntmps18
      go_wp2
      go_ret
      exact ⟨rfl, rfl⟩
    · by_cases h3 : c = 255
      · subst h3
        go_enter Try.func18, Try.ntmps18
        go_wp2
        go_ret
        exact ⟨rfl, rfl⟩
      · have ht : trailB c = true := by simp [trailB, h1, h2, h3]
        rw [ht]
        clear ht
        have e2 : (c != 127) = true := by simpa using h2
        have e3 : (c != 255) = true := by simpa using h3
        go_enter Try.func18, Try.ntmps18
        go_wp2
        go_ret
        exact ⟨rfl, rfl⟩
  · have ht : trailB c = false := by simp [trailB]; omega
    rw [ht]
    clear ht
    go_enter Try.func18, Try.ntmps18
    go_wp2
    go_ret
    exact ⟨rfl, rfl⟩

/-- zzIsTwoByteCode. -/
def twoB (f s : Int) : Bool := decide (leadC f = 1) && trailB s
theorem two_any (f s : Int) (w : World) :
    Calls Try.prog 11 #[.int .u8 f, .int .u8 s] w fun e w' => e = .returned (.bool (twoB f s)) ∧ w' = w := by
  by_cases h1 : leadC f = 1
  · have ht : twoB f s = trailB s := by simp [twoB, h1]
    rw [ht]
    clear ht
    go_enter Try.func11, Try.ntmps11
    go_wp2_with (first | (go_at_call 17; refine (lead_any _ _).mono ?_; rintro e w' ⟨rfl, rfl⟩) | (go_at_call 18; refine (trail_any _ _).mono ?_; rintro e w' ⟨rfl, rfl⟩))
    go_ret
    exact ⟨rfl, rfl⟩
  · have ht : twoB f s = false := by simp [twoB, h1]
    rw [ht]
    clear ht
    have e1 : (leadC f == 1) = false := by simpa using h1
    go_enter Try.func11, Try.ntmps11
    go_wp2_with (first | (go_at_call 17; refine (lead_any _ _).mono ?_; rintro e w' ⟨rfl, rfl⟩) | (go_at_call 18; refine (trail_any _ _).mono ?_; rintro e w' ⟨rfl, rfl⟩))
    go_ret
    exact ⟨rfl, rfl⟩

/-- privateUse at two bytes. -/
def pu (f s : Int) : Int × Bool :=
  if 170 ≤ f ∧ f ≤ 175 ∧ 161 ≤ s then (57344 + (f - 170) * 94 + s - 161, true)
  else if 248 ≤ f ∧ 161 ≤ s then (57908 + (f - 248) * 94 + s - 161, true)
  else if 161 ≤ f ∧ f ≤ 167 ∧ s ≤ 160 then (58566 + (f - 161) * 96 + (if 127 < s then s - 64 - 1 else s - 64), true)
  else (0, false)

end Go.Proofs.Qxb6000066a
