import Derived.Test.Qxb6000066aWalkA
namespace Go.Proofs.Qxb6000066a
open Go.RowKit

theorem pu_any (b off c : Nat) (f s : Int) (w : World) (f0 : 0 ≤ f) (f1 : f ≤ 255) (s0 : 0 ≤ s) (s1 : s ≤ 255)
    (h0 : w.cell? ⟨b, off, none⟩ = some (.int .u8 f)) (h1 : w.cell? ⟨b, off + 1, none⟩ = some (.int .u8 s)) :
    Calls Try.prog 19 #[.slice (some ⟨b, off, none⟩) 2 c] w fun e w' => e = .returned (.tuple #[.int .i32 (pu f s).1, .bool (pu f s).2]) ∧ ∃ n, w' = w.drewN n := by
  unfold pu
  by_cases a1 : 170 ≤ f ∧ f ≤ 175 ∧ 161 ≤ s
  · rw [if_pos a1]
    obtain ⟨a1, a2, a3⟩ := a1
    go_enter Try.func19, Try.ntmps19
    go_wp2
    go_quiet (fail)
    go_wp2
    go_ret2
    exact ⟨rfl, _, rfl⟩
  rw [if_neg a1]
  have b1 : f < 170 ∨ 175 < f ∨ s < 161 := by omega
  clear a1
  by_cases a2 : 248 ≤ f ∧ 161 ≤ s
  · rw [if_pos a2]
    obtain ⟨a2, a3⟩ := a2
    go_enter Try.func19, Try.ntmps19
    go_wp2
    go_quiet (fail)
    go_wp2
    go_ret2
    exact ⟨rfl, _, rfl⟩
  rw [if_neg a2]
  have b2 : f < 248 ∨ s < 161 := by omega
  clear a2
  by_cases a3 : 161 ≤ f ∧ f ≤ 167 ∧ s ≤ 160
  · rw [if_pos a3]
    obtain ⟨a3, a4, a5⟩ := a3
    by_cases a6 : 127 < s
    · rw [if_pos a6]
      go_enter Try.func19, Try.ntmps19
      go_wp2
      go_quiet (fail)
      go_wp2
      go_ret2
      exact ⟨rfl, _, rfl⟩
    · rw [if_neg a6]
      go_enter Try.func19, Try.ntmps19
      go_wp2
      go_quiet (fail)
      go_wp2
      go_ret2
      exact ⟨rfl, _, rfl⟩
  rw [if_neg a3]
  have b3 : f < 161 ∨ 167 < f ∨ 160 < s := by omega
  clear a3
  have key : f < 161 ∨ (161 ≤ f ∧ f ≤ 167 ∧ 161 ≤ s) ∨ (168 ≤ f ∧ f < 170) ∨ (170 ≤ f ∧ f ≤ 175 ∧ s < 161) ∨ (175 < f ∧ f < 248) ∨ (248 ≤ f ∧ s < 161) := by omega
  clear b1 b2 b3
  rcases key with k | ⟨k1, k2, k3⟩ | ⟨k1, k2⟩ | ⟨k1, k2, k3⟩ | ⟨k1, k2⟩ | ⟨k1, k2⟩
  all_goals
    go_enter Try.func19, Try.ntmps19
    go_wp2
    go_quiet (fail)
    go_wp2
    go_ret2
    exact ⟨rfl, _, rfl⟩

theorem zpu_any (b off c : Nat) (f s : Int) (w : World) (f0 : 0 ≤ f) (f1 : f ≤ 255) (s0 : 0 ≤ s) (s1 : s ≤ 255)
    (h0 : w.cell? ⟨b, off, none⟩ = some (.int .u8 f)) (h1 : w.cell? ⟨b, off + 1, none⟩ = some (.int .u8 s)) :
    Calls Try.prog 12 #[.slice (some ⟨b, off, none⟩) 2 c] w fun e w' => e = .returned (.tuple #[.int .i32 (pu f s).1, .bool (pu f s).2]) ∧ ∃ n, w' = w.drewN n := by
  go_enter Try.func12, Try.ntmps12
  go_wp2_with (go_at_call 19; refine (pu_any b off c f s _ f0 f1 s0 s1 h0 h1).mono ?_; rintro e w' ⟨rfl, n, rfl⟩)
  go_ret2
  exact ⟨rfl, _, rfl⟩

/-- A slice whose length is not two: refused. -/
theorem zpu_no (a : Option Addr) (n c : Nat) (w : World) (h : n ≠ 2) :
    Calls Try.prog 12 #[.slice a n c] w fun e w' => e = .returned (.tuple #[.int .i32 0, .bool false]) ∧ w' = w := by
  have hn : ((n : Int) != 2) = true := by rw [bne_iff_ne]; omega
  go_enter Try.func12, Try.ntmps12
  go_wp2
  go_ret2
  exact ⟨rfl, rfl⟩

/-- codeLength at a two-byte code. -/
theorem zlen_two (b off c : Nat) (f s : Int) (w : World) (f0 : 129 ≤ f) (f1 : f ≤ 254) (s0 : 64 ≤ s) (s1 : s ≤ 254) (s2 : s ≠ 127)
    (h0 : w.cell? ⟨b, off, none⟩ = some (.int .u8 f)) (h1 : w.cell? ⟨b, off + 1, none⟩ = some (.int .u8 s)) :
    Calls Try.prog 9 #[.slice (some ⟨b, off, none⟩) 2 c] w fun e w' => e = .returned (.int .i64 2) ∧ w' = w := by
  have e1 : (f == 128) = false := by rw [beq_eq_false_iff_ne]; omega
  have e2 : (f == 255) = false := by rw [beq_eq_false_iff_ne]; omega
  have e3 : (s != 127) = true := by rw [bne_iff_ne]; omega
  go_enter Try.func9, Try.ntmps9
  go_wp2
  go_ret
  exact ⟨rfl, rfl⟩
end Go.Proofs.Qxb6000066a
