import Derived.Test.Qxb6000066aWalkB
namespace Go.Proofs.Qxb6000066a
open Go.RowKit

theorem enc1 (r : Int) (w : World) (h0 : 57344 ≤ r) (h1 : r < 57908) :
    Calls Try.prog 15 #[.int .i32 r] w fun e w' => e = .returned (.tuple #[.int .u8 (170 + (r - 57344) / 94), .int .u8 (161 + (r - 57344) % 94), .bool true]) ∧ w' = w := by
  go_enter Try.func15, Try.ntmps15
  go_wp2
  go_ret3
  exact ⟨rfl, rfl⟩
theorem enc2 (r : Int) (w : World) (h0 : 57908 ≤ r) (h1 : r < 58566) :
    Calls Try.prog 15 #[.int .i32 r] w fun e w' => e = .returned (.tuple #[.int .u8 (248 + (r - 57908) / 94), .int .u8 (161 + (r - 57908) % 94), .bool true]) ∧ w' = w := by
  go_enter Try.func15, Try.ntmps15
  go_wp2
  go_ret3
  exact ⟨rfl, rfl⟩
theorem enc3 (r : Int) (w : World) (h0 : 58566 ≤ r) (h1 : r ≤ 59237) (h2 : (r - 58566) % 96 < 63) :
    Calls Try.prog 15 #[.int .i32 r] w fun e w' => e = .returned (.tuple #[.int .u8 (161 + (r - 58566) / 96), .int .u8 (64 + (r - 58566) % 96), .bool true]) ∧ w' = w := by
  go_enter Try.func15, Try.ntmps15
  go_wp2
  go_ret3
  exact ⟨rfl, rfl⟩
theorem enc4 (r : Int) (w : World) (h0 : 58566 ≤ r) (h1 : r ≤ 59237) (h2 : 63 ≤ (r - 58566) % 96) :
    Calls Try.prog 15 #[.int .i32 r] w fun e w' => e = .returned (.tuple #[.int .u8 (161 + (r - 58566) / 96), .int .u8 (64 + (r - 58566) % 96 + 1), .bool true]) ∧ w' = w := by
  go_enter Try.func15, Try.ntmps15
  go_wp2
  go_ret3
  exact ⟨rfl, rfl⟩

/-- What zzEncodePUA comes to, and what is known of it. -/
theorem enc_any (r : Int) (w : World) (h0 : 57344 ≤ r) (h1 : r ≤ 59237) :
    Calls Try.prog 15 #[.int .i32 r] w fun e w' => ∃ f s : Int, e = .returned (.tuple #[.int .u8 f, .int .u8 s, .bool true]) ∧ (129 ≤ f ∧ f ≤ 254 ∧ 64 ≤ s ∧ s ≤ 254 ∧ s ≠ 127 ∧ pu f s = (r, true)) ∧ w = w' := by
  by_cases a1 : r < 57908
  · refine (enc1 r w h0 a1).mono ?_
    rintro e w' ⟨rfl, rfl⟩
    refine ⟨_, _, rfl, ⟨by omega, by omega, by omega, by omega, by omega, ?_⟩, rfl⟩
    unfold pu
    rw [if_pos (by omega)]
    congr 1
    omega
  by_cases a2 : r < 58566
  · refine (enc2 r w (by omega) a2).mono ?_
    rintro e w' ⟨rfl, rfl⟩
    refine ⟨_, _, rfl, ⟨by omega, by omega, by omega, by omega, by omega, ?_⟩, rfl⟩
    unfold pu
    rw [if_neg (by omega), if_pos (by omega)]
    congr 1
    omega
  by_cases a3 : (r - 58566) % 96 < 63
  · refine (enc3 r w (by omega) h1 a3).mono ?_
    rintro e w' ⟨rfl, rfl⟩
    refine ⟨_, _, rfl, ⟨by omega, by omega, by omega, by omega, by omega, ?_⟩, rfl⟩
    unfold pu
    rw [if_neg (by omega), if_neg (by omega), if_pos (by omega), if_neg (by omega)]
    congr 1
    omega
  · refine (enc4 r w (by omega) h1 (by omega)).mono ?_
    rintro e w' ⟨rfl, rfl⟩
    refine ⟨_, _, rfl, ⟨by omega, by omega, by omega, by omega, by omega, ?_⟩, rfl⟩
    unfold pu
    rw [if_neg (by omega), if_neg (by omega), if_pos (by omega), if_pos (by omega)]
    congr 1
    omega
end Go.Proofs.Qxb6000066a
