import Derived.Test.Qxb6600323aApF
import Derived.Test.Qxb6600323aRelH
namespace Go.Proofs.Qxb6600323a
open Go.RowKit
set_option linter.unusedVariables false

/-- The two arguments, as they lie. -/
structure Args (w : World) (a1 a2 : Option Addr) (n1 n2 : Nat) (aI aP : Nat → Option Addr) (nI nP cI cP : Nat → Nat) (kk : Nat → Nat → ByteArray) (oo : Nat → Nat → Int) : Prop where
  l1 : n1 ≤ maxLen
  l2 : n2 ≤ maxLen
  lI : ∀ i, i < n1 → nI i ≤ maxLen
  lP : ∀ i, i < n2 → nP i ≤ maxLen
  keys : KeysAt w a1 n1 aI nI cI kk
  ops : OpsAt w a2 n2 aP nP cP oo

set_option maxHeartbeats 1000000 in
/-- function 25 gives a bool. -/
theorem bytes_nl {a1 a2 : Option Addr} {n1 n2 : Nat} {aI aP : Nat → Option Addr} {nI nP cI cP : Nat → Nat} {kk : Nat → Nat → ByteArray} {oo : Nat → Nat → Int} {w : World} (c1 c2 : Nat) (H : Args w a1 a2 n1 n2 aI aP nI nP cI cP kk oo) :
    Calls Try.prog 25 #[.slice a1 n1 c1, .slice a2 n2 c2] w fun e w' => SomeBool e ∧ w = w' := by
  have HI := (id H.lI : Hid _)
  have HP := (id H.lP : Hid _)
  have HK := (id H.keys : Hid (KeysAt _ _ _ _ _ _ _))
  have HO := (id H.ops : Hid (OpsAt _ _ _ _ _ _ _))
  have hl1 := H.l1
  have hl2 := H.l2
  unfold maxLen at hl1 hl2
  clear H
  by_cases h1 : (1048576 : Int) < (n1 : Int)
  · go_enter Try.func25, Try.ntmps25
    go_wp2
    go_ret
    exact ⟨⟨_, rfl⟩, rfl⟩
  go_enter Try.func25, Try.ntmps25
  go_wp2
  go_loop [5, 6] (fun s i => ∃ k t : Nat, k ≤ n1 ∧ t ≤ 1048576 ∧ i = .int .i64 k ∧ s = .int .i64 t) (fun _ i => n1 - (intOf i).toNat)
  case atStart => exact ⟨0, n1, by omega, by omega, rfl, by go_num⟩
  case round =>
    obtain ⟨k, t, hk, ht, rfl, rfl⟩ := hrel
    by_cases hlt : k < n1
    · obtain ⟨b, off, rfl, hc⟩ := HK.out (by omega)
      have hcell := (hc k hlt).1
      have HC := (id (hc k hlt).2 : Hid _)
      have hm := HI.out k hlt
      unfold maxLen at hm
      clear hc HK
      by_cases q1 : (1048576 : Int) < (nI k : Int)
      · go_wp2
        go_ret
        exact ⟨⟨_, rfl⟩, rfl⟩
      by_cases q2 : (1048576 : Int) < (t : Int) + (nI k : Int)
      · go_wp2
        go_ret
        exact ⟨⟨_, rfl⟩, rfl⟩
      go_wp2
      go_loop [5, 7] (fun s i => ∃ q t : Nat, q ≤ nI k ∧ t ≤ 1048576 ∧ i = .int .i64 q ∧ s = .int .i64 t) (fun _ i => nI k - (intOf i).toNat)
      case atStart => exact ⟨0, t + nI k, by omega, by omega, rfl, by go_num⟩
      case round =>
        obtain ⟨q, t', hq, ht', rfl, rfl⟩ := hrel
        by_cases hlq : q < nI k
        · obtain ⟨b', off', haI, hc'⟩ := HC.out (by omega)
          rw [haI] at hcell
          have hcq := hc' q hlq
          clear hc' HC
          by_cases p1 : (1048576 : Int) < ((kk k q).size : Int)
          · go_wp2
            go_ret
            exact ⟨⟨_, rfl⟩, rfl⟩
          by_cases p2 : (1048576 : Int) < (t' : Int) + ((kk k q).size : Int)
          · go_wp2
            go_ret
            exact ⟨⟨_, rfl⟩, rfl⟩
          go_wp2
          go_round
          case rel => exact ⟨q + 1, t' + (kk k q).size, by omega, by omega, by go_num, by go_num⟩
          case measure => simp [intOf]; omega
        · go_wp2
          go_round
          case rel => exact ⟨k + 1, t', by omega, by omega, by go_num, by go_num⟩
          case measure => simp [intOf]; omega
    · by_cases q1 : (1048576 : Int) < (n2 : Int)
      · go_wp2
        go_ret
        exact ⟨⟨_, rfl⟩, rfl⟩
      by_cases q2 : (1048576 : Int) < (t : Int) + (n2 : Int)
      · go_wp2
        go_ret
        exact ⟨⟨_, rfl⟩, rfl⟩
      go_wp2
      go_loop [5, 8] (fun s i => ∃ k t : Nat, k ≤ n2 ∧ t ≤ 1048576 ∧ i = .int .i64 k ∧ s = .int .i64 t) (fun _ i => n2 - (intOf i).toNat)
      case atStart => exact ⟨0, t + n2, by omega, by omega, rfl, by go_num⟩
      case round =>
        obtain ⟨k', t', hk', ht', rfl, rfl⟩ := hrel
        by_cases hlt' : k' < n2
        · obtain ⟨b, off, rfl, hc⟩ := HO.out (by omega)
          have hcell := (hc k' hlt').1
          have hm := HP.out k' hlt'
          unfold maxLen at hm
          clear hc HO
          by_cases p1 : (1048576 : Int) < (nP k' : Int)
          · go_wp2
            go_ret
            exact ⟨⟨_, rfl⟩, rfl⟩
          by_cases p2 : (1048576 : Int) < (t' : Int) + (nP k' : Int)
          · go_wp2
            go_ret
            exact ⟨⟨_, rfl⟩, rfl⟩
          go_wp2
          go_round
          case rel => exact ⟨k' + 1, t' + nP k', by omega, by omega, by go_num, by go_num⟩
          case measure => simp [intOf]; omega
        · go_wp2
          go_ret
          exact ⟨⟨_, rfl⟩, rfl⟩

set_option maxHeartbeats 1000000 in
/-- function 10 gives a bool. -/
theorem bytes_sg {a1 a2 : Option Addr} {n1 n2 : Nat} {aI aP : Nat → Option Addr} {nI nP cI cP : Nat → Nat} {kk : Nat → Nat → ByteArray} {oo : Nat → Nat → Int} {w : World} (c1 c2 : Nat) (rep : Bool) (H : Args w a1 a2 n1 n2 aI aP nI nP cI cP kk oo) :
    Calls Try.prog 10 #[.slice a1 n1 c1, .slice a2 n2 c2, .bool rep] w fun e w' => SomeBool e ∧ w = w' := by
  have HI := (id H.lI : Hid _)
  have HP := (id H.lP : Hid _)
  have HK := (id H.keys : Hid (KeysAt _ _ _ _ _ _ _))
  have HO := (id H.ops : Hid (OpsAt _ _ _ _ _ _ _))
  have hl1 := H.l1
  have hl2 := H.l2
  unfold maxLen at hl1 hl2
  clear H
  by_cases h1 : (1048576 : Int) < (n1 : Int)
  · go_enter Try.func10, Try.ntmps10
    go_wp2
    go_ret
    exact ⟨⟨_, rfl⟩, rfl⟩
  go_enter Try.func10, Try.ntmps10
  go_wp2
  go_loop [7, 8] (fun s i => ∃ k t : Nat, k ≤ n1 ∧ t ≤ 1048576 ∧ i = .int .i64 k ∧ s = .int .i64 t) (fun _ i => n1 - (intOf i).toNat)
  case atStart => exact ⟨0, n1, by omega, by omega, rfl, by go_num⟩
  case round =>
    obtain ⟨k, t, hk, ht, rfl, rfl⟩ := hrel
    by_cases hlt : k < n1
    · obtain ⟨b, off, rfl, hc⟩ := HK.out (by omega)
      have hcell := (hc k hlt).1
      have HC := (id (hc k hlt).2 : Hid _)
      have hm := HI.out k hlt
      unfold maxLen at hm
      clear hc HK
      by_cases q1 : (1048576 : Int) < (nI k : Int)
      · go_wp2
        go_ret
        exact ⟨⟨_, rfl⟩, rfl⟩
      by_cases q2 : (1048576 : Int) < (t : Int) + (nI k : Int)
      · go_wp2
        go_ret
        exact ⟨⟨_, rfl⟩, rfl⟩
      go_wp2
      go_loop [7, 9] (fun s i => ∃ q t : Nat, q ≤ nI k ∧ t ≤ 1048576 ∧ i = .int .i64 q ∧ s = .int .i64 t) (fun _ i => nI k - (intOf i).toNat)
      case atStart => exact ⟨0, t + nI k, by omega, by omega, rfl, by go_num⟩
      case round =>
        obtain ⟨q, t', hq, ht', rfl, rfl⟩ := hrel
        by_cases hlq : q < nI k
        · obtain ⟨b', off', haI, hc'⟩ := HC.out (by omega)
          rw [haI] at hcell
          have hcq := hc' q hlq
          clear hc' HC
          by_cases p1 : (1048576 : Int) < ((kk k q).size : Int)
          · go_wp2
            go_ret
            exact ⟨⟨_, rfl⟩, rfl⟩
          by_cases p2 : (1048576 : Int) < (t' : Int) + ((kk k q).size : Int)
          · go_wp2
            go_ret
            exact ⟨⟨_, rfl⟩, rfl⟩
          go_wp2
          go_round
          case rel => exact ⟨q + 1, t' + (kk k q).size, by omega, by omega, by go_num, by go_num⟩
          case measure => simp [intOf]; omega
        · go_wp2
          go_round
          case rel => exact ⟨k + 1, t', by omega, by omega, by go_num, by go_num⟩
          case measure => simp [intOf]; omega
    · by_cases q1 : (1048576 : Int) < (n2 : Int)
      · go_wp2
        go_ret
        exact ⟨⟨_, rfl⟩, rfl⟩
      by_cases q2 : (1048576 : Int) < (t : Int) + (n2 : Int)
      · go_wp2
        go_ret
        exact ⟨⟨_, rfl⟩, rfl⟩
      go_wp2
      go_loop [7, 10] (fun s i => ∃ k t : Nat, k ≤ n2 ∧ t ≤ 1048576 ∧ i = .int .i64 k ∧ s = .int .i64 t) (fun _ i => n2 - (intOf i).toNat)
      case atStart => exact ⟨0, t + n2, by omega, by omega, rfl, by go_num⟩
      case round =>
        obtain ⟨k', t', hk', ht', rfl, rfl⟩ := hrel
        by_cases hlt' : k' < n2
        · obtain ⟨b, off, rfl, hc⟩ := HO.out (by omega)
          have hcell := (hc k' hlt').1
          have hm := HP.out k' hlt'
          unfold maxLen at hm
          clear hc HO
          by_cases p1 : (1048576 : Int) < (nP k' : Int)
          · go_wp2
            go_ret
            exact ⟨⟨_, rfl⟩, rfl⟩
          by_cases p2 : (1048576 : Int) < (t' : Int) + (nP k' : Int)
          · go_wp2
            go_ret
            exact ⟨⟨_, rfl⟩, rfl⟩
          go_wp2
          go_round
          case rel => exact ⟨k' + 1, t' + nP k', by omega, by omega, by go_num, by go_num⟩
          case measure => simp [intOf]; omega
        · go_wp2
          go_ret
          exact ⟨⟨_, rfl⟩, rfl⟩
end Go.Proofs.Qxb6600323a
