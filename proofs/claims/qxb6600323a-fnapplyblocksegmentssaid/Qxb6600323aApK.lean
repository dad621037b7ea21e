import Derived.Test.Qxb6600323aApJ
namespace Go.Proofs.Qxb6600323a
open Go.RowKit
set_option linter.unusedVariables false

def FitSays (n1 n2 : Nat) (nI : Nat → Nat) (e : Ending) : Prop := ∃ t : Bool, e = .returned (.bool t) ∧ (t = true → n1 ≤ 65536 ∧ n2 ≤ 65536 ∧ 16 * psum nI n1 ≤ 1048576)
theorem FitSays.no {n1 n2 : Nat} {nI : Nat → Nat} : FitSays n1 n2 nI (.returned (.bool false)) := ⟨false, rfl, fun h => by cases h⟩

set_option maxHeartbeats 1000000 in
/-- zzBlocksFit. -/
theorem fit_any {a1 a2 : Option Addr} {n1 n2 : Nat} {aI aP : Nat → Option Addr} {nI nP cI cP : Nat → Nat} {kk : Nat → Nat → ByteArray} {oo : Nat → Nat → Int} {w : World} (c1 c2 : Nat) (H : Args w a1 a2 n1 n2 aI aP nI nP cI cP kk oo) :
    Calls Try.prog 11 #[.slice a1 n1 c1, .slice a2 n2 c2] w fun e w' => FitSays n1 n2 nI e ∧ w = w' := by
  have HI := (id H.lI : Hid _)
  have HP := (id H.lP : Hid _)
  have HK := (id H.keys : Hid (KeysAt _ _ _ _ _ _ _))
  have HO := (id H.ops : Hid (OpsAt _ _ _ _ _ _ _))
  have hl1 := H.l1
  have hl2 := H.l2
  unfold maxLen at hl1 hl2
  clear H
  by_cases h1 : (65536 : Int) < (n1 : Int)
  · go_enter Try.func11, Try.ntmps11
    go_wp2
    go_ret
    exact ⟨.no, rfl⟩
  by_cases h2 : (65536 : Int) < (n2 : Int)
  · go_enter Try.func11, Try.ntmps11
    go_wp2
    go_ret
    exact ⟨.no, rfl⟩
  by_cases h3 : (1048576 : Int) < 24 * (n1 : Int) + 24 * (n2 : Int)
  · go_enter Try.func11, Try.ntmps11
    go_wp2
    go_ret
    exact ⟨.no, rfl⟩
  go_enter Try.func11, Try.ntmps11
  go_wp2
  go_loop [5, 6] (fun s i => ∃ k t : Nat, k ≤ n1 ∧ t ≤ 1048576 ∧ i = .int .i64 k ∧ s = .int .i64 t ∧ Hid (16 * psum nI k ≤ t)) (fun _ i => n1 - (intOf i).toNat)
  case atStart => exact ⟨0, 24 * n1 + 24 * n2, by omega, by omega, rfl, by go_num, (by simp [psum] : 16 * psum nI 0 ≤ _)⟩
  case round =>
    obtain ⟨k, t, hk, ht, rfl, rfl, hg⟩ := hrel
    by_cases hlt : k < n1
    · obtain ⟨b, off, rfl, hc⟩ := HK.out (by omega)
      have hcell := (hc k hlt).1
      have HC := (id (hc k hlt).2 : Hid _)
      have hm := HI.out k hlt
      unfold maxLen at hm
      clear hc HK
      by_cases q1 : (1048576 : Int) < (nI k : Int)
      · go_wp2
        go_ret
        exact ⟨.no, rfl⟩
      by_cases q2 : (1048576 : Int) < (t : Int) + 16 * (nI k : Int)
      · go_wp2
        go_ret
        exact ⟨.no, rfl⟩
      go_wp2
      go_loop [5, 8] (fun s i => ∃ q t : Nat, q ≤ nI k ∧ t ≤ 1048576 ∧ i = .int .i64 q ∧ s = .int .i64 t ∧ Hid (16 * psum nI (k + 1) ≤ t)) (fun _ i => nI k - (intOf i).toNat)
      case atStart => exact ⟨0, t + 16 * nI k, by omega, by omega, rfl, by go_num, (by have := hg.out; simp only [psum]; omega : 16 * psum nI (k + 1) ≤ _)⟩
      case round =>
        obtain ⟨q, t', hq, ht', rfl, rfl, hg'⟩ := hrel
        by_cases hlq : q < nI k
        · obtain ⟨b', off', haI, hc'⟩ := HC.out (by omega)
          rw [haI] at hcell
          have hcq := hc' q hlq
          clear hc' HC
          by_cases p1 : (1048576 : Int) < ((kk k q).size : Int)
          · go_wp2
            go_ret
            exact ⟨.no, rfl⟩
          by_cases p2 : (1048576 : Int) < (t' : Int) + ((kk k q).size : Int)
          · go_wp2
            go_ret
            exact ⟨.no, rfl⟩
          go_wp2
          go_round
          case rel => exact ⟨q + 1, t' + (kk k q).size, by omega, by omega, by go_num, by go_num, (by have := hg'.out; omega : 16 * psum nI (k + 1) ≤ _)⟩
          case measure => simp [intOf]; omega
        · go_wp2
          go_round
          case rel => exact ⟨k + 1, t', by omega, by omega, by go_num, by go_num, hg'⟩
          case measure => simp [intOf]; omega
    · obtain rfl : k = n1 := by omega
      go_wp2
      go_loop [5, 9] (fun s i => ∃ k' t' : Nat, k' ≤ n2 ∧ t' ≤ 1048576 ∧ i = .int .i64 k' ∧ s = .int .i64 t') (fun _ i => n2 - (intOf i).toNat)
      case atStart => exact ⟨0, t, by omega, by omega, rfl, by go_num⟩
      case round =>
        obtain ⟨k', t', hk', ht', rfl, rfl⟩ := hrel
        by_cases hlt' : k' < n2
        · obtain ⟨b, off, rfl, hc⟩ := HO.out (by omega)
          have hcell := (hc k' hlt').1
          have hm := HP.out k' hlt'
          unfold maxLen at hm
          clear hc HO
          by_cases p1 : (1048576 : Int) < (nP k' : Int)
          · go_wp2
            go_ret
            exact ⟨.no, rfl⟩
          by_cases p2 : (1048576 : Int) < (t' : Int) + (nP k' : Int)
          · go_wp2
            go_ret
            exact ⟨.no, rfl⟩
          go_wp2
          go_round
          case rel => exact ⟨k' + 1, t' + nP k', by omega, by omega, by go_num, by go_num⟩
          case measure => simp [intOf]; omega
        · go_wp2
          go_ret
          exact ⟨⟨true, rfl, fun _ => ⟨by omega, by omega, by have := hg.out; omega⟩⟩, rfl⟩

def MatchSays (n1 n2 : Nat) (nI nP : Nat → Nat) (e : Ending) : Prop := ∃ t : Bool, e = .returned (.bool t) ∧ (t = true → n1 = n2 ∧ ∀ b, b < n1 → nI b = nP b)
theorem MatchSays.no {n1 n2 : Nat} {nI nP : Nat → Nat} : MatchSays n1 n2 nI nP (.returned (.bool false)) := ⟨false, rfl, fun h => by cases h⟩

set_option maxHeartbeats 1000000 in
/-- zzBlocksMatch. -/
theorem match_any {a1 a2 : Option Addr} {n1 n2 : Nat} {aI aP : Nat → Option Addr} {nI nP cI cP : Nat → Nat} {kk : Nat → Nat → ByteArray} {oo : Nat → Nat → Int} {w : World} (c1 c2 : Nat) (hn1 : n1 ≤ 65536) (H : Args w a1 a2 n1 n2 aI aP nI nP cI cP kk oo) :
    Calls Try.prog 12 #[.slice a1 n1 c1, .slice a2 n2 c2] w fun e w' => MatchSays n1 n2 nI nP e ∧ ∃ k, w' = w.drewN k := by
  have HI := (id H.lI : Hid _)
  have HP := (id H.lP : Hid _)
  have HK := (id H.keys : Hid (KeysAt _ _ _ _ _ _ _))
  have HO := (id H.ops : Hid (OpsAt _ _ _ _ _ _ _))
  have hl1 := H.l1
  have hl2 := H.l2
  unfold maxLen at hl1 hl2
  clear H
  by_cases h1 : (n1 : Int) = (n2 : Int)
  · obtain rfl : n1 = n2 := by omega
    clear h1
    go_enter Try.func12, Try.ntmps12
    go_wp2
    go_loopw [5] (fun i wr => ∃ k m : Nat, k ≤ n1 ∧ i = .int .i64 k ∧ w.drewN m = wr ∧ Hid (∀ b, b < k → nI b = nP b)) (fun i _ => n1 - (intOf i).toNat)
    case atStart => exact ⟨0, 0, Nat.zero_le _, rfl, rfl, (fun b h => by omega : ∀ b, b < 0 → nI b = nP b)⟩
    case round =>
      obtain ⟨k, m, hk, rfl, rfl, hg⟩ := hrel
      by_cases hlt : k < n1
      · obtain ⟨b, off, rfl, hc⟩ := HK.out (by omega)
        obtain ⟨b', off', rfl, hc'⟩ := HO.out (by omega)
        have c1 := (hc k hlt).1
        have c2 := (hc' k hlt).1
        clear hc hc' HK HO
        by_cases q : (nI k : Int) = (nP k : Int)
        · have hq : nI k = nP k := by omega
          rw [← hq] at c2
          have hg2 : Hid (∀ b, b < k + 1 → nI b = nP b) := by
            refine (fun b hb => ?_ : ∀ b, b < k + 1 → nI b = nP b)
            by_cases e : b = k
            · rw [e]; exact hq
            · exact hg.out b (by omega)
          clear q hq
          go_wp2_with fail
          go_quiet (fail)
          go_wp2_with fail
          go_roundw
          case rel => exact ⟨k + 1, _, by omega, by go_num, rfl, hg2⟩
          case measure => simp [intOf]; omega
        · go_wp2_with fail
          go_quiet (fail)
          go_wp2_with fail
          go_ret
          exact ⟨.no, _, World.drewN_drewN _ _ _⟩
      · obtain rfl : k = n1 := by omega
        go_wp2
        go_ret
        exact ⟨⟨true, rfl, fun _ => ⟨rfl, hg.out⟩⟩, _, rfl⟩
  · go_enter Try.func12, Try.ntmps12
    go_wp2
    go_ret
    exact ⟨.no, 0, rfl⟩
end Go.Proofs.Qxb6600323a
