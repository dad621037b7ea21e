import Derived.Test.Qxb6600323aRelG
namespace Go.Proofs.Qxb6600323a
open Go.RowKit
set_option linter.unusedVariables false

/-- Where a slice of ints lies, if it has an element. -/
def IntsAt (w : World) (a : Option Addr) (n : Nat) (z : Nat → Int) : Prop := 0 < n → ∃ b off, a = some ⟨b, off, none⟩ ∧ ∀ i, i < n → w.cell? ⟨b, off + i, none⟩ = some (.int .i64 (z i))
theorem IntsIs.at {w : World} {a : Option Addr} {n c : Nat} {z : Nat → Int} (h : IntsIs w a n c z) : IntsAt w a n z := by
  rcases h with ⟨_, q, _⟩ | ⟨x, rfl, q⟩
  · intro h; omega
  · intro h
    obtain ⟨b, off, rfl, hc⟩ := q h
    exact ⟨b, off, rfl, hc⟩
theorem IntsAt.below {w w' : World} {a : Option Addr} {n : Nat} {z : Nat → Int} (h : IntsAt w a n z) (hb : Below w.heap.size w w') : IntsAt w' a n z := by
  intro hn
  obtain ⟨b, off, e, hc⟩ := h hn
  exact ⟨b, off, e, fun i hi => by rw [hb.cell (by exact World.block_lt_of_cell? w _ (hc i hi))]; exact hc i hi⟩
/-- A slice of ints of the call's own. -/
def RowInts (w : World) (a : Option Addr) (n c : Nat) (z : Nat → Int) : Prop :=
  (a = none ∧ n = 0 ∧ c = 0) ∨ ∃ b, a = some ⟨b, 0, none⟩ ∧ c = n ∧ w.rowIs b 3 n (fun i => .int .i64 (z i))
theorem RowInts.is {w : World} {a : Option Addr} {n c : Nat} {z : Nat → Int} (h : RowInts w a n c z) : IntsIs w a n c z := by
  rcases h with q | ⟨b, rfl, _, hr⟩
  · exact .inl q
  · exact .inr ⟨_, rfl, fun _ => ⟨b, 0, rfl, fun i hi => by rw [Nat.zero_add]; exact hr.cell hi⟩⟩
theorem RowInts.below {w w' : World} {a : Option Addr} {n c : Nat} {z : Nat → Int} (h : RowInts w a n c z) (hb : Below w.heap.size w w') : RowInts w' a n c z := by
  rcases h with q | ⟨b, q1, q2, hr⟩
  · exact .inl q
  · exact .inr ⟨b, q1, q2, hr.of_block (hb.block _ hr.lt)⟩

/-- zzCopyInts. -/
theorem copyInts_any (a : Option Addr) (n c : Nat) (z : Nat → Int) (w : World) (hn : n ≤ 1048576) (hs : IntsIs w a n c z) :
    Calls Try.prog 28 #[.slice a n c] w fun e w' => ∃ a' c', e = .returned (.slice a' n c') ∧ RowInts w' a' n c' z ∧ a'.isNone = a.isNone ∧ Below w.heap.size w w' := by
  rcases hs with ⟨rfl, rfl, rfl⟩ | ⟨x, rfl, hx⟩
  · have hq := fun (w : World) => Lib.run_eql_slice_nil (P := Try.prog) w 34 3 none 0 0 0 0 Try.underlying34
    go_enter Try.func28, Try.ntmps28
    go_wp2
    go_ret
    exact ⟨none, 0, rfl, .inl ⟨rfl, rfl, rfl⟩, rfl, Below.refl _ _⟩
  · have hq := fun (w : World) => Lib.run_eql_slice_nil (P := Try.prog) w 34 3 (some x) n c 0 0 Try.underlying34
    have hmk := run_make_row' (P := Try.prog) 34 3 (.int .i64 0) 8 Try.underlying34 Try.info3R rfl .i64 .i64 n (by omega) (by omega)
    have HS := (id hx : Hid _)
    clear hx
    go_enter Try.func28, Try.ntmps28
    go_wp2
    go_loopw [4] (fun i wr => ∃ k : Nat, k ≤ n ∧ i = .int .i64 k ∧ Below w.heap.size w wr ∧ wr.rowIs w.heap.size 3 n (partR k (fun i => .int .i64 (z i)) (.int .i64 0))) (fun i _ => n - (intOf i).toNat)
    case atStart => exact ⟨0, Nat.zero_le _, rfl, (Below.refl _ _).alloc (Nat.le_refl _) _, partR_start (World.rowIs_made _ _ _ _)⟩
    case round =>
      obtain ⟨k, hk, rfl, hb, hr⟩ := hrel
      by_cases hlt : k < n
      · obtain ⟨b, off, rfl, hcell⟩ := HS.out (by omega)
        have hc : wr.cell? ⟨b, off + k, none⟩ = some (.int .i64 (z k)) := (hb.cell (by exact World.block_lt_of_cell? w _ (hcell k hlt))).trans (hcell k hlt)
        have hd := hr.cell hlt
        have hf := hr.frozen k
        clear hcell HS
        go_wp2
        go_roundw
        case rel => exact ⟨k + 1, by omega, by go_num, hb.setCell (Nat.le_refl _) _, partR_set (f := fun i => .int .i64 (z i)) hr⟩
        case measure => simp [intOf]; omega
      · obtain rfl : n = k := by omega
        go_wp2
        go_ret
        exact ⟨_, _, rfl, .inr ⟨_, rfl, rfl, partR_end hr⟩, rfl, hb⟩

/-- zzEqInts of two that are equal. -/
theorem eqInts_true (a a' : Option Addr) (n c c' : Nat) (z : Nat → Int) (w : World) (hn : n ≤ 1048576) (h1 : IntsAt w a n z) (h2 : IntsAt w a' n z) :
    Calls Try.prog 18 #[.slice a n c, .slice a' n c'] w fun e w' => e = .returned (.bool true) ∧ ∃ k, w' = w.drewN k := by
  have H1 := (id h1 : Hid _)
  have H2 := (id h2 : Hid _)
  clear h1 h2
  go_enter Try.func18, Try.ntmps18
  go_wp2
  go_loopw [5] (fun i wr => ∃ k m : Nat, k ≤ n ∧ i = .int .i64 k ∧ w.drewN m = wr) (fun i _ => n - (intOf i).toNat)
  case atStart => exact ⟨0, 0, Nat.zero_le _, rfl, rfl⟩
  case round =>
    obtain ⟨k, m, hk, rfl, rfl⟩ := hrel
    by_cases hlt : k < n
    · obtain ⟨b, off, rfl, hc⟩ := H1.out (by omega)
      obtain ⟨b', off', rfl, hc'⟩ := H2.out (by omega)
      have c1 := hc k hlt
      have c2 := hc' k hlt
      clear hc hc' H1 H2
      go_wp2_with fail
      go_quiet (fail)
      go_wp2_with fail
      go_roundw
      case rel => exact ⟨k + 1, _, by omega, by go_num, rfl⟩
      case measure => simp [intOf]; omega
    · go_wp2
      go_ret
      exact ⟨rfl, _, rfl⟩

def SomeBool (e : Ending) : Prop := ∃ t : Bool, e = .returned (.bool t)
/-- zzBytes_FnRelistedNewBasesAfterInherited gives a bool. -/
theorem bytes_nb (a a' : Option Addr) (n c n' c' : Nat) (w : World) (hn : n ≤ maxLen) (hn' : n' ≤ maxLen) :
    Calls Try.prog 31 #[.slice a n c, .slice a' n' c'] w fun e w' => SomeBool e ∧ w = w' := by
  unfold maxLen at hn hn'
  by_cases h1 : 1048576 < n
  · have h1' : (1048576 : Int) < (n : Int) := by omega
    go_enter Try.func31, Try.ntmps31
    go_wp2
    go_ret
    exact ⟨⟨_, rfl⟩, rfl⟩
  · by_cases h2 : 1048576 < n'
    · have h1' : ¬ (1048576 : Int) < (n : Int) := by omega
      have h2' : (1048576 : Int) < (n' : Int) := by omega
      go_enter Try.func31, Try.ntmps31
      go_wp2
      go_ret
      exact ⟨⟨_, rfl⟩, rfl⟩
    · have h1' : ¬ (1048576 : Int) < (n : Int) := by omega
      have h2' : ¬ (1048576 : Int) < (n' : Int) := by omega
      go_enter Try.func31, Try.ntmps31
      go_wp2
      all_goals
        go_ret
        exact ⟨⟨_, rfl⟩, rfl⟩
end Go.Proofs.Qxb6600323a
