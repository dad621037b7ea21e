import Derived.Test.Qxb6600323aRelH
namespace Go.Proofs.Qxb6600323a
open Go.RowKit
set_option linter.unusedVariables false

theorem Try.info34 : (Try.prog.info? 34).map (fun i => (i.zero, i.size, i.bytes)) = some (some (.slice none 0 0), 1, 24) := by kernel_rfl

theorem IntsIs.len {w : World} {a : Option Addr} {n c : Nat} {z : Nat → Int} (h : IntsIs w a n c z) : a = none → n = 0 := by
  intro e
  rcases h with ⟨_, q, _⟩ | ⟨x, q, _⟩
  · exact q
  · rw [e] at q; cases q

/-- Where the inner slices lie. -/
def Ints2At (w : World) (a : Option Addr) (n : Nat) (aI : Nat → Option Addr) (nI cI : Nat → Nat) : Prop :=
  0 < n → ∃ b off, a = some ⟨b, off, none⟩ ∧ ∀ i, i < n → w.cell? ⟨b, off + i, none⟩ = some (.slice (aI i) (nI i) (cI i))
theorem Ints2Is.at {w : World} {a : Option Addr} {n c : Nat} {aI : Nat → Option Addr} {nI cI : Nat → Nat} {zI : Nat → Nat → Int} (h : Ints2Is w a n c aI nI cI zI) : Ints2At w a n aI nI cI := by
  rcases h with ⟨_, q, _⟩ | ⟨x, rfl, q⟩
  · intro h; omega
  · intro h
    obtain ⟨b, off, rfl, hc⟩ := q h
    exact ⟨b, off, rfl, fun i hi => (hc i hi).1⟩

set_option maxHeartbeats 400000 in
/-- zzBytes_FnRelistedExact gives a bool. -/
theorem bytes_ex (hb fh : Bool) (aL aS aW : Option Addr) (nL cL nS cS nW cW : Nat) (aI : Nat → Option Addr) (nI cI : Nat → Nat) (w : World) (hnL : nL ≤ maxLen) (hnS : nS ≤ maxLen) (hnW : nW ≤ maxLen) (hnI : ∀ i, i < nS → nI i ≤ maxLen) (hS : Ints2At w aS nS aI nI cI) :
    Calls Try.prog 27 #[.bool hb, .slice aL nL cL, .slice aS nS cS, .bool fh, .slice aW nW cW] w fun e w' => SomeBool e ∧ w = w' := by
  unfold maxLen at hnL hnS hnW
  have HI : Hid (∀ i, i < nS → nI i ≤ maxLen) := hnI
  have HS := (id hS : Hid _)
  clear hnI hS
  by_cases h1 : (1048576 : Int) < (nL : Int)
  · go_enter Try.func27, Try.ntmps27
    go_wp2
    go_ret
    exact ⟨⟨_, rfl⟩, rfl⟩
  by_cases h2 : (1048576 : Int) < (nS : Int)
  · go_enter Try.func27, Try.ntmps27
    go_wp2
    go_ret
    exact ⟨⟨_, rfl⟩, rfl⟩
  by_cases h3 : (1048576 : Int) < (nL : Int) + (nS : Int)
  · go_enter Try.func27, Try.ntmps27
    go_wp2
    go_ret
    exact ⟨⟨_, rfl⟩, rfl⟩
  go_enter Try.func27, Try.ntmps27
  go_wp2
  go_loop [11, 12] (fun s i => ∃ k t : Nat, k ≤ nS ∧ t ≤ 1048576 ∧ i = .int .i64 k ∧ s = .int .i64 t) (fun _ i => nS - (intOf i).toNat)
  case atStart => exact ⟨0, nL + nS, by omega, by omega, rfl, by go_num⟩
  case round =>
    obtain ⟨k, t, hk, ht, rfl, rfl⟩ := hrel
    by_cases hlt : k < nS
    · obtain ⟨b, off, rfl, hc⟩ := HS.out (by omega)
      have hcell := hc k hlt
      have hm := HI.out k hlt
      unfold maxLen at hm
      clear hc HS
      by_cases q1 : (1048576 : Int) < (nI k : Int)
      · go_wp2
        go_ret
        exact ⟨⟨_, rfl⟩, rfl⟩
      by_cases q2 : (1048576 : Int) < (t : Int) + (nI k : Int)
      · go_wp2
        go_ret
        exact ⟨⟨_, rfl⟩, rfl⟩
      go_wp2
      go_round
      case rel => exact ⟨k + 1, t + nI k, by omega, by omega, by go_num, by go_num⟩
      case measure => simp [intOf]; omega
    · by_cases q1 : (1048576 : Int) < (nW : Int)
      · go_wp2
        go_ret
        exact ⟨⟨_, rfl⟩, rfl⟩
      · by_cases q2 : (1048576 : Int) < (t : Int) + (nW : Int)
        · go_wp2
          go_ret
          exact ⟨⟨_, rfl⟩, rfl⟩
        · go_wp2
          go_ret
          exact ⟨⟨_, rfl⟩, rfl⟩

/-- A slice of slices of ints of the call's own. -/
def RowInts2 (w : World) (a : Option Addr) (n c : Nat) (aI : Nat → Option Addr) (nI cI : Nat → Nat) (zI : Nat → Nat → Int) : Prop :=
  (a = none ∧ n = 0 ∧ c = 0) ∨ ∃ b, a = some ⟨b, 0, none⟩ ∧ c = n ∧ w.rowIs b 34 n (fun i => .slice (aI i) (nI i) (cI i)) ∧ ∀ i, i < n → RowInts w (aI i) (nI i) (cI i) (zI i)
theorem RowInts2.is {w : World} {a : Option Addr} {n c : Nat} {aI : Nat → Option Addr} {nI cI : Nat → Nat} {zI : Nat → Nat → Int} (h : RowInts2 w a n c aI nI cI zI) : Ints2Is w a n c aI nI cI zI := by
  rcases h with q | ⟨b, rfl, _, hr, hi⟩
  · exact .inl q
  · exact .inr ⟨_, rfl, fun _ => ⟨b, 0, rfl, fun i h => ⟨by rw [Nat.zero_add]; exact hr.cell h, (hi i h).is⟩⟩⟩
theorem RowInts2.below {w w' : World} {a : Option Addr} {n c : Nat} {aI : Nat → Option Addr} {nI cI : Nat → Nat} {zI : Nat → Nat → Int} (h : RowInts2 w a n c aI nI cI zI) (hb : Below w.heap.size w w') : RowInts2 w' a n c aI nI cI zI := by
  rcases h with q | ⟨b, q1, q2, hr, hi⟩
  · exact .inl q
  · exact .inr ⟨b, q1, q2, hr.of_block (hb.block _ hr.lt), fun i h => (hi i h).below hb⟩
theorem RowInts.setRow {w : World} {a : Option Addr} {n c : Nat} {z : Nat → Int} (h : RowInts w a n c z) {b' t n' : Nat} {f : Nat → Value} (hr : w.rowIs b' t n' f) (ht : t ≠ 3) (i : Nat) (v : Value) : RowInts (w.setCell ⟨b', i, none⟩ v) a n c z := by
  rcases h with q | ⟨b, q1, q2, q3⟩
  · exact .inl q
  · exact .inr ⟨b, q1, q2, q3.setOther (by exact row_ne q3 hr (fun e => ht e.symm)) v⟩

set_option maxRecDepth 100000 in
set_option maxHeartbeats 400000 in
/-- zzCopyInts2. -/
theorem copyInts2_any (a : Option Addr) (n c : Nat) (aI : Nat → Option Addr) (nI cI : Nat → Nat) (zI : Nat → Nat → Int) (w : World) (hn : n ≤ 1048576) (hnI : ∀ i, i < n → nI i ≤ 1048576) (hs : Ints2Is w a n c aI nI cI zI) :
    Calls Try.prog 29 #[.slice a n c] w fun e w' => ∃ a' c' aI' cI', e = .returned (.slice a' n c') ∧ RowInts2 w' a' n c' aI' nI cI' zI ∧ Below w.heap.size w w' := by
  rcases hs with ⟨rfl, rfl, rfl⟩ | ⟨x, rfl, hx⟩
  · have hq := fun (w : World) => Lib.run_eql_slice_nil (P := Try.prog) w 32 34 none 0 0 0 0 Try.underlying32
    go_enter Try.func29, Try.ntmps29
    go_wp2
    go_ret
    exact ⟨none, 0, fun _ => none, fun _ => 0, rfl, .inl ⟨rfl, rfl, rfl⟩, Below.refl _ _⟩
  · have hq := fun (w : World) => Lib.run_eql_slice_nil (P := Try.prog) w 32 34 (some x) n c 0 0 Try.underlying32
    have hmk := run_make_row' (P := Try.prog) 32 34 (.slice none 0 0) 24 Try.underlying32 Try.info34 rfl .i64 .i64 n (by omega) (by omega)
    have HS := (id hx : Hid _)
    have HI := (id hnI : Hid _)
    clear hx hnI
    go_enter Try.func29, Try.ntmps29
    go_wp2
    go_loopw [4] (fun i wr => ∃ k : Nat, k ≤ n ∧ i = .int .i64 k ∧ Below w.heap.size w wr ∧ Hid (∃ (aI' : Nat → Option Addr) (cI' : Nat → Nat), wr.rowIs w.heap.size 34 n (partR k (fun i => .slice (aI' i) (nI i) (cI' i)) (.slice none 0 0)) ∧ ∀ i, i < k → RowInts wr (aI' i) (nI i) (cI' i) (zI i))) (fun i _ => n - (intOf i).toNat)
    case atStart => exact ⟨0, Nat.zero_le _, rfl, (Below.refl _ _).alloc (Nat.le_refl _) _, ⟨fun _ => none, fun _ => 0, partR_start (World.rowIs_made _ _ _ _), fun i hi => by omega⟩⟩
    case round =>
      obtain ⟨k, hk, rfl, hb, hg⟩ := hrel
      obtain ⟨aI', cI', hr, hri⟩ := hg.out
      by_cases hlt : k < n
      · obtain ⟨b, off, rfl, hcell⟩ := HS.out (by omega)
        have hc : wr.cell? ⟨b, off + k, none⟩ = some (.slice (aI k) (nI k) (cI k)) := (hb.cell (by exact World.block_lt_of_cell? w _ (hcell k hlt).1)).trans (hcell k hlt).1
        have HCP := (id (copyInts_any (aI k) (nI k) (cI k) (zI k) wr (HI.out k hlt) ((hcell k hlt).2.below hb)) : Hid (Calls _ _ _ _ _))
        have HG : Hid (wr.rowIs w.heap.size 34 n (partR k (fun i => .slice (aI' i) (nI i) (cI' i)) (.slice none 0 0)) ∧ ∀ i, i < k → RowInts wr (aI' i) (nI i) (cI' i) (zI i)) := ⟨hr, hri⟩
        have hsz := hr.lt
        clear hcell HS hg hr hri
        go_wp2_with fail
        refine HCP.out.mono ?_
        rintro e w2 ⟨a2, c2, rfl, hr2, _, hb2⟩
        have hrow2 := HG.out.1.of_block (hb2.block _ HG.out.1.lt)
        have hd := hrow2.cell hlt
        have hf := hrow2.frozen k
        have hbw2 : Below w.heap.size w w2 := hb.trans (hb2.mono (by omega))
        have HN : Hid (∃ (aI' : Nat → Option Addr) (cI' : Nat → Nat), (w2.setCell ⟨w.heap.size, k, none⟩ (.slice a2 (nI k) c2)).rowIs w.heap.size 34 n (partR (k + 1) (fun i => .slice (aI' i) (nI i) (cI' i)) (.slice none 0 0)) ∧ ∀ i, i < k + 1 → RowInts (w2.setCell ⟨w.heap.size, k, none⟩ (.slice a2 (nI k) c2)) (aI' i) (nI i) (cI' i) (zI i)) := by
          refine ⟨fun i => if i = k then a2 else aI' i, fun i => if i = k then c2 else cI' i, ?_, ?_⟩
          · have h1 := partR_congr (f' := fun i => .slice (if i = k then a2 else aI' i) (nI i) (if i = k then c2 else cI' i)) hrow2 (fun i hi => by simp [show ¬ i = k by omega])
            have h2 := partR_set h1
            simpa using h2
          · intro i hi
            by_cases e : i = k
            · subst e
              simp only [if_true]
              exact hr2.setRow hrow2 (by decide) _ _
            · simp only [if_neg e]
              exact ((HG.out.2 i (by omega)).below hb2).setRow hrow2 (by decide) _ _
        clear hrow2 hr2 HG HCP hb hb2
        go_wp2_with fail
        go_roundw
        case rel => exact ⟨k + 1, by omega, by go_num, hbw2.setCell (Nat.le_refl _) _, HN⟩
        case measure => simp [intOf]; omega
      · obtain rfl : n = k := by omega
        clear hg
        go_wp2
        go_ret
        exact ⟨_, _, aI', cI', rfl, .inr ⟨_, rfl, rfl, partR_end hr, hri⟩, hb⟩

theorem flat_get (nI : Nat → Nat) (zI : Nat → Nat → Int) {k n j : Nat} (hk : k < n) (hj : j < nI k) : (flat nI zI n)[(flat nI zI k).length + j]? = some (zI k j) := by
  induction n with
  | zero => omega
  | succ n ih =>
    by_cases e : k = n
    · subst e
      simp [flat, hj]
    · have h1 := ih (by omega)
      have hl := (List.getElem?_eq_some_iff.1 h1).1
      simp only [flat]
      rw [List.getElem?_append_left hl, h1]
theorem len_flat (nI : Nat → Nat) (zI : Nat → Nat → Int) (k : Nat) : (flat nI zI (k + 1)).length = (flat nI zI k).length + nI k := by simp [flat]
end Go.Proofs.Qxb6600323a
