import Derived.Test.Qxb6600323aApM
import Derived.Deep.RegionHeld3
namespace Go.Proofs.Qxb6600323a
open Go.RowKit
set_option linter.unusedVariables false

/-- zzEqStrings of two that are equal. -/
theorem eqStr_true (a a' : Option Addr) (n c c' : Nat) (z : Nat → ByteArray) (w : World) (hn : n ≤ 1048576) (h1 : ValsAt w a n (fun i => .string (z i))) (h2 : ValsAt w a' n (fun i => .string (z i))) :
    Calls Try.prog 22 #[.slice a n c, .slice a' n c'] w fun e w' => e = .returned (.bool true) ∧ ∃ k, w' = w.drewN k := by
  have H1 := (id h1 : Hid (ValsAt _ _ _ _))
  have H2 := (id h2 : Hid (ValsAt _ _ _ _))
  clear h1 h2
  go_enter Try.func22, Try.ntmps22
  go_wp2
  go_loopw [5] (fun i wr => ∃ k m : Nat, k ≤ n ∧ i = .int .i64 k ∧ w.drewN m = wr) (fun i _ => n - (intOf i).toNat)
  case atStart => exact ⟨0, 0, Nat.zero_le _, rfl, rfl⟩
  case round =>
    obtain ⟨k, m, hk, rfl, rfl⟩ := hrel
    by_cases hlt : k < n
    · obtain ⟨b, off, rfl, hc⟩ := H1.out (by omega)
      obtain ⟨b', off', rfl, hc'⟩ := H2.out (by omega)
      have c1 := hc k hlt
      have c2 := hc' k hlt
      clear hc hc' H1 H2
      go_wp2_with fail
      go_quiet (fail)
      go_wp2_with fail
      go_roundw
      case rel => exact ⟨k + 1, _, by omega, by go_num, rfl⟩
      case measure => simp [intOf]; omega
    · go_wp2
      go_ret
      exact ⟨rfl, _, rfl⟩

/-- zzEqInts2 of two that are equal. -/
theorem eqInts2_true (a a' : Option Addr) (n c c' : Nat) (aI aJ : Nat → Option Addr) (nI cI cJ : Nat → Nat) (z : Nat → Nat → Int) (w : World) (hn : n ≤ 1048576) (hnI : ∀ i, i < n → nI i ≤ 1048576) (h1 : ValsAt w a n (fun i => .slice (aI i) (nI i) (cI i))) (h2 : ValsAt w a' n (fun i => .slice (aJ i) (nI i) (cJ i)))
    (h3 : ∀ i, i < n → IntsAt w (aI i) (nI i) (z i)) (h4 : ∀ i, i < n → IntsAt w (aJ i) (nI i) (z i)) :
    Calls Try.prog 23 #[.slice a n c, .slice a' n c'] w fun e w' => e = .returned (.bool true) ∧ ∃ k, w' = w.drewN k := by
  have H1 := (id h1 : Hid (ValsAt _ _ _ _))
  have H2 := (id h2 : Hid (ValsAt _ _ _ _))
  have HC : Hid (∀ i m, i < n → Calls Try.prog 18 #[.slice (aI i) (nI i) (cI i), .slice (aJ i) (nI i) (cJ i)] (w.drewN m) fun e w' => e = .returned (.bool true) ∧ ∃ k, w' = (w.drewN m).drewN k) :=
    fun i m hi => eqInts_true _ _ _ _ _ (z i) (w.drewN m) (hnI i hi) (h3 i hi) (h4 i hi)
  clear h1 h2 h3 h4 hnI
  go_enter Try.func23, Try.ntmps23
  go_wp2
  go_loopw [5] (fun i wr => ∃ k m : Nat, k ≤ n ∧ i = .int .i64 k ∧ w.drewN m = wr) (fun i _ => n - (intOf i).toNat)
  case atStart => exact ⟨0, 0, Nat.zero_le _, rfl, rfl⟩
  case round =>
    obtain ⟨k, m, hk, rfl, rfl⟩ := hrel
    by_cases hlt : k < n
    · obtain ⟨b, off, rfl, hc⟩ := H1.out (by omega)
      obtain ⟨b', off', rfl, hc'⟩ := H2.out (by omega)
      have c1 := hc k hlt
      have c2 := hc' k hlt
      have hn0 : (0 : Int) ≤ (k : Int) := by omega
      have hn1 : (k : Int) < (n : Int) := by omega
      have HCL := (id (HC.out k (m + 1) hlt) : Hid (Calls _ _ _ _ _))
      clear hc hc' H1 H2 HC
      go_wp2_with fail
      go_region_held3 (fun w' => w'.cell? ⟨b, off + k, none⟩ = some (.slice (aI k) (nI k) (cI k)) ∧ w'.cell? ⟨b', off' + k, none⟩ = some (.slice (aJ k) (nI k) (cJ k))) (exact ⟨c1, c2⟩)
        ((go_at_call 18; refine HCL.out.mono ?_; rintro e' w6 ⟨rfl, q, rfl⟩))
      all_goals
        go_wp2_with fail
        go_roundw
        case rel => exact ⟨k + 1, _, by omega, by go_num, rfl⟩
        case measure => simp [intOf]; omega
    · go_wp2
      go_ret
      exact ⟨rfl, _, rfl⟩

def lastOf (L : List Nat) : Int := match L.getLast? with
  | none => -1
  | some x => (x : Int)
theorem lastOf_snoc (L : List Nat) (x : Nat) : lastOf (L ++ [x]) = (x : Int) := by simp [lastOf]
theorem lastOf_lt {L : List Nat} {x : Nat} (h : (L ++ [x]).Pairwise (· < ·)) : lastOf L < (x : Int) := by
  unfold lastOf
  cases hl : L.getLast? with
  | none => simp; omega
  | some y =>
    have hm : y ∈ L := List.mem_of_getLast? hl
    have := (List.pairwise_append.1 h).2.2 y hm x (by simp)
    simp; omega
theorem lastOf_ge (L : List Nat) : -1 ≤ lastOf L := by
  unfold lastOf
  split <;> omega
def seenV (T : Nat → Bool) (L : List Nat) (i : Nat) : Value := .bool (T i || decide (i ∈ L))

set_option maxRecDepth 100000 in
set_option maxHeartbeats 1000000 in
/-- zzVisit, where all is well. -/
theorem visit_true (I : Inp) (a aK : Option Addr) (c cK N : Nat) (pre L : List Nat) (key : ByteArray) (T : Nat → Bool) (w0 w : World) (hN : N ≤ 1048576) (hl : L.length ≤ 1048576) (hb : Below w0.heap.size w0 w)
    (hL : IntsAt w0 a L.length (fun i => ((L.getD i 0 : Nat) : Int))) (hK : ValsAt w0 aK N (keyV I)) (hs : w.rowIs w0.heap.size 4 N (seenV T pre))
    (hP : (pre ++ L).Pairwise (· < ·)) (hx : ∀ x ∈ L, x < N ∧ I.K x = key ∧ T x = false) (pv : Int) (hpv : pv = lastOf pre) :
    Calls Try.prog 26 #[.slice a L.length c, .string key, .slice aK N cK, .slice (some ⟨w0.heap.size, 0, none⟩) N N, .int .i64 pv] w fun e w' =>
      e = .returned (.tuple #[.int .i64 (lastOf (pre ++ L)), .bool true]) ∧ Below w0.heap.size w0 w' ∧ w'.rowIs w0.heap.size 4 N (seenV T (pre ++ L)) := by
  have HL := (id hL : Hid (IntsAt _ _ _ _))
  have HK := (id hK : Hid (ValsAt _ _ _ _))
  have HP : Hid ((pre ++ L).Pairwise (· < ·)) := hP
  have HX : Hid (∀ x ∈ L, x < N ∧ I.K x = key ∧ T x = false) := hx
  obtain ⟨n, hn⟩ : ∃ n, Hid (n = L.length) := ⟨_, (rfl : L.length = _)⟩
  rw [← hn.out] at hl ⊢
  have HS : Hid (w.rowIs w0.heap.size 4 N (seenV T (pre ++ L.take 0)) ∧ Below w0.heap.size w0 w ∧ pv = lastOf (pre ++ L.take 0)) := by
    rw [List.take_zero, List.append_nil]
    exact ⟨hs, hb, hpv⟩
  clear hL hK hP hx hs hpv hb
  go_enter Try.func26, Try.ntmps26
  go_wp2
  go_loopw [4, 12] (fun p i wr => ∃ (k : Nat) (pv : Int), k ≤ n ∧ i = .int .i64 k ∧ p = .int .i64 pv ∧ Hid (wr.rowIs w0.heap.size 4 N (seenV T (pre ++ L.take k)) ∧ Below w0.heap.size w0 wr ∧ pv = lastOf (pre ++ L.take k))) (fun _ i _ => n - (intOf i).toNat)
  case atStart => exact ⟨0, pv, Nat.zero_le _, rfl, rfl, HS⟩
  case round =>
    clear HS
    obtain ⟨k, pv', hk, rfl, rfl, hg⟩ := hrel
    by_cases hlt : k < n
    · have hkL : k < L.length := by rw [← hn.out]; exact hlt
      obtain ⟨b, off, rfl, hc⟩ := HL.out (by omega)
      have hmem : L.getD k 0 ∈ L := by
        rw [List.getD_eq_getElem?_getD, List.getElem?_eq_getElem hkL]
        exact List.getElem_mem hkL
      obtain ⟨x1, x2, x3⟩ := HX.out _ hmem
      have hk0 : w0.cell? ⟨b, off + k, none⟩ = some (.int .i64 ((L.getD k 0 : Nat) : Int)) := hc k hkL
      have htk : L.take (k + 1) = L.take k ++ [L.getD k 0] := by
        rw [List.getD_eq_getElem?_getD, List.getElem?_eq_getElem hkL]
        exact List.take_succ_eq_append_getElem hkL
      have hpw : (pre ++ L.take k ++ [L.getD k 0]).Pairwise (· < ·) := by
        rw [List.append_assoc, ← htk]
        exact HP.out.sublist (List.Sublist.append (List.Sublist.refl _) (List.take_sublist _ _))
      have hlast := lastOf_lt hpw
      have hnot : L.getD k 0 ∉ pre ++ L.take k := by
        intro hm
        have := (List.pairwise_append.1 hpw).2.2 _ hm (L.getD k 0) List.mem_cons_self
        omega
      obtain ⟨x, hxd⟩ : ∃ x, x = L.getD k 0 := ⟨_, rfl⟩
      rw [← hxd] at x1 x2 x3 htk hlast hnot hpw
      rw [show ((L.getD k 0 : Nat) : Int) = (x : Int) by rw [hxd]] at hk0
      obtain ⟨kb, koff, rfl, hkc⟩ := HK.out (by omega)
      have ck : w0.cell? ⟨kb, koff + x, none⟩ = some (.string key) := by rw [hkc x x1, keyV, x2]
      obtain ⟨hr, hbw, hp⟩ := hg.out
      have cx : wr.cell? ⟨b, off + k, none⟩ = some (.int .i64 (x : Int)) := (hbw.cell (by exact World.block_lt_of_cell? w0 _ hk0)).trans hk0
      have cy : wr.cell? ⟨kb, koff + x, none⟩ = some (.string key) := (hbw.cell (by exact World.block_lt_of_cell? w0 _ ck)).trans ck
      have cs : wr.cell? ⟨w0.heap.size, x, none⟩ = some (.bool false) := by rw [hr.cell x1]; simp [seenV, x3, hnot]
      have cf := hr.frozen x
      rw [← hp] at hlast
      have HN : Hid ((wr.setCell ⟨w0.heap.size, x, none⟩ (.bool true)).rowIs w0.heap.size 4 N (seenV T (pre ++ L.take (k + 1))) ∧ Below w0.heap.size w0 (wr.setCell ⟨w0.heap.size, x, none⟩ (.bool true)) ∧ (x : Int) = lastOf (pre ++ L.take (k + 1))) := by
        refine ⟨(hr.set x (.bool true)).congr ?_, hbw.setCell (Nat.le_refl _) _, ?_⟩
        · intro i hi
          rw [htk]
          by_cases e : i = x
          · simp [e, seenV]
          · simp [e, seenV]
        · rw [htk, ← List.append_assoc, lastOf_snoc]
      have hx0 : ¬ (x : Int) < 0 := by omega
      have hx1 : ¬ (N : Int) ≤ (x : Int) := by omega
      have hx2 : ¬ (x : Int) ≤ pv' := by omega
      clear hg hr hbw hp hpw hnot hmem hk0 hc htk hkc ck hxd x2 x3 HK HL
      go_wp2
      go_roundw
      case rel => exact ⟨k + 1, _, by omega, by go_num, rfl, HN⟩
      case measure => simp [intOf]; omega
    · obtain rfl : k = n := by omega
      go_wp2
      go_ret2
      obtain ⟨hr, hbw, hp⟩ := hg.out
      rw [hn.out, List.take_length] at hr hp
      exact ⟨by rw [hp]; rfl, hbw, hr⟩
end Go.Proofs.Qxb6600323a
