import Derived.Test.Qxb6600323aSortC
namespace Go.Proofs.Qxb6600323a
open Go.RowKit

theorem Try.info58 : (Try.prog.info? 58).map (fun i => (i.zero, i.size, i.bytes)) = some (some (.int .u64 0), 1, 8) := by kernel_rfl
theorem Try.info3 : (Try.prog.info? 3).map (fun i => (i.zero, i.size, i.bytes)) = some (some (.int .i64 0), 1, 8) := by kernel_rfl
theorem Try.info4 : (Try.prog.info? 4).map (fun i => (i.zero, i.size, i.bytes)) = some (some (.bool false), 1, 1) := by kernel_rfl

/-- A row that is being filled: the first k cells are laid. -/
def part (k : Nat) (f : Nat → Value) (z : Value) (i : Nat) : Value := if i < k then f i else z
theorem part_start {w : World} {b t n : Nat} {f : Nat → Value} {z : Value} (h : w.rowIs b t n (fun _ => z)) : w.rowIs b t n (part 0 f z) := h.congr (fun i _ => by simp [part])
theorem part_set {w : World} {b t n k : Nat} {f : Nat → Value} {z : Value} (h : w.rowIs b t n (part k f z)) : (w.setCell ⟨b, k, none⟩ (f k)).rowIs b t n (part (k + 1) f z) := by
  refine (h.set k (f k)).congr ?_
  intro i hi
  unfold part
  by_cases e : i = k
  · subst e; rw [if_pos rfl, if_pos (by omega)]
  · rw [if_neg e]
    by_cases e2 : i < k
    · rw [if_pos e2, if_pos (by omega)]
    · rw [if_neg e2, if_neg (by omega)]
theorem part_end {w : World} {b t n : Nat} {f : Nat → Value} {z : Value} (h : w.rowIs b t n (part n f z)) : w.rowIs b t n f := h.congr (fun i hi => by simp [part, hi])

/-- zzCopyU64 of a slice that is not empty. -/
theorem copy64_some (b off n c : Nat) (z : Nat → Int) (w : World) (hn : 1 ≤ n) (hn2 : n ≤ 1048576)
    (hs : ∀ i, i < n → w.cell? ⟨b, off + i, none⟩ = some (.int .u64 (z i))) :
    Calls Try.prog 33 #[.slice (some ⟨b, off, none⟩) n c] w fun e w' => e = .returned (.slice (some ⟨w.heap.size, 0, none⟩) n n) ∧ Below w.heap.size w w' ∧
      w'.rowIs w.heap.size 58 n (fun i => .int .u64 (z i)) := by
  have hbl : b < w.heap.size := World.block_lt_of_cell? w _ (hs 0 (by omega))
  have hq := fun (w : World) => Lib.run_eql_slice_nil (P := Try.prog) w 53 58 (some ⟨b, off, none⟩) n c 0 0 Try.underlying53
  have hmk := run_make_row' (P := Try.prog) 53 58 (.int .u64 0) 8 Try.underlying53 Try.info58 rfl .i64 .i64 n (by omega) (by omega)
  have HS := (id hs : Hid _)
  clear hs
  go_enter Try.func33, Try.ntmps33
  go_wp2
  go_loopw [4] (fun i wr => ∃ k : Nat, k ≤ n ∧ i = .int .i64 k ∧ Below w.heap.size w wr ∧ wr.rowIs w.heap.size 58 n (part k (fun i => .int .u64 (z i)) (.int .u64 0))) (fun i _ => n - (intOf i).toNat)
  case atStart => exact ⟨0, Nat.zero_le _, rfl, (Below.refl _ _).alloc (Nat.le_refl _) _, part_start (World.rowIs_made _ _ _ _)⟩
  case round =>
    obtain ⟨k, hk, rfl, hb, hr⟩ := hrel
    by_cases hlt : k < n
    · have hc : wr.cell? ⟨b, off + k, none⟩ = some (.int .u64 (z k)) := (hb.cell (by exact hbl)).trans (HS.out k hlt)
      have hd := hr.cell hlt
      have hf := hr.frozen k
      go_wp2
      go_roundw
      case rel => exact ⟨k + 1, by omega, by go_num, hb.setCell (Nat.le_refl _) _, part_set hr⟩
      case measure => simp [intOf]; omega
    · obtain rfl : n = k := by omega
      go_wp2
      go_ret
      exact ⟨rfl, hb, part_end hr⟩

theorem pair_part_start {w : World} {y n : Nat} {F : Nat → Int × Int} (h : w.rowIs y 101 (n * 2) (pairC (fun _ => (0, 0)))) : w.rowIs y 101 (n * 2) (pairC (fun i => if i < 0 then F i else (0, 0))) :=
  h.congr (fun i _ => by simp [pairC])
theorem pair_part_set {w : World} {y n k : Nat} {F : Nat → Int × Int} (h : w.rowIs y 101 (n * 2) (pairC (fun i => if i < k then F i else (0, 0)))) :
    ((w.setCell ⟨y, k * 2, none⟩ (.int .u64 (F k).1)).setCell ⟨y, k * 2 + 1, none⟩ (.int .i64 (F k).2)).rowIs y 101 (n * 2) (pairC (fun i => if i < k + 1 then F i else (0, 0))) := by
  have e : upd (fun i => if i < k then F i else (0, 0)) k ((F k).1, (F k).2) = (fun i => if i < k + 1 then F i else (0, 0)) := by
    funext i
    unfold upd
    by_cases e : i = k
    · subst e; rw [if_pos rfl, if_pos (by omega)]
    · rw [if_neg e]
      by_cases e2 : i < k
      · simp [e2, show i < k + 1 by omega]
      · simp [e2, show ¬ i < k + 1 by omega]
  rw [← e]
  exact pair_set h _ _
theorem pair_part_end {w : World} {y n : Nat} {F : Nat → Int × Int} (h : w.rowIs y 101 (n * 2) (pairC (fun i => if i < n then F i else (0, 0)))) : w.rowIs y 101 (n * 2) (pairC F) :=
  h.congr (fun i hi => by unfold pairC; simp [show i / 2 < n by omega])

set_option maxRecDepth 100000 in
set_option maxHeartbeats 1000000 in
theorem zzsort_any (bp op cp ba oa ca n : Nat) (P A : Nat → Int) (w : World) (hn : 1 ≤ n) (hn2 : n ≤ 131072) (hP0 : ∀ i, i < n → 0 ≤ P i ∧ P i < 18446744073709551616)
    (hP : ∀ i, i < n → w.cell? ⟨bp, op + i, none⟩ = some (.int .u64 (P i))) (hA : ∀ i, i < n → w.cell? ⟨ba, oa + i, none⟩ = some (.int .i64 (A i))) :
    Calls Try.prog 34 #[.slice (some ⟨bp, op, none⟩) n cp, .slice (some ⟨ba, oa, none⟩) n ca] w fun e w' => ∃ b1 b2 G,
      e = .returned (.tuple #[.slice (some ⟨b1, 0, none⟩) n n, .slice (some ⟨b2, 0, none⟩) n n]) ∧ St n (fun i => (P i, A i)) 8 G ∧
      w'.rowIs b1 58 n (fun i => .int .u64 (G i).1) ∧ w'.rowIs b2 3 n (fun i => .int .i64 (G i).2) ∧ w.heap.size ≤ b1 ∧ w.heap.size ≤ b2 ∧ Below w.heap.size w w' := by
  have hbp : bp < w.heap.size := World.block_lt_of_cell? w _ (hP 0 (by omega))
  have hba : ba < w.heap.size := World.block_lt_of_cell? w _ (hA 0 (by omega))
  have hmk := run_make_many (P := Try.prog) 99 101 (.agg #[.int .u64 0, .int .i64 0]) 2 16 Try.underlying99 Try.info101 n (by omega) (by omega)
  have hmk1 := run_make_row' (P := Try.prog) 53 58 (.int .u64 0) 8 Try.underlying53 Try.info58 rfl .i64 .i64 n (by omega) (by omega)
  have hmk2 := run_make_row' (P := Try.prog) 34 3 (.int .i64 0) 8 Try.underlying34 Try.info3 rfl .i64 .i64 n (by omega) (by omega)
  have HP : Hid (∀ i, i < n → w.cell? ⟨bp, op + i, none⟩ = some (.int .u64 (P i))) := hP
  have HA : Hid (∀ i, i < n → w.cell? ⟨ba, oa + i, none⟩ = some (.int .i64 (A i))) := hA
  have H0 : Hid (∀ i, i < n → 0 ≤ P i ∧ P i < 18446744073709551616) := hP0
  clear hP hA hP0
  go_enter Try.func34, Try.ntmps34
  go_wp2
  go_loopw [7] (fun i wr => ∃ k : Nat, k ≤ n ∧ i = .int .i64 k ∧ Below w.heap.size w wr ∧ wr.rowIs w.heap.size 101 (n * 2) (pairC (fun i => if i < k then (P i, A i) else (0, 0)))) (fun i _ => n - (intOf i).toNat)
  case atStart => exact ⟨0, Nat.zero_le _, rfl, (Below.refl _ _).alloc (Nat.le_refl _) _, pair_part_start (made_pairs w n)⟩
  case round =>
    obtain ⟨k, hk, rfl, hb, hr⟩ := hrel
    by_cases hlt : k < n
    · have hc1 : wr.cell? ⟨bp, op + k, none⟩ = some (.int .u64 (P k)) := (hb.cell (by exact hbp)).trans (HP.out k hlt)
      have hc2 : wr.cell? ⟨ba, oa + k, none⟩ = some (.int .i64 (A k)) := (hb.cell (by exact hba)).trans (HA.out k hlt)
      have hd0 := pair_cell0 hr hlt
      have hd1 := pair_cell1 hr hlt
      have hf0 := hr.frozen (k * 2)
      have hf1 := hr.frozen (k * 2 + 1)
      go_wp2_with fail
      go_region
      go_wp2
      go_roundw
      case rel => exact ⟨k + 1, by omega, by go_num, ((hb.setCell (Nat.le_refl _) _).setCell (Nat.le_refl _) _).drew, (pair_part_set (F := fun i => (P i, A i)) hr).drew⟩
      case measure => simp [intOf]; omega
    · obtain rfl : n = k := by omega
      have hr2 := pair_part_end (F := fun i => (P i, A i)) hr
      clear hr
      go_wp2_with fail
      refine (sort_any w.heap.size n (fun i => (P i, A i)) wr hn hn2 H0.out hr2).mono ?_
      rintro e w1 ⟨r, G, rfl, hst, hrow, hbr, hbel⟩
      have HST : Hid (St n (fun i => (P i, A i)) 8 G) := hst
      have hb1 := hb.trans hbel
      have hlr := hrow.lt
      clear hst hr2 hb hbel
      go_wp2_with fail
      go_loopw [11] (fun i wi => ∃ k : Nat, k ≤ n ∧ i = .int .i64 k ∧ Below w.heap.size w wi ∧ wi.rowIs r 101 (n * 2) (pairC G) ∧ wi.rowIs w1.heap.size 58 n (part k (fun i => .int .u64 (G i).1) (.int .u64 0)) ∧
          wi.rowIs (w1.heap.size + 1) 3 n (part k (fun i => .int .i64 (G i).2) (.int .i64 0))) (fun i _ => n - (intOf i).toNat)
      case atStart =>
        refine ⟨0, Nat.zero_le _, rfl, (hb1.alloc (by have := hb1.size; omega) _).alloc (by have := hb1.size; simp; omega) _, (hrow.alloc _).alloc _, part_start ((World.rowIs_made _ _ _ _).alloc _), ?_⟩
        have := World.rowIs_made (w1.alloc (.cells (madeCells #[.int .u64 0] n) 58)) (.int .i64 0) n 3
        simp only [World.size_alloc] at this
        exact part_start this
      case round =>
        obtain ⟨k, hk, rfl, hb, hr, h1, h2⟩ := hrel
        by_cases hlt : k < n
        · have c0 := pair_cell0 hr hlt
          have c1 := pair_cell1 hr hlt
          have d1 := h1.cell hlt
          have d2 := h2.cell hlt
          have f1 := h1.frozen k
          have f2 := h2.frozen k
          have hsz := hb1.size
          go_wp2
          go_roundw
          case rel =>
            refine ⟨k + 1, by omega, by go_num, (hb.setCell (by exact hsz) _).setCell (by show w.heap.size ≤ w1.heap.size + 1; omega) _, ?_, ?_, ?_⟩
            · exact (hr.setOther (by show r ≠ w1.heap.size; omega) _).setOther (by show r ≠ w1.heap.size + 1; omega) _
            · exact (part_set h1).setOther (by show w1.heap.size ≠ w1.heap.size + 1; omega) _
            · exact part_set (h2.setOther (by show w1.heap.size + 1 ≠ w1.heap.size; omega) _)
          case measure => simp [intOf]; omega
        · obtain rfl : n = k := by omega
          go_wp2
          go_ret2
          exact ⟨_, _, G, rfl, HST, part_end h1, part_end h2, hb1.size, by have := hb1.size; omega, hb⟩
end Go.Proofs.Qxb6600323a
