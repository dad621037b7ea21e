import Derived.Test.Qxb6600323aBase
import Derived.Test.Qxb6600323aSortP
namespace Go.Proofs.Qxb6600323a
open Go.RowKit

def zeros : Array Value := Array.replicate 2048 (.int .i64 0)
theorem Try.alloc106 (w : World) : (Instr.alloc 106 true (.tuple #[])).run Try.prog w = .ok (.pointer (some ⟨w.heap.size, 0, none⟩)) (w.alloc (.cells zeros 106)) := by kernel_rfl
theorem Try.info101 : (Try.prog.info? 101).map (fun i => (i.zero, i.size, i.bytes)) = some (some (.agg #[.int .u64 0, .int .i64 0]), 2, 16) := by kernel_rfl

/-- The cells of a row of pairs. -/
def pairC (F : Nat → Int × Int) (i : Nat) : Value := if i % 2 = 0 then .int .u64 (F (i / 2)).1 else .int .i64 (F (i / 2)).2
theorem pairC_0 (F : Nat → Int × Int) (q : Nat) : pairC F (q * 2) = .int .u64 (F q).1 := by
  unfold pairC
  rw [if_pos (by omega), show q * 2 / 2 = q by omega]
theorem pairC_1 (F : Nat → Int × Int) (q : Nat) : pairC F (q * 2 + 1) = .int .i64 (F q).2 := by
  unfold pairC
  rw [if_neg (by omega), show (q * 2 + 1) / 2 = q by omega]
def upd (F : Nat → Int × Int) (q : Nat) (x : Int × Int) (i : Nat) : Int × Int := if i = q then x else F i

section
variable {w : World} {y n q : Nat} {H : Nat → Int × Int}
theorem pair_cell0 (h : w.rowIs y 101 (n * 2) (pairC H)) (hq : q < n) : w.cell? ⟨y, q * 2, none⟩ = some (.int .u64 (H q).1) := by
  rw [h.cell (by omega), pairC_0]
theorem pair_cell1 (h : w.rowIs y 101 (n * 2) (pairC H)) (hq : q < n) : w.cell? ⟨y, q * 2 + 1, none⟩ = some (.int .i64 (H q).2) := by
  rw [h.cell (by omega), pairC_1]
theorem pair_set (h : w.rowIs y 101 (n * 2) (pairC H)) (a b : Int) :
    ((w.setCell ⟨y, q * 2, none⟩ (.int .u64 a)).setCell ⟨y, q * 2 + 1, none⟩ (.int .i64 b)).rowIs y 101 (n * 2) (pairC (upd H q (a, b))) := by
  refine ((h.set (q * 2) (.int .u64 a)).set (q * 2 + 1) (.int .i64 b)).congr ?_
  intro i hi
  unfold pairC upd
  by_cases e1 : i = q * 2 + 1
  · subst e1
    rw [if_pos rfl, if_neg (by omega), if_pos (by omega)]
  · rw [if_neg e1]
    by_cases e2 : i = q * 2
    · subst e2
      rw [if_pos rfl, if_pos (by omega), if_pos (by omega)]
    · rw [if_neg e2, if_neg (show ¬ i / 2 = q by omega)]
end

/-- The table of counts behind k items. -/
def cntV (F : Nat → Int × Int) (k d v : Nat) : Value := .int .i64 (cnt (fun j => byteAt (F j).1 d) v k)
def cntC (F : Nat → Int × Int) (k i : Nat) : Value := cntV F k (i / 256) (i % 256)
def cntC2 (F : Nat → Int × Int) (k d i : Nat) : Value := cntV F (if i / 256 < d then k + 1 else k) (i / 256) (i % 256)

theorem cnt_start (F : Nat → Int × Int) (w : World) : (w.alloc (Obj.cells zeros 106)).rowIs w.heap.size 106 2048 (cntC F 0) := by
  have hz : zeros.size = 2048 := by simp [zeros]
  have h := World.rowIs_alloc w zeros 106 (fun _ => .int .i64 0) (fun i hi => by
    rw [hz] at hi
    unfold zeros
    rw [Array.getElem?_replicate, if_pos hi])
  rw [hz] at h
  exact h.congr (fun i _ => by simp [cntC, cntV, cnt])

theorem cnt_cell {w : World} {C k d : Nat} {F : Nat → Int × Int} (h : w.rowIs C 106 2048 (cntC2 F k d)) (hd : d < 8) :
    w.cell? ⟨C, d * 256 + byteAt (F k).1 d, none⟩ = some (.int .i64 (cnt (fun j => byteAt (F j).1 d) (byteAt (F k).1 d) k)) := by
  have hb := byteAt_lt (F k).1 d
  rw [h.cell (by omega)]
  unfold cntC2 cntV
  rw [show (d * 256 + byteAt (F k).1 d) / 256 = d by omega, show (d * 256 + byteAt (F k).1 d) % 256 = byteAt (F k).1 d by omega, if_neg (by omega)]
theorem cnt_next {w : World} {C k d c : Nat} {F : Nat → Int × Int} (h : w.rowIs C 106 2048 (cntC2 F k d)) (hc : c = cnt (fun j => byteAt (F j).1 d) (byteAt (F k).1 d) k) :
    (w.setCell ⟨C, d * 256 + byteAt (F k).1 d, none⟩ (.int .i64 ((c : Int) + 1))).rowIs C 106 2048 (cntC2 F k (d + 1)) := by
  have hb := byteAt_lt (F k).1 d
  refine (h.set _ _).congr ?_
  intro i hi
  unfold cntC2 cntV
  by_cases e : i = d * 256 + byteAt (F k).1 d
  · rw [if_pos e]
    subst e
    rw [show (d * 256 + byteAt (F k).1 d) / 256 = d by omega, show (d * 256 + byteAt (F k).1 d) % 256 = byteAt (F k).1 d by omega, if_pos (by omega)]
    rw [cnt, if_pos rfl, hc]
    simp
  · rw [if_neg e]
    by_cases e2 : i / 256 = d
    · rw [e2, if_neg (by omega), if_pos (by omega)]
      simp only [cnt]
      rw [if_neg (by omega)]
      simp
    · by_cases e3 : i / 256 < d
      · rw [if_pos e3, if_pos (by omega)]
      · rw [if_neg e3, if_neg (by omega)]
theorem cnt_row {w : World} {C k : Nat} {F : Nat → Int × Int} (h : w.rowIs C 106 2048 (cntC2 F k 8)) : w.rowIs C 106 2048 (cntC F (k + 1)) :=
  h.congr (fun i hi => by unfold cntC2 cntC; rw [if_pos (by omega)])
theorem cnt_row0 {w : World} {C k : Nat} {F : Nat → Int × Int} (h : w.rowIs C 106 2048 (cntC F k)) : w.rowIs C 106 2048 (cntC2 F k 0) :=
  h.congr (fun i hi => by unfold cntC2 cntC; rw [if_neg (by omega)])

theorem made_pairs (w : World) (n : Nat) : (w.alloc (.cells (madeCells (Value.agg #[.int .u64 0, .int .i64 0]).cells (n * 2)) 101)).rowIs w.heap.size 101 (n * 2) (pairC (fun _ => (0, 0))) := by
  have hs : (madeCells (Value.agg #[.int .u64 0, .int .i64 0]).cells (n * 2)).size = n * 2 := size_madeCells _ _
  have h := World.rowIs_alloc w (madeCells (Value.agg #[.int .u64 0, .int .i64 0]).cells (n * 2)) 101 (pairC (fun _ => (0, 0))) (fun i hi => by
    rw [hs] at hi
    unfold madeCells pairC
    simp only [Value.cells]
    rcases Nat.mod_two_eq_zero_or_one i with e | e
    · simp [hi, e]
    · simp [hi, e])
  rw [hs] at h
  exact h

end Go.Proofs.Qxb6600323a
