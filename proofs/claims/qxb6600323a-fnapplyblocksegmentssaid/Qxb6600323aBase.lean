import Derived.Test.Qxb6600323aProg
import Derived.WalkKit
import Derived.WalkSpells
import Derived.Deep.OwnRows
import Derived.Deep.QuietTactic
import Derived.BigQuiet
import Derived.WalkSmall
namespace Go.Proofs.Qxb6600323a
open Go.RowKit

/-- 'Op.alloc t' by its run's equation. -/
theorem wpList_alloc {P : Program} {w : World} {ops : Array Oper} {rest : List Oper} {o : Oper} {a : Act} {Q : Exit → Act → World → Prop}
    (hg : o.guard = none) {t : TypeId} (hop : o.op = Op.alloc t) {v : Value} {w' : World} (hrun : (Instr.alloc t true (.tuple #[])).run P w = .ok v w')
    (hK : wpList P ops Q rest (a.put o.dst v) w') :
    wpList P ops Q (o :: rest) a w := by
  refine wpList_plain hg fun K hK' => ?_
  unfold Oper.wp
  simp [execOp, hop, hrun, Result.andThen]
  exact hK' _ _ hK

/-- 'make([]T, n)', T of whatever number of cells. -/
theorem run_make_many {P : Program} (t e : TypeId) (z : Value) (size bytes : Nat) (ht : P.underlying t = some (.slice e)) (hinfo : (P.info? e).map (fun i => (i.zero, i.size, i.bytes)) = some (some z, size, bytes))
    (n : Nat) (hbytes : bytes * n ≤ 281474976710656) (h63 : n ≤ 9223372036854775807) (w : World) :
    (Instr.makeSlice t (.int .i64 (n : Int)) (.int .i64 (n : Int))).run P w = .ok (.slice (some ⟨w.heap.size, 0, none⟩) n n) (w.alloc (.cells (madeCells z.cells (n * size)) e)) := by
  obtain ⟨i, hi, hzz⟩ := Option.map_eq_some_iff.1 hinfo
  simp only [Prod.mk.injEq] at hzz
  obtain ⟨hz, hs, hb⟩ := hzz
  have hb' : (i.bytes : Int) * (n : Int) ≤ 281474976710656 := by
    rw [hb]
    have h : ((bytes * n : Nat) : Int) ≤ 281474976710656 := by omega
    rwa [Int.natCast_mul] at h
  have hr := run_make (P := P) w t e i z ht hi hz .i64 .i64 n n (by omega) (Int.le_refl _) hb' (by omega)
  simp only [Int.toNat_natCast, hs] at hr
  exact hr

theorem cell_setOther {w : World} {a b : Addr} {v : Value} (h : b.block ≠ a.block) : (w.setCell a v).cell? b = w.cell? b := World.cell?_of_block (Below.heap_setCell _ _ _ _ h)
theorem frozen_setOther {w : World} {a b : Addr} {v : Value} (h : b.block ≠ a.block) : (w.setCell a v).frozen? b = w.frozen? b := World.frozen?_of_block (Below.heap_setCell _ _ _ _ h)

end Go.Proofs.Qxb6600323a
