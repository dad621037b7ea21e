import Derived.Test.Qxb6600323aRelE
import Derived.Deep.CutRange
namespace Go.Proofs.Qxb6600323a
open Go.RowKit
set_option linter.unusedVariables false

theorem Try.info97 : (Try.prog.info? 97).map (fun i => (i.zero, i.size, i.bytes)) = some (some (.agg #[.slice none 0 0, .pointer none]), 2, 32) := by kernel_rfl
theorem Try.info3R : (Try.prog.info? 3).map (fun i => (i.zero, i.size, i.bytes)) = some (some (.int .i64 0), 1, 8) := by kernel_rfl

theorem IntsIs.below {w w' : World} {a : Option Addr} {n c : Nat} {z : Nat → Int} (h : IntsIs w a n c z) (hb : Below w.heap.size w w') : IntsIs w' a n c z := by
  rcases h with q | ⟨x, q1, q2⟩
  · exact .inl q
  · refine .inr ⟨x, q1, fun hn => ?_⟩
    obtain ⟨b, off, e, hc⟩ := q2 hn
    exact ⟨b, off, e, fun i hi => by rw [hb.cell (by exact World.block_lt_of_cell? w _ (hc i hi))]; exact hc i hi⟩
/-- A slice of slices of ints that is read. -/
def Ints2Is (w : World) (a : Option Addr) (n c : Nat) (aI : Nat → Option Addr) (nI cI : Nat → Nat) (zI : Nat → Nat → Int) : Prop :=
  (a = none ∧ n = 0 ∧ c = 0) ∨ ∃ x, a = some x ∧ (0 < n → ∃ b off, x = ⟨b, off, none⟩ ∧ ∀ i, i < n → w.cell? ⟨b, off + i, none⟩ = some (.slice (aI i) (nI i) (cI i)) ∧ IntsIs w (aI i) (nI i) (cI i) (zI i))

theorem node_made (w : World) : (w.alloc (.cells #[.pointer none, .pointer none, .pointer none, .string ⟨#[]⟩, .int .i64 0, .string ⟨#[]⟩, .pointer none, .bool false, .bool false, .bool false, .slice none 0 0, .pointer none, .slice none 0 0, .pointer none, .pointer none, .pointer none, .map none] 91)).rowIs w.heap.size 91 17 (nodeF none none) :=
  World.rowIs_alloc w _ 91 (nodeF none none) (fun i hi => by
    match i, hi with
    | 0, _ => rfl | 1, _ => rfl | 2, _ => rfl | 3, _ => rfl | 4, _ => rfl | 5, _ => rfl | 6, _ => rfl | 7, _ => rfl | 8, _ => rfl
    | 9, _ => rfl | 10, _ => rfl | 11, _ => rfl | 12, _ => rfl | 13, _ => rfl | 14, _ => rfl | 15, _ => rfl | 16, _ => rfl
    | n + 17, h => exact absurd (show n + 17 < 17 from h) (by omega))
theorem node_made2 (w : World) (b : Nat) : (w.alloc (.cells #[.pointer none, .pointer none, .pointer none, .string ⟨#[]⟩, .int .i64 0, .string ⟨#[]⟩, .pointer none, .bool false, .bool false, .bool false, .slice none 0 0, .pointer none, .slice none 0 0, .pointer none, .pointer (some ⟨b, 0, none⟩), .pointer none, .map none] 91)).rowIs w.heap.size 91 17 (nodeF none (some b)) :=
  World.rowIs_alloc w _ 91 (nodeF none (some b)) (fun i hi => by
    match i, hi with
    | 0, _ => rfl | 1, _ => rfl | 2, _ => rfl | 3, _ => rfl | 4, _ => rfl | 5, _ => rfl | 6, _ => rfl | 7, _ => rfl | 8, _ => rfl
    | 9, _ => rfl | 10, _ => rfl | 11, _ => rfl | 12, _ => rfl | 13, _ => rfl | 14, _ => rfl | 15, _ => rfl | 16, _ => rfl
    | n + 17, h => exact absurd (show n + 17 < 17 from h) (by omega))

/-- The map, the two nodes; what was there. -/
def Core (N : Nat) (w wr : World) (g : Int → Option Nat) (o : Option Nat) : Prop :=
  Reg wr N g ∧ wr.rowIs (N + 1) 91 17 (nodeF none none) ∧ wr.rowIs (N + 1 + 1) 91 17 (nodeF o (some (N + 1))) ∧ Below N w wr

theorem core_start (w : World) : Core w.heap.size w (((w.alloc (Obj.map #[] 0)).alloc (.cells #[.pointer none, .pointer none, .pointer none, .string ⟨#[]⟩, .int .i64 0, .string ⟨#[]⟩, .pointer none, .bool false, .bool false, .bool false, .slice none 0 0, .pointer none, .slice none 0 0, .pointer none, .pointer none, .pointer none, .map none] 91)).alloc
    (.cells #[.pointer none, .pointer none, .pointer none, .string ⟨#[]⟩, .int .i64 0, .string ⟨#[]⟩, .pointer none, .bool false, .bool false, .bool false, .slice none 0 0, .pointer none, .slice none 0 0, .pointer none, .pointer (some ⟨w.heap.size + 1, 0, none⟩), .pointer none, .map none] 91)) (fun _ => none) none := by
  have h1 := node_made (w.alloc (Obj.map #[] 0))
  have h2 := node_made2 ((w.alloc (Obj.map #[] 0)).alloc (.cells #[.pointer none, .pointer none, .pointer none, .string ⟨#[]⟩, .int .i64 0, .string ⟨#[]⟩, .pointer none, .bool false, .bool false, .bool false, .slice none 0 0, .pointer none, .slice none 0 0, .pointer none, .pointer none, .pointer none, .map none] 91)) (w.heap.size + 1)
  simp only [World.size_alloc] at h1 h2
  exact ⟨((Reg.start w).alloc _).alloc _, h1.alloc _, h2, (((Below.refl _ _).alloc (Nat.le_refl _) _).alloc (by simp) _).alloc (by simp; omega) _⟩
section
variable {N : Nat} {w wr w' : World} {g g' : Int → Option Nat} {o : Option Nat}
theorem Core.same (h : Core N w wr g o) (hs : Same N wr w') (hr : Reg w' N g') : Core N w w' g' o := by
  obtain ⟨h1, h2, h3, h4⟩ := h
  obtain ⟨⟨c, hm⟩, _⟩ := id h1
  refine ⟨hr, hs.row h2 (map_ne hm h2), hs.row h3 (map_ne hm h3), h4.trans ?_⟩
  exact Kept.below hs (fun k hk => ⟨by have := h3.lt; omega, by omega⟩)
theorem Core.alloc (h : Core N w wr g o) (ob : Obj) : Core N w (wr.alloc ob) g o := by
  obtain ⟨h1, h2, h3, h4⟩ := h
  exact ⟨h1.alloc _, h2.alloc _, h3.alloc _, h4.alloc (by have := h3.lt; omega) _⟩
theorem Core.drewN (h : Core N w wr g o) (k : Nat) : Core N w (wr.drewN k) g o := by
  obtain ⟨h1, h2, h3, h4⟩ := h
  exact ⟨h1, h2, h3, below_drewN h4 k⟩
theorem Core.setNode (h : Core N w wr g o) (b : Nat) : Core N w (wr.setCell ⟨N + 1 + 1, 1, none⟩ (.pointer (some ⟨b, 0, none⟩))) g (some b) := by
  obtain ⟨h1, h2, h3, h4⟩ := h
  exact ⟨h1.setCell h3 (by decide) 1 _, h2.setOther (by show N + 1 ≠ N + 1 + 1; omega) _, node_set h3 b, h4.setCell (by show N ≤ N + 1 + 1; omega) _⟩
theorem Core.setRow (h : Core N w wr g o) {b t n : Nat} {f : Nat → Value} (hr : wr.rowIs b t n f) (ht : t ≠ 65) (ht2 : t ≠ 91) (hN : N ≤ b) (i : Nat) (v : Value) : Core N w (wr.setCell ⟨b, i, none⟩ v) g o := by
  obtain ⟨h1, h2, h3, h4⟩ := h
  exact ⟨h1.setCell hr ht i v, h2.setOther (by exact row_ne h2 hr (fun e => ht2 e.symm)) _, h3.setOther (by exact row_ne h3 hr (fun e => ht2 e.symm)) _, h4.setCell (by exact hN) _⟩
end

theorem size_set (w : World) (a : Addr) (v : Value) : (w.setCell a v).heap.size = w.heap.size := by simp [World.setCell]
theorem ListingIs.alloc {w : World} {g : Int → Option Nat} {a : Option Addr} {n c : Nat} {z : Nat → Int} (h : ListingIs w g a n c z) (o : Obj) : ListingIs (w.alloc o) g a n c z := by
  rcases h with q | ⟨b, q1, q2, q3⟩
  · exact .inl q
  · exact .inr ⟨b, q1, q2, q3.alloc o⟩
theorem ListingIs.setRow {w : World} {g : Int → Option Nat} {a : Option Addr} {n c : Nat} {z : Nat → Int} (h : ListingIs w g a n c z) {b' t n' : Nat} {f : Nat → Value} (hr : w.rowIs b' t n' f) (ht : t ≠ 59) (i : Nat) (v : Value) : ListingIs (w.setCell ⟨b', i, none⟩ v) g a n c z := by
  rcases h with q | ⟨b, q1, q2, q3⟩
  · exact .inl q
  · exact .inr ⟨b, q1, q2, q3.setOther (by exact row_ne q3 hr (fun e => ht e.symm)) v⟩
theorem lsC_set {w : World} {S n k : Nat} {A : Nat → Value} (h : w.rowIs S 97 (n * 2) (lsC A)) (v : Value) : ((w.setCell ⟨S, k * 2, none⟩ v).setCell ⟨S, k * 2 + 1, none⟩ (.pointer none)).rowIs S 97 (n * 2) (lsC fun i => if i = k then v else A i) := by
  refine ((h.set (k * 2) v).set (k * 2 + 1) (.pointer none)).congr ?_
  intro i hi
  unfold lsC
  by_cases e1 : i = k * 2 + 1
  · subst e1
    rw [if_pos rfl, if_neg (by omega)]
  · rw [if_neg e1]
    by_cases e2 : i = k * 2
    · subst e2
      rw [if_pos rfl, if_pos (by omega)]
      simp
    · rw [if_neg e2]
      by_cases e3 : i % 2 = 0
      · rw [if_pos e3, if_pos e3]
        simp [show ¬ i / 2 = k by omega]
      · rw [if_neg e3, if_neg e3]
theorem made_ls (w : World) (n : Nat) : (w.alloc (.cells (madeCells (Value.agg #[.slice none 0 0, .pointer none]).cells (n * 2)) 97)).rowIs w.heap.size 97 (n * 2) (lsC fun _ => .slice none 0 0) := by
  have hs : (madeCells (Value.agg #[.slice none 0 0, .pointer none]).cells (n * 2)).size = n * 2 := size_madeCells _ _
  have h := World.rowIs_alloc w (madeCells (Value.agg #[.slice none 0 0, .pointer none]).cells (n * 2)) 97 (lsC fun _ => .slice none 0 0) (fun i hi => by
    rw [hs] at hi
    unfold madeCells lsC
    simp only [Value.cells]
    rcases Nat.mod_two_eq_zero_or_one i with e | e
    · simp [hi, e]
    · simp [hi, e])
  rw [hs] at h
  exact h

/-- n.bases has been laid; k listings have been laid in the row S. -/
def Laying (N : Nat) (w : World) (A : Ask) (LB : Nat) (aL : Option Addr) (cL : Nat) (wr : World) (g : Int → Option Nat) : Prop :=
  Core N w wr g (some LB) ∧ wr.rowIs LB 95 4 (lbF (.slice aL A.nL cL) (.slice none 0 0)) ∧ ListingIs wr g aL A.nL cL A.zL ∧ aL.isNone = A.lnil ∧ Has g A.nL A.zL ∧ N ≤ LB
def LaidTo (A : Ask) (S k : Nat) (aI : Nat → Option Addr) (cI : Nat → Nat) (wr : World) (g : Int → Option Nat) : Prop :=
  wr.rowIs S 97 (A.nS * 2) (lsC fun i => if i < k then .slice (aI i) (A.nI i) (cI i) else .slice none 0 0) ∧ ∀ i, i < k → ListingIs wr g (aI i) (A.nI i) (cI i) (A.zI i) ∧ Has g (A.nI i) (A.zI i)
section
variable {N : Nat} {w wr w' : World} {A : Ask} {LB cL S k : Nat} {aL : Option Addr} {g g' : Int → Option Nat} {aI : Nat → Option Addr} {cI : Nat → Nat}
theorem Laying.start (hc : Core N w wr g none) (hl : ListingIs wr g aL A.nL cL A.zL ∧ aL.isNone = A.lnil ∧ Has g A.nL A.zL) :
    Laying N w A wr.heap.size aL cL ((wr.setCell ⟨N + 1 + 1, 1, none⟩ (.pointer (some ⟨wr.heap.size, 0, none⟩))).alloc (.cells #[.pointer none, .slice aL A.nL cL, .slice none 0 0, .bool false] 95)) g := by
  have h1 := lb_made (wr.setCell ⟨N + 1 + 1, 1, none⟩ (.pointer (some ⟨wr.heap.size, 0, none⟩))) (.slice aL A.nL cL)
  rw [size_set] at h1
  exact ⟨(hc.setNode _).alloc _, h1, (hl.1.setRow hc.2.2.1 (by decide) 1 _).alloc _, hl.2.1, hl.2.2, by have := hc.2.2.1.lt; omega⟩
theorem Laying.same (h : Laying N w A LB aL cL wr g) (hs : Same N wr w') (hr : Reg w' N g') (he : Ext g g') : Laying N w A LB aL cL w' g' := by
  obtain ⟨h1, h2, h3, h4, h5, h6⟩ := h
  obtain ⟨⟨c, hm⟩, _⟩ := id h1.1
  exact ⟨h1.same hs hr, hs.row h2 (map_ne hm h2), hs.listing h1.1 he h5 h3, h4, h5.ext he, h6⟩
theorem Laying.alloc (h : Laying N w A LB aL cL wr g) (o : Obj) : Laying N w A LB aL cL (wr.alloc o) g := by
  obtain ⟨h1, h2, h3, h4, h5, h6⟩ := h
  exact ⟨h1.alloc o, h2.alloc o, h3.alloc o, h4, h5, h6⟩
theorem LaidTo.same (h : LaidTo A S k aI cI wr g) (hs : Same N wr w') (hr : Reg wr N g) (he : Ext g g') : LaidTo A S k aI cI w' g' := by
  obtain ⟨h1, h2⟩ := h
  obtain ⟨⟨c, hm⟩, _⟩ := id hr
  exact ⟨hs.row h1 (map_ne hm h1), fun i hi => ⟨hs.listing hr he (h2 i hi).2 (h2 i hi).1, (h2 i hi).2.ext he⟩⟩
theorem Laying.setLs (h : Laying N w A LB aL cL wr g) (hl : LaidTo A S k aI cI wr g) (hS : N ≤ S) (i : Nat) (v : Value) : Laying N w A LB aL cL (wr.setCell ⟨S, i, none⟩ v) g := by
  obtain ⟨h1, h2, h3, h4, h5, h6⟩ := h
  exact ⟨h1.setRow hl.1 (by decide) (by decide) hS i v, h2.setOther (by exact row_ne h2 hl.1 (by decide)) _, h3.setRow hl.1 (by decide) i v, h4, h5, h6⟩
theorem LaidTo.next (hL : Laying N w A LB aL cL wr g) (hl : LaidTo A S k aI cI wr g) (hS : N ≤ S) {a5 : Option Addr} {c5 : Nat} (h5 : ListingIs wr g a5 (A.nI k) c5 (A.zI k)) (hh5 : Has g (A.nI k) (A.zI k)) :
    Laying N w A LB aL cL ((wr.setCell ⟨S, k * 2, none⟩ (.slice a5 (A.nI k) c5)).setCell ⟨S, k * 2 + 1, none⟩ (.pointer none)) g ∧
    LaidTo A S (k + 1) (fun i => if i = k then a5 else aI i) (fun i => if i = k then c5 else cI i) ((wr.setCell ⟨S, k * 2, none⟩ (.slice a5 (A.nI k) c5)).setCell ⟨S, k * 2 + 1, none⟩ (.pointer none)) g := by
  obtain ⟨q1, q2⟩ := hl
  have r1 := q1.set (k * 2) (.slice a5 (A.nI k) c5)
  obtain ⟨h1, h2, h3, h4, h5', h6⟩ := hL
  refine ⟨⟨(h1.setRow q1 (by decide) (by decide) hS _ _).setRow r1 (by decide) (by decide) hS _ _, (h2.setOther (by exact row_ne h2 q1 (by decide)) _).setOther (by exact row_ne h2 q1 (by decide)) _, (h3.setRow q1 (by decide) _ _).setRow r1 (by decide) _ _, h4, h5', h6⟩, (lsC_set q1 _).congr ?_, ?_⟩
  · intro i hi
    unfold lsC
    by_cases e : i % 2 = 0
    · rw [if_pos e, if_pos e]
      by_cases e1 : i / 2 = k
      · simp [e1]
      · by_cases e2 : i / 2 < k
        · simp [e1, e2, show i / 2 < k + 1 by omega]
        · simp [e1, e2, show ¬ i / 2 < k + 1 by omega]
    · rw [if_neg e, if_neg e]
  · intro i hi
    by_cases e : i = k
    · subst e
      simp only [if_true]
      exact ⟨(h5.setRow q1 (by decide) _ _).setRow r1 (by decide) _ _, hh5⟩
    · simp only [if_neg e]
      obtain ⟨p1, p2⟩ := q2 i (by omega)
      exact ⟨(p1.setRow q1 (by decide) _ _).setRow r1 (by decide) _ _, p2⟩
/-- No listings. -/
theorem Laying.done (h : Laying N w A LB aL cL wr g) (hA : A.has = true) (h0 : A.nS = 0) : Core N w wr g (some LB) ∧ NBases wr g A (some LB) := by
  obtain ⟨h1, h2, h3, h4, h5, h6⟩ := h
  exact ⟨h1, hA, aL, cL, none, 0, 0, fun _ => none, fun _ => 0, by rw [h0]; exact h2, h3, h4, h5, fun q => by omega, fun i hi => by omega⟩
/-- All listings laid, and stored. -/
theorem Laying.close (h : Laying N w A LB aL cL wr g) (hl : LaidTo A S A.nS aI cI wr g) (hA : A.has = true) :
    Core N w (wr.setCell ⟨LB, 2, none⟩ (.slice (some ⟨S, 0, none⟩) A.nS A.nS)) g (some LB) ∧ NBases (wr.setCell ⟨LB, 2, none⟩ (.slice (some ⟨S, 0, none⟩) A.nS A.nS)) g A (some LB) := by
  obtain ⟨h1, h2, h3, h4, h5, h6⟩ := h
  obtain ⟨q1, q2⟩ := hl
  have q3 : wr.rowIs S 97 (A.nS * 2) (lsC fun i => .slice (aI i) (A.nI i) (cI i)) := q1.congr (fun i hi => by unfold lsC; simp [show i / 2 < A.nS by omega])
  refine ⟨h1.setRow h2 (by decide) (by decide) h6 _ _, hA, aL, cL, _, A.nS, S, aI, cI, lb_set h2 _, h3.setRow h2 (by decide) _ _, h4, h5, fun _ => ⟨rfl, q3.setOther (by exact row_ne q3 h2 (by decide)) _⟩, fun i hi => ⟨(q2 i hi).1.setRow h2 (by decide) _ _, (q2 i hi).2⟩⟩
end

end Go.Proofs.Qxb6600323a
