import Derived.Test.Qxb6600323aRelC
namespace Go.Proofs.Qxb6600323a
open Go.RowKit

/-- A slice of ints that is read. -/
def IntsIs (w : World) (a : Option Addr) (n c : Nat) (z : Nat → Int) : Prop :=
  (a = none ∧ n = 0 ∧ c = 0) ∨ ∃ x, a = some x ∧ (0 < n → ∃ b off, x = ⟨b, off, none⟩ ∧ ∀ i, i < n → w.cell? ⟨b, off + i, none⟩ = some (.int .i64 (z i)))

theorem cell_not_map {κ : Type} {key : κ → Value} {w : World} {m c : Nat} {g : κ → Option Value} (h : MapIs key w m g c) {a : Addr} {v : Value} (hc : w.cell? a = some v) : a.block ≠ m := by
  intro e
  obtain ⟨es, cl, h1, _⟩ := h
  rw [← e] at h1
  simp [World.cell?, h1] at hc

/-- What a part of memory that holds cells sees of a world that has grown and whose map has turned. -/
def Same (m : Nat) (w w' : World) : Prop := Kept (fun k => k < w.heap.size ∧ k ≠ m) w w'
theorem Same.refl (m : Nat) (w : World) : Same m w w := Kept.refl _ _
theorem Same.trans {m : Nat} {w w' w'' : World} (h : Same m w w') (k : Same m w' w'') : Same m w w'' :=
  Kept.trans h (Kept.mono k (fun _ hi => ⟨Nat.lt_of_lt_of_le hi.1 h.size, hi.2⟩))
theorem Same.alloc {m : Nat} {w w' : World} (h : Same m w w') (o : Obj) : Same m w (w'.alloc o) := Kept.alloc h (fun _ hk => Nat.lt_of_lt_of_le hk.1 h.size) o
theorem Same.drew {m : Nat} {w w' : World} (h : Same m w w') : Same m w w'.drew := Kept.drew h
theorem Same.drewN {m : Nat} {w w' : World} (h : Same m w w') (n : Nat) : Same m w (w'.drewN n) := Kept.drewN h n
theorem Same.row {m : Nat} {w w' : World} (h : Same m w w') {b t n : Nat} {f : Nat → Value} (hr : w.rowIs b t n f) (hm : m ≠ b) : w'.rowIs b t n f := hr.of_block (h.block _ ⟨hr.lt, fun e => hm e.symm⟩)
theorem Same.cell {m : Nat} {w w' : World} (h : Same m w w') {g : Int → Option Nat} (hr : Reg w m g) {a : Addr} {v : Value} (hc : w.cell? a = some v) : w'.cell? a = some v := by
  obtain ⟨⟨c, h1⟩, _⟩ := hr
  rw [Kept.cell h (by exact ⟨World.block_lt_of_cell? w _ hc, cell_not_map h1 hc⟩)]
  exact hc
theorem Same.ints {m : Nat} {w w' : World} (h : Same m w w') {g : Int → Option Nat} (hr : Reg w m g) {a : Option Addr} {n c : Nat} {z : Nat → Int} (hi : IntsIs w a n c z) : IntsIs w' a n c z := by
  rcases hi with q | ⟨x, q1, q2⟩
  · exact .inl q
  · refine .inr ⟨x, q1, fun hn => ?_⟩
    obtain ⟨b, off, e, hc⟩ := q2 hn
    exact ⟨b, off, e, fun i hi => h.cell hr (hc i hi)⟩
theorem Same.listing {m : Nat} {w w' : World} (h : Same m w w') {g g' : Int → Option Nat} (hr : Reg w m g) (he : Ext g g') {a : Option Addr} {n c : Nat} {z : Nat → Int} (hh : Has g n z) (hi : ListingIs w g a n c z) : ListingIs w' g' a n c z := by
  rcases hi with q | ⟨b, q1, qc, q2⟩
  · exact .inl q
  · refine .inr ⟨b, q1, qc, (h.row q2 ?_).congr (ptrs_ext he hh)⟩
    obtain ⟨⟨c, h1⟩, _⟩ := hr
    exact map_ne h1 q2
theorem Same.lists {m : Nat} {w w' : World} (h : Same m w w') {g : Int → Option Nat} (hr : Reg w m g) {nb n c : Nat} {a : Option Addr} (hi : Lists w nb a n c) : Lists w' nb a n c := by
  rcases hi with ⟨q, r⟩ | ⟨lb, q, r⟩
  · exact .inl ⟨h.cell hr q, r⟩
  · exact .inr ⟨lb, h.cell hr q, h.cell hr r⟩

/-- zzSectionsOf, nil or not. -/
theorem secs_any (a : Option Addr) (n c m : Nat) (z : Nat → Int) (g : Int → Option Nat) (w : World) (hn : n ≤ 1048576) (hm : Reg w m g) (hs : IntsIs w a n c z) :
    Calls Try.prog 38 #[.slice a n c, .map (some m)] w fun e w' => ∃ a' c' g', e = .returned (.slice a' n c') ∧ Reg w' m g' ∧ Ext g g' ∧ Has g' n z ∧ ListingIs w' g' a' n c' z ∧ a'.isNone = a.isNone ∧ Same m w w' := by
  rcases hs with ⟨rfl, rfl, rfl⟩ | ⟨x, rfl, hx⟩
  · refine (secs_nil 0 0 m w).mono ?_
    rintro e w' ⟨rfl, rfl⟩
    exact ⟨none, 0, g, rfl, hm, Ext.refl g, fun i hi => by omega, .inl ⟨rfl, rfl, rfl⟩, rfl, Same.refl m w⟩
  · refine (secs_some x n c m z g w hn hm (fun h0 => ?_)).mono ?_
    · obtain ⟨b, off, e, hc⟩ := hx h0
      have h1 := hc 0 h0
      obtain ⟨⟨_, hmap⟩, _⟩ := hm
      exact ⟨b, off, e, World.block_lt_of_cell? w _ h1, cell_not_map hmap h1, hc⟩
    · rintro e w' ⟨rfl, g', h1, h2, h3, h4, h5⟩
      exact ⟨_, _, g', rfl, h1, h2, h3, .inr ⟨_, rfl, rfl, h4⟩, rfl, h5⟩

/-! ### the nodes -/
def ptrO : Option Nat → Value
  | none => .pointer none
  | some b => .pointer (some ⟨b, 0, none⟩)
/-- The cells of a structNode: its bases, its from. -/
def nodeF (bs fr : Option Nat) (i : Nat) : Value :=
  if i = 1 then ptrO bs else if i = 14 then ptrO fr
  else (#[Value.pointer none, .pointer none, .pointer none, .string ByteArray.empty, .int .i64 0, .string ByteArray.empty, .pointer none, .bool false, .bool false, .bool false, .slice none 0 0, .pointer none, .slice none 0 0, .pointer none, .pointer none, .pointer none, .map none] : Array Value).getD i (.pointer none)
/-- The cells of a listedBases. -/
def lbF (l s : Value) (i : Nat) : Value := if i = 1 then l else if i = 2 then s else if i = 3 then .bool false else .pointer none
theorem node_set {w : World} {nb : Nat} {bs fr : Option Nat} (h : w.rowIs nb 91 17 (nodeF bs fr)) (b : Nat) : (w.setCell ⟨nb, 1, none⟩ (.pointer (some ⟨b, 0, none⟩))).rowIs nb 91 17 (nodeF (some b) fr) := by
  refine (h.set 1 _).congr ?_
  intro i hi
  unfold nodeF
  by_cases e : i = 1 <;> simp [e, ptrO]
theorem lb_set {w : World} {lb : Nat} {l s : Value} (h : w.rowIs lb 95 4 (lbF l s)) (v : Value) : (w.setCell ⟨lb, 2, none⟩ v).rowIs lb 95 4 (lbF l v) := by
  refine (h.set 2 _).congr ?_
  intro i hi
  unfold lbF
  by_cases e : i = 2 <;> simp [e]
theorem lb_made (w : World) (l : Value) : (w.alloc (.cells #[.pointer none, l, .slice none 0 0, .bool false] 95)).rowIs w.heap.size 95 4 (lbF l (.slice none 0 0)) :=
  World.rowIs_alloc w #[.pointer none, l, .slice none 0 0, .bool false] 95 (lbF l (.slice none 0 0)) (fun i hi => by
    match i, hi with
    | 0, _ => rfl
    | 1, _ => rfl
    | 2, _ => rfl
    | 3, _ => rfl)

/-- What is listed: whether n has bases; the one list; the listings. -/
structure Ask where
  has : Bool
  lnil : Bool
  nL : Nat
  zL : Nat → Int
  nS : Nat
  nI : Nat → Nat
  zI : Nat → Nat → Int

/-- n.bases, as it stands. -/
def NBases (w : World) (g : Int → Option Nat) (A : Ask) : Option Nat → Prop
  | none => A.has = false
  | some lb => A.has = true ∧ ∃ (aL : Option Addr) (cL : Nat) (aS : Option Addr) (cS S : Nat) (aI : Nat → Option Addr) (cI : Nat → Nat), w.rowIs lb 95 4 (lbF (.slice aL A.nL cL) (.slice aS A.nS cS)) ∧ ListingIs w g aL A.nL cL A.zL ∧ aL.isNone = A.lnil ∧ Has g A.nL A.zL ∧
      (0 < A.nS → aS = some ⟨S, 0, none⟩ ∧ w.rowIs S 97 (A.nS * 2) (lsC fun i => .slice (aI i) (A.nI i) (cI i))) ∧ ∀ i, i < A.nS → ListingIs w g (aI i) (A.nI i) (cI i) (A.zI i) ∧ Has g (A.nI i) (A.zI i)
theorem Same.nbases {m : Nat} {w w' : World} (h : Same m w w') {g g' : Int → Option Nat} (hr : Reg w m g) (he : Ext g g') {A : Ask} {o : Option Nat} (hn : NBases w g A o) : NBases w' g' A o := by
  cases o with
  | none => exact hn
  | some lb =>
    obtain ⟨h0, aL, cL, aS, cS, S, aI, cI, h1, h2, h3, h4, h5, h6⟩ := hn
    obtain ⟨⟨c, hm⟩, _⟩ := id hr
    exact ⟨h0, aL, cL, aS, cS, S, aI, cI, h.row h1 (map_ne hm h1), h.listing hr he h4 h2, h3, h4.ext he, fun q => ⟨(h5 q).1, h.row (h5 q).2 (map_ne hm (h5 q).2)⟩, fun i hi => ⟨h.listing hr he (h6 i hi).2 (h6 i hi).1, (h6 i hi).2.ext he⟩⟩
end Go.Proofs.Qxb6600323a
