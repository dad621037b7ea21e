import Derived.Test.Qxb6600323aApO
namespace Go.Proofs.Qxb6600323a
open Go.RowKit
set_option linter.unusedVariables false

/-! ### the order of strings -/
theorem bl_irrefl : ∀ (x : List UInt8), Op.bytesLess x x = false
  | [] => rfl
  | a :: x => by
    rw [Op.bytesLess, bl_irrefl x]
    simp
theorem bl_trans : ∀ (x y z : List UInt8), Op.bytesLess x y = true → Op.bytesLess y z = true → Op.bytesLess x z = true
  | _, [], _, h, _ => by simp [Op.bytesLess] at h
  | _, _ :: _, [], _, h => by simp [Op.bytesLess] at h
  | [], _ :: _, _ :: _, _, _ => rfl
  | a :: x, b :: y, c :: z, h1, h2 => by
    rw [Op.bytesLess, Bool.or_eq_true, Bool.and_eq_true, decide_eq_true_eq, beq_iff_eq] at h1 h2 ⊢
    rcases h1 with h1 | ⟨rfl, h1⟩
    · rcases h2 with h2 | ⟨rfl, h2⟩
      · exact .inl (UInt8.lt_trans h1 h2)
      · exact .inl h1
    · rcases h2 with h2 | ⟨rfl, h2⟩
      · exact .inl h2
      · exact .inr ⟨rfl, bl_trans x y z h1 h2⟩
theorem bl_tri : ∀ (x y : List UInt8), Op.bytesLess x y = false → Op.bytesLess y x = false → x = y
  | [], [], _, _ => rfl
  | [], _ :: _, h, _ => by simp [Op.bytesLess] at h
  | _ :: _, [], _, h => by simp [Op.bytesLess] at h
  | a :: x, b :: y, h1, h2 => by
    rw [Op.bytesLess, Bool.or_eq_false_iff, decide_eq_false_iff_not] at h1 h2
    have hab : a = b := by
      by_cases e : a = b
      · exact e
      · rcases UInt8.lt_or_lt_of_ne e with h | h
        · exact absurd h h1.1
        · exact absurd h h2.1
    subst hab
    have e1 : Op.bytesLess x y = false := by simpa using h1.2
    have e2 : Op.bytesLess y x = false := by simpa using h2.2
    rw [bl_tri x y e1 e2]
theorem toList_inj {a b : ByteArray} (h : a.toList = b.toList) : a = b := by
  rw [ByteArray.toList_eq, ByteArray.toList_eq] at h
  cases a; cases b
  simp only [ByteArray.mk.injEq]
  exact Array.toList_inj.1 h

/-- By key, then by place. -/
def kR (K : Nat → ByteArray) (x y : Nat) : Prop := Op.bytesLess (K x).toList (K y).toList = true ∨ (K x = K y ∧ x < y)
theorem kR_trans {K : Nat → ByteArray} {x y z : Nat} (h1 : kR K x y) (h2 : kR K y z) : kR K x z := by
  rcases h1 with h1 | ⟨e1, l1⟩
  · rcases h2 with h2 | ⟨e2, l2⟩
    · exact .inl (bl_trans _ _ _ h1 h2)
    · exact .inl (by rw [← e2]; exact h1)
  · rcases h2 with h2 | ⟨e2, l2⟩
    · exact .inl (by rw [e1]; exact h2)
    · exact .inr ⟨e1.trans e2, by omega⟩
theorem kR_irrefl {K : Nat → ByteArray} {x : Nat} (h : kR K x x) : False := by
  rcases h with h | ⟨_, h⟩
  · rw [bl_irrefl] at h; cases h
  · omega
theorem kR_of_not {K : Nat → ByteArray} {x y : Nat} (h : Op.bytesLess (K y).toList (K x).toList = false) (hl : x < y) : kR K x y := by
  cases h2 : Op.bytesLess (K x).toList (K y).toList with
  | true => exact .inl h2
  | false => exact .inr ⟨toList_inj (bl_tri _ _ h2 h), hl⟩

/-! ### a stretch of a row -/
def seg (B : Nat → Nat) (lo len : Nat) : List Nat := (List.range len).map (fun q => B (lo + q))
theorem seg_len (B : Nat → Nat) (lo len : Nat) : (seg B lo len).length = len := by simp [seg]
theorem seg_snoc (B : Nat → Nat) (lo len : Nat) : seg B lo (len + 1) = seg B lo len ++ [B (lo + len)] := by simp [seg, List.range_succ]
theorem seg_congr {B B' : Nat → Nat} {lo len : Nat} (h : ∀ q, q < len → B (lo + q) = B' (lo + q)) : seg B lo len = seg B' lo len := by
  unfold seg
  exact List.map_congr_left (fun q hq => h q (List.mem_range.1 hq))
theorem seg_cons (B : Nat → Nat) (lo len : Nat) : seg B lo (len + 1) = B lo :: seg B (lo + 1) len := by
  unfold seg
  rw [List.range_succ_eq_map, List.map_cons, List.map_map]
  congr 1
  exact List.map_congr_left (fun q _ => by simp only [Function.comp]; congr 1; omega)
theorem mem_seg {B : Nat → Nat} {lo len x : Nat} : x ∈ seg B lo len ↔ ∃ q, q < len ∧ B (lo + q) = x := by simp [seg]
theorem seg_get {B : Nat → Nat} {lo len q : Nat} (h : q < len) : (seg B lo len).getD q 0 = B (lo + q) := by simp [seg, h]
theorem seg_append (B : Nat → Nat) (lo a b : Nat) : seg B lo (a + b) = seg B lo a ++ seg B (lo + a) b := by
  induction b with
  | zero => simp [seg]
  | succ b ih => rw [← Nat.add_assoc, seg_snoc, ih, seg_snoc, List.append_assoc, Nat.add_assoc]

/-- The stretch [lo, hi) holds the places lo .. hi-1, by kR. -/
structure Gd (K : Nat → ByteArray) (A : Nat → Nat) (lo hi : Nat) : Prop where
  mem : ∀ x, x ∈ seg A lo (hi - lo) ↔ lo ≤ x ∧ x < hi
  srt : (seg A lo (hi - lo)).Pairwise (kR K)
theorem Gd.triv (K : Nat → ByteArray) (A : Nat → Nat) (n : Nat) : Gd K A n n := ⟨fun x => by simp [seg], by simp [seg]⟩
theorem Gd.one (K : Nat → ByteArray) {A : Nat → Nat} {lo hi : Nat} (h : A lo = lo) (hh : hi = lo + 1) : Gd K A lo hi := by
  subst hh
  refine ⟨fun x => ?_, ?_⟩ <;> rw [Nat.add_sub_cancel_left, seg_cons] <;> simp [seg, h]
  omega
theorem Gd.congr {K : Nat → ByteArray} {A B : Nat → Nat} {lo hi : Nat} (h : Gd K A lo hi) (e : ∀ x, lo ≤ x → x < hi → A x = B x) : Gd K B lo hi := by
  have := seg_congr (B := A) (B' := B) (lo := lo) (len := hi - lo) (fun q hq => e _ (by omega) (by omega))
  exact ⟨by rw [← this]; exact h.mem, by rw [← this]; exact h.srt⟩

/-- The merge of [lo, mid) and [mid, hi) of A into B, at i, j, k. -/
structure Mg (K : Nat → ByteArray) (A B0 B : Nat → Nat) (lo mid hi i j k : Nat) : Prop where
  li : lo ≤ i
  im : i ≤ mid
  mj : mid ≤ j
  jh : j ≤ hi
  hk : k + mid = i + j
  mem : ∀ x, (x ∈ seg B lo (k - lo) ∨ x ∈ seg A i (mid - i) ∨ x ∈ seg A j (hi - j)) ↔ lo ≤ x ∧ x < hi
  srt : (seg B lo (k - lo)).Pairwise (kR K)
  sl : (seg A i (mid - i)).Pairwise (kR K)
  sr : (seg A j (hi - j)).Pairwise (kR K)
  bel : ∀ x ∈ seg B lo (k - lo), ∀ y, y ∈ seg A i (mid - i) ∨ y ∈ seg A j (hi - j) → kR K x y
  ml : ∀ x ∈ seg A i (mid - i), x < mid
  mr : ∀ x ∈ seg A j (hi - j), mid ≤ x
  old : ∀ x, x < lo → B x = B0 x

theorem Mg.start {K : Nat → ByteArray} {A B : Nat → Nat} {lo mid hi : Nat} (h1 : Gd K A lo mid) (h2 : Gd K A mid hi) (l1 : lo ≤ mid) (l2 : mid ≤ hi) : Mg K A B B lo mid hi lo mid lo := by
  refine ⟨Nat.le_refl _, l1, Nat.le_refl _, l2, by omega, fun x => ?_, by simp [seg], h1.srt, h2.srt, by simp [seg], fun x hx => ((h1.mem x).1 hx).2, fun x hx => ((h2.mem x).1 hx).1, fun _ _ => rfl⟩
  rw [h1.mem, h2.mem]
  simp [seg]
  omega
theorem seg_upd {B : Nat → Nat} {lo k z : Nat} (h : lo ≤ k) : seg (upd B k z) lo (k + 1 - lo) = seg B lo (k - lo) ++ [z] := by
  rw [show k + 1 - lo = (k - lo) + 1 by omega, seg_snoc, show lo + (k - lo) = k by omega, upd_same]
  congr 1
  exact seg_congr (fun q hq => upd_other _ _ (by omega))
theorem seg_first {A : Nat → Nat} {i m : Nat} (h : i < m) : seg A i (m - i) = A i :: seg A (i + 1) (m - (i + 1)) := by
  rw [show m - i = (m - (i + 1)) + 1 by omega, seg_cons]

theorem Mg.left {K : Nat → ByteArray} {A B0 B : Nat → Nat} {lo mid hi i j k : Nat} (h : Mg K A B0 B lo mid hi i j k) (hi' : i < mid) (hz : ∀ y ∈ seg A j (hi - j), kR K (A i) y) : Mg K A B0 (upd B k (A i)) lo mid hi (i + 1) j (k + 1) := by
  obtain ⟨li, im, mj, jh, hk, mem, srt, sl, sr, bel, ml, mr, old⟩ := h
  have hlk : lo ≤ k := by omega
  rw [seg_first hi'] at mem sl bel ml
  rw [List.pairwise_cons] at sl
  refine ⟨by omega, by omega, mj, jh, by omega, fun x => ?_, ?_, sl.2, sr, ?_, fun x hx => ml x (List.mem_cons_of_mem _ hx), mr, fun x hx => by rw [upd_other _ _ (by omega)]; exact old x hx⟩
  · rw [seg_upd hlk, ← mem x]
    simp only [List.mem_append, List.mem_cons, List.not_mem_nil, or_false]
    constructor
    · rintro ((q | q) | q | q) <;> simp [q]
    · rintro (q | (q | q) | q) <;> simp [q]
  · rw [seg_upd hlk, List.pairwise_append]
    refine ⟨srt, by simp, fun a ha b hb => ?_⟩
    rw [List.mem_singleton] at hb
    subst hb
    exact bel a ha _ (.inl List.mem_cons_self)
  · rw [seg_upd hlk]
    intro x hx y hy
    rw [List.mem_append, List.mem_singleton] at hx
    rcases hx with hx | rfl
    · rcases hy with hy | hy
      · exact bel x hx y (.inl (List.mem_cons_of_mem _ hy))
      · exact bel x hx y (.inr hy)
    · rcases hy with hy | hy
      · exact sl.1 y hy
      · exact hz y hy
theorem Mg.right {K : Nat → ByteArray} {A B0 B : Nat → Nat} {lo mid hi i j k : Nat} (h : Mg K A B0 B lo mid hi i j k) (hj' : j < hi) (hz : ∀ y ∈ seg A i (mid - i), kR K (A j) y) : Mg K A B0 (upd B k (A j)) lo mid hi i (j + 1) (k + 1) := by
  obtain ⟨li, im, mj, jh, hk, mem, srt, sl, sr, bel, ml, mr, old⟩ := h
  have hlk : lo ≤ k := by omega
  rw [seg_first hj'] at mem sr bel mr
  rw [List.pairwise_cons] at sr
  refine ⟨li, im, by omega, by omega, by omega, fun x => ?_, ?_, sl, sr.2, ?_, ml, fun x hx => mr x (List.mem_cons_of_mem _ hx), fun x hx => by rw [upd_other _ _ (by omega)]; exact old x hx⟩
  · rw [seg_upd hlk, ← mem x]
    simp only [List.mem_append, List.mem_cons, List.not_mem_nil, or_false]
    constructor
    · rintro ((q | q) | q | q) <;> simp [q]
    · rintro (q | q | q | q) <;> simp [q]
  · rw [seg_upd hlk, List.pairwise_append]
    refine ⟨srt, by simp, fun a ha b hb => ?_⟩
    rw [List.mem_singleton] at hb
    subst hb
    exact bel a ha _ (.inr List.mem_cons_self)
  · rw [seg_upd hlk]
    intro x hx y hy
    rw [List.mem_append, List.mem_singleton] at hx
    rcases hx with hx | rfl
    · rcases hy with hy | hy
      · exact bel x hx y (.inl hy)
      · exact bel x hx y (.inr (List.mem_cons_of_mem _ hy))
    · rcases hy with hy | hy
      · exact hz y hy
      · exact sr.1 y hy
theorem Mg.takeR {K : Nat → ByteArray} {A B0 B : Nat → Nat} {lo mid hi i j k : Nat} (h : Mg K A B0 B lo mid hi i j k) (hi' : i < mid) (hj' : j < hi) (hl : Op.bytesLess (K (A j)).toList (K (A i)).toList = true) : Mg K A B0 (upd B k (A j)) lo mid hi i (j + 1) (k + 1) := by
  refine h.right hj' (fun y hy => ?_)
  have hsl := h.sl
  rw [seg_first hi'] at hy hsl
  rcases List.mem_cons.1 hy with rfl | hy
  · exact .inl hl
  · exact kR_trans (.inl hl) ((List.pairwise_cons.1 hsl).1 y hy)
theorem Mg.takeL {K : Nat → ByteArray} {A B0 B : Nat → Nat} {lo mid hi i j k : Nat} (h : Mg K A B0 B lo mid hi i j k) (hi' : i < mid) (hj' : j < hi) (hl : Op.bytesLess (K (A j)).toList (K (A i)).toList = false) : Mg K A B0 (upd B k (A i)) lo mid hi (i + 1) j (k + 1) := by
  have h1 := h.ml (A i) (by rw [seg_first hi']; exact List.mem_cons_self)
  have h2 := h.mr (A j) (by rw [seg_first hj']; exact List.mem_cons_self)
  have hij : kR K (A i) (A j) := kR_of_not hl (by omega)
  refine h.left hi' (fun y hy => ?_)
  have hsr := h.sr
  rw [seg_first hj'] at hy hsr
  rcases List.mem_cons.1 hy with rfl | hy
  · exact hij
  · exact kR_trans hij ((List.pairwise_cons.1 hsr).1 y hy)
theorem Mg.done {K : Nat → ByteArray} {A B0 B : Nat → Nat} {lo mid hi k : Nat} (h : Mg K A B0 B lo mid hi mid hi k) : k = hi ∧ Gd K B lo hi := by
  have hk : k = hi := by have := h.hk; omega
  subst hk
  refine ⟨rfl, fun x => ?_, h.srt⟩
  have := h.mem x
  simpa [seg] using this
end Go.Proofs.Qxb6600323a
