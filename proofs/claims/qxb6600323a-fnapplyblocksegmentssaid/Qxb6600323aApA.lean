import Derived.Test.Qxb6600323aMaps
import Derived.ArgAppend
import Derived.Maps.AppendAt
import Derived.Laws.OwnMore
import Derived.KernelRfl
namespace Go.Proofs.Qxb6600323a
open Go.RowKit
set_option linter.unusedVariables false

theorem Try.info71 : (Try.prog.info? 71).map (fun i => (i.zero, i.size, i.bytes)) = some (some (.agg #[.int .u8 0, .int .u8 0, .bool false, .string ⟨#[]⟩, .int .i64 0, .string ⟨#[]⟩, .string ⟨#[]⟩, .string ⟨#[]⟩, .string ⟨#[]⟩]), 9, 96) := by kernel_rfl
theorem Try.info74 : (Try.prog.info? 74).map (fun i => (i.zero, i.size, i.bytes)) = some (some (.agg #[.string ⟨#[]⟩, .slice none 0 0]), 2, 40) := by kernel_rfl
theorem Try.info67 : (Try.prog.info? 67).map (fun i => (i.zero, i.size, i.bytes)) = some (some (.slice none 0 0), 1, 24) := by kernel_rfl

/-- The lines: key and op of each. -/
structure Inp where
  K : Nat → ByteArray
  O : Nat → Int
/-- The cells of line i's assignment. -/
def asg (I : Inp) (i : Nat) : List Value := [.int .u8 (I.O i), .int .u8 0, .bool false, .string ⟨#[]⟩, .int .i64 i, .string ⟨#[]⟩, .string ⟨#[]⟩, .string (I.K i), .string ⟨#[]⟩]
def asgL (I : Inp) : List Nat → List Value
  | [] => []
  | i :: l => asg I i ++ asgL I l
theorem asgL_len (I : Inp) (l : List Nat) : (asgL I l).length = l.length * 9 := by
  induction l with
  | nil => rfl
  | cons i l ih => simp [asgL, asg, ih]; omega
theorem asgL_app (I : Inp) (l m : List Nat) : asgL I (l ++ m) = asgL I l ++ asgL I m := by
  induction l with
  | nil => rfl
  | cons i l ih => simp [asgL, ih]
theorem asgL_get (I : Inp) (l : List Nat) (q i f : Nat) (h : l[q]? = some i) (hf : f < 9) : (asgL I l)[q * 9 + f]? = (asg I i)[f]? := by
  induction l generalizing q with
  | nil => simp at h
  | cons x l ih =>
    cases q with
    | zero =>
      simp at h
      subst h
      rw [asgL, List.getElem?_append_left (by simp [asg]; omega)]
      simp
    | succ q =>
      simp at h
      rw [asgL, List.getElem?_append_right (by simp [asg]; omega)]
      rw [← ih q h]
      congr 1
      simp [asg]
      omega
theorem asgL_one (I : Inp) (l : List Nat) : ∀ u ∈ asgL I l, u.oneCell' = true := by
  induction l with
  | nil => simp [asgL]
  | cons i l ih =>
    intro u hu
    rw [asgL, List.mem_append] at hu
    rcases hu with hu | hu
    · simp [asg] at hu
      rcases hu with rfl | rfl | rfl | rfl | rfl | rfl | rfl | rfl <;> rfl
    · exact ih u hu

/-- v holds the assignments of the lines L. -/
def Run (I : Inp) (w : World) (v : Value) (L : List Nat) : Prop :=
  ∃ b off cap cs, v = .slice (some ⟨b, off, none⟩) L.length cap ∧ L.length ≤ cap ∧ w.heap[b]? = some (.cells cs 71 (0, 0)) ∧ (∀ j u, (asgL I L)[j]? = some u → cs[off + j]? = some u) ∧ (L.length = cap ∨ (off = 0 ∧ cs.size = cap * 9 ∧ cap ≤ maxLen))
def Grow (v : Value) : Prop := ∃ a n c, v = .slice a n c ∧ n ≠ c

section
variable {I : Inp} {w w' : World} {v : Value} {L : List Nat}
theorem Run.of (h : Run I w v L) (e : ∀ b, v.ownBlock = some b → w'.heap[b]? = w.heap[b]?) : Run I w' v L := by
  obtain ⟨b, off, cap, cs, rfl, h1, h2, r⟩ := h
  exact ⟨b, off, cap, cs, rfl, h1, (e b rfl).trans h2, r⟩
theorem Run.lt (h : Run I w v L) : ∃ b, v.ownBlock = some b ∧ b < w.heap.size := by
  obtain ⟨b, off, cap, cs, rfl, h1, h2, r⟩ := h
  exact ⟨b, rfl, (Array.getElem?_eq_some_iff.1 h2).1⟩
theorem Run.kept (h : Run I w v L) {row : Option Nat} (hg : w.grownBy w' row) (hne : v.ownBlock ≠ row) : Run I w' v L := by
  obtain ⟨b, hb, hlt⟩ := h.lt
  refine h.of fun k hk => ?_
  rw [hb] at hk hne
  cases hk
  exact hg.block _ hlt hne
theorem Run.fresh (h : Run I w v L) (e : ∀ k, k < w.heap.size → w'.heap[k]? = w.heap[k]?) : Run I w' v L := by
  obtain ⟨b, hb, hlt⟩ := h.lt
  refine h.of fun k hk => ?_
  rw [hb] at hk
  cases hk
  exact e _ hlt

/-- One more line. -/
theorem Run.app (h : Run I w v L) (ty : TypeId) (i ad c : Nat) (hone : ∀ j u, (asg I i)[j]? = some u → w.cell? ((⟨ad, 0, none⟩ : Addr).add j) = some u) (hL : L.length + 1 ≤ 1048576) :
    ∃ v' w', (Builtin.append_ #[67, 67] ty #[v, .slice (some ⟨ad, 0, none⟩) 1 c]).run Try.prog w = .ok v' w' ∧ Run I w' v' (L ++ [i]) ∧
      ∃ row, w.grownBy w' row ∧ (row = none ∨ (Grow v ∧ row = v.ownBlock)) ∧ ∃ k, v'.ownBlock = some k ∧ (w.heap.size ≤ k ∨ (Grow v ∧ v.ownBlock = some k)) := by
  obtain ⟨b, off, cap, cs, rfl, h1, h2, h3, h4⟩ := h
  obtain ⟨i0, hi, hz, hs, hb⟩ := info_parts Try.info71
  have e1 : asgL I (L ++ [i]) = asgL I L ++ asg I i := by rw [asgL_app]; simp [asgL]
  have fin : ∀ (base : Nat) v' w', w'.ownsRow base 71 9 v' (L.length + 1) (asgL I L ++ asg I i) → Run I w' v' (L ++ [i]) ∧ ∃ k, v'.ownBlock = some k ∧ base ≤ k := by
    intro base v' w' hown
    rcases hown.2 with ⟨_, q⟩ | ⟨g, cap', cur, rfl, q1, q2, q3, q4, q5, q6⟩
    · omega
    · refine ⟨⟨g, 0, cap', cur, by simp, by simpa using q3, q2, ?_, .inr ⟨rfl, q5, q4⟩⟩, g, rfl, q1⟩
      intro j u hj
      rw [e1, ← q6, List.getElem?_take] at hj
      split at hj
      · simpa using hj
      · cases hj
  by_cases hfull : L.length = cap
  · obtain ⟨v', w', hrun, r1, r2⟩ := run_append_arg_grows (P := Try.prog) w 67 ty 71 i0 _ 9 96 Try.underlying67 hi hz hs hb rfl (by decide) ⟨b, off, none⟩ L.length cap (asgL I L) (asgL_len _ _)
      (fun j u hu => by rw [Addr.add_lit, cell_of_row w b _ cs 71 (0, 0) h2]; exact h3 j u hu) ⟨ad, 0, none⟩ 1 c (asg I i) rfl hone (by omega) (by unfold maxLen; omega) (by omega)
    obtain ⟨f1, k, f2, f3⟩ := fin _ _ _ r1
    exact ⟨v', w', hrun, f1, none, r2, .inl rfl, k, f2, .inl f3⟩
  · rcases h4 with h4 | ⟨rfl, h5, h6⟩
    · exact absurd h4 hfull
    · have hown : w.ownsRow 0 71 9 (.slice (some ⟨b, 0, none⟩) L.length cap) L.length (asgL I L) := by
        refine ⟨asgL_len _ _, .inr ⟨b, cap, cs, rfl, Nat.zero_le _, h2, h1, h6, h5, ?_⟩⟩
        apply List.ext_getElem?
        intro j
        rw [List.getElem?_take]
        split
        · rename_i hj
          have : j < (asgL I L).length := by rw [asgL_len]; exact hj
          have q := h3 j _ (List.getElem?_eq_getElem this)
          rw [List.getElem?_eq_getElem this, ← q]
          simp
        · rename_i hj
          symm
          rw [List.getElem?_eq_none_iff, asgL_len]
          omega
      obtain ⟨v', w', hrun, r1, r2, _, r4⟩ := run_append_own_at (P := Try.prog) w 0 67 ty 71 i0 _ 9 96 Try.underlying67 hi hz hs hb rfl (by decide) _ _ _ hown ⟨ad, 0, none⟩ 1 c (asg I i) rfl hone (fun u hu => asgL_one I [i] u (by simpa [asgL] using hu)) (by unfold maxLen; omega) (by omega) (Nat.zero_le _)
      obtain ⟨f1, k, f2, f3⟩ := fin _ _ _ r1
      have hgrow : Grow (.slice (some ⟨b, 0, none⟩) L.length cap) := ⟨_, _, _, rfl, hfull⟩
      refine ⟨v', w', hrun, f1, _, r2, .inr ⟨hgrow, rfl⟩, k, f2, ?_⟩
      rw [f2] at r4
      rcases r4 with r4 | r4
      · exact .inr ⟨hgrow, r4.symm⟩
      · cases r4; exact .inl (Nat.le_refl _)
end

/-! ### the plain state -/
structure St where
  n : Nat
  key : Nat → ByteArray
  place : ByteArray → Option Nat
  made : Nat → List Nat
  early : Nat → List (List Nat)
  cnt : Nat
def upd {α : Type} (f : Nat → α) (j : Nat) (v : α) (i : Nat) : α := if i = j then v else f i
theorem upd_same {α : Type} (f : Nat → α) (j : Nat) (v : α) : upd f j v j = v := by simp [upd]
theorem upd_other {α : Type} (f : Nat → α) {i j : Nat} (v : α) (h : i ≠ j) : upd f j v i = f i := by simp [upd, h]
def St.new (s : St) (k : ByteArray) (i : Nat) : St := { n := s.n + 1, key := upd s.key s.n k, place := fun k' => if k' = k then some s.n else s.place k', made := upd s.made s.n [i], early := upd s.early s.n [], cnt := s.cnt }
def St.app (s : St) (j i : Nat) : St := { s with made := upd s.made j (s.made j ++ [i]) }
def St.bury (s : St) (j : Nat) : St := { s with early := upd s.early j (s.early j ++ [s.made j]), cnt := s.cnt + if s.early j = [] then 1 else 0 }
def St.set (s : St) (j i : Nat) : St := { s with made := upd s.made j [i] }
def St.step (I : Inp) (rep : Bool) (s : St) (i : Nat) : St :=
  match s.place (I.K i) with
  | none => s.new (I.K i) i
  | some j => if I.O i = 1 then s.app j i else if rep then (s.bury j).set j i else s.set j i
def St.empty : St := ⟨0, fun _ => ⟨#[]⟩, fun _ => none, fun _ => [], fun _ => [], 0⟩
def stAt (I : Inp) (rep : Bool) : Nat → St
  | 0 => St.empty
  | i + 1 => (stAt I rep i).step I rep i
def St.Ok (s : St) : Prop := ∀ k j, s.place k = some j ↔ j < s.n ∧ s.key j = k
end Go.Proofs.Qxb6600323a
