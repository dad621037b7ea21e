import Derived.Test.Qxb6600323aSgA
namespace Go.Proofs.Qxb6600323a
open Go.RowKit
set_option linter.unusedVariables false

/-! ### the groups of the sorted places -/
theorem sorted_unique : ∀ {L M : List Nat}, L.Pairwise (· < ·) → M.Pairwise (· < ·) → (∀ x, x ∈ L ↔ x ∈ M) → L = M
  | [], [], _, _, _ => rfl
  | [], y :: M, _, _, h => by have := (h y).2 List.mem_cons_self; cases this
  | x :: L, [], _, _, h => by have := (h x).1 List.mem_cons_self; cases this
  | x :: L, y :: M, h1, h2, h => by
    rw [List.pairwise_cons] at h1 h2
    have hxy : x = y := by
      rcases List.mem_cons.1 ((h x).1 List.mem_cons_self) with e | e
      · exact e
      · rcases List.mem_cons.1 ((h y).2 List.mem_cons_self) with e' | e'
        · exact e'.symm
        · have a := h2.1 x e
          have b := h1.1 y e'
          omega
    subst hxy
    have : L = M := sorted_unique h1.2 h2.2 (fun z => by
      have hz := h z
      rw [List.mem_cons, List.mem_cons] at hz
      constructor
      · intro q
        rcases hz.1 (.inr q) with e | e
        · have := h1.1 z q; omega
        · exact e
      · intro q
        rcases hz.2 (.inr q) with e | e
        · have := h2.1 z q; omega
        · exact e)
    rw [this]

def Leader (I : Inp) (f : Nat) : Prop := ∀ x, x < f → I.K x ≠ I.K f
structure GInv (I : Inp) (n : Nat) (A : Nat → Nat) (G : Nat → Int) (Hh : Nat → Nat) (lo : Nat) : Prop where
  bnd : ∀ p q, p < lo → lo ≤ q → q < n → I.K (A p) ≠ I.K (A q)
  set : ∀ f, f < n → G f = -1 ∨ ∃ l, G f = ((l : Nat) : Int) ∧ l < Hh f ∧ Hh f ≤ n ∧ seg A l (Hh f - l) = occOf I n (I.K f) ∧ Leader I f
  done : ∀ p, p < lo → Leader I (A p) → G (A p) ≠ -1
theorem GInv.start (I : Inp) (n : Nat) (A : Nat → Nat) : GInv I n A (fun _ => -1) (fun _ => 0) 0 :=
  ⟨fun p q h => absurd h (Nat.not_lt_zero _), fun f _ => .inl rfl, fun p h => absurd h (Nat.not_lt_zero _)⟩
theorem gd_get {K : Nat → ByteArray} {A : Nat → Nat} {n p q : Nat} (h : Gd K A 0 n) (hpq : p < q) (hq : q < n) : kR K (A p) (A q) := by
  have h1 : (seg A 0 n).Pairwise (kR K) := by have := h.srt; rwa [Nat.sub_zero] at this
  have h2 := List.pairwise_iff_getElem.1 h1 p q (by rw [seg_len]; omega) (by rw [seg_len]; omega) hpq
  simpa [seg] using h2
theorem gd_val {K : Nat → ByteArray} {A : Nat → Nat} {n p : Nat} (h : Gd K A 0 n) (hp : p < n) : A p < n := by
  have := (h.mem (A p)).1 (mem_seg.2 ⟨p, by omega, by rw [Nat.zero_add]⟩)
  exact this.2
theorem gd_pos {K : Nat → ByteArray} {A : Nat → Nat} {n x : Nat} (h : Gd K A 0 n) (hx : x < n) : ∃ p, p < n ∧ A p = x := by
  obtain ⟨q, hq, e⟩ := mem_seg.1 ((h.mem x).2 ⟨Nat.zero_le _, hx⟩)
  exact ⟨q, by omega, by rw [Nat.zero_add] at e; exact e⟩
theorem gd_same {K : Nat → ByteArray} {A : Nat → Nat} {n p q : Nat} (h : Gd K A 0 n) (hpq : p < q) (hq : q < n) (e : K (A p) = K (A q)) : A p < A q := by
  rcases gd_get h hpq hq with q1 | q1
  · rw [e, bl_irrefl] at q1; cases q1
  · exact q1.2
theorem ginv_bnd {I : Inp} {n : Nat} {A : Nat → Nat} {lo hi : Nat} (hG : Gd I.K A 0 n) (hb : ∀ p q, p < lo → lo ≤ q → q < n → I.K (A p) ≠ I.K (A q)) (h2 : hi ≤ n) (hs : ∀ p, lo ≤ p → p < hi → I.K (A p) = I.K (A lo)) (he : hi = n ∨ I.K (A hi) ≠ I.K (A lo)) (hlh : lo < hi) :
    ∀ p q, p < hi → hi ≤ q → q < n → I.K (A p) ≠ I.K (A q) := by
  intro p q hp hq hqn e
  by_cases c : p < lo
  · exact hb p q c (by omega) hqn e
  · have ep := hs p (by omega) hp
    rcases he with he | he
    · omega
    · have k1 := gd_get hG (show lo < hi by omega) (show hi < n by omega)
      have k1' : Op.bytesLess (I.K (A lo)).toList (I.K (A hi)).toList = true := by
        rcases k1 with k1 | k1
        · exact k1
        · exact absurd k1.1.symm he
      by_cases c2 : q = hi
      · subst c2
        rw [← e, ep] at he
        exact he rfl
      · have k2 := gd_get hG (show hi < q by omega) hqn
        rw [ep] at e
        rcases k2 with k2 | k2
        · rw [← e] at k2
          have := bl_trans _ _ _ k1' k2
          rw [bl_irrefl] at this; cases this
        · rw [← e] at k2
          exact he k2.1
theorem ginv_occ {I : Inp} {n : Nat} {A : Nat → Nat} {lo hi : Nat} (hG : Gd I.K A 0 n) (hb : ∀ p q, p < lo → lo ≤ q → q < n → I.K (A p) ≠ I.K (A q)) (h2 : hi ≤ n) (hs : ∀ p, lo ≤ p → p < hi → I.K (A p) = I.K (A lo)) (he : hi = n ∨ I.K (A hi) ≠ I.K (A lo)) (hlh : lo < hi) :
    seg A lo (hi - lo) = occOf I n (I.K (A lo)) := by
  have hb2 := ginv_bnd hG hb h2 hs he hlh
  refine sorted_unique ?_ (occOf_sorted _ _ _) (fun x => ?_)
  · refine List.pairwise_iff_getElem.2 (fun i j hi' hj' hij => ?_)
    rw [seg_len] at hi' hj'
    simp only [seg, List.getElem_map, List.getElem_range]
    exact gd_same hG (by omega) (by omega) ((hs _ (by omega) (by omega)).trans (hs _ (by omega) (by omega)).symm)
  · rw [mem_seg, mem_occOf]
    constructor
    · rintro ⟨q, hq, rfl⟩
      exact ⟨gd_val hG (by omega), hs _ (by omega) (by omega)⟩
    · rintro ⟨hx, hk⟩
      obtain ⟨p, hp, rfl⟩ := gd_pos hG hx
      have c1 : lo ≤ p := by
        rcases Nat.lt_or_ge p lo with c | c
        · exact absurd hk (hb p lo c (Nat.le_refl _) (by omega))
        · exact c
      have c2 : p < hi := by
        rcases Nat.lt_or_ge p hi with c | c
        · exact c
        · exact absurd hk.symm (hb2 lo p (by omega) c hp)
      exact ⟨p - lo, by omega, by congr 1; omega⟩
theorem occ_leader {I : Inp} {n f : Nat} {κ : ByteArray} {xs : List Nat} (h : occOf I n κ = f :: xs) : Leader I f ∧ I.K f = κ ∧ f < n := by
  have hs := occOf_sorted I n κ
  have hm := mem_occOf.1 (show f ∈ occOf I n κ by rw [h]; exact List.mem_cons_self)
  rw [h, List.pairwise_cons] at hs
  refine ⟨fun x hx e => ?_, hm.2, hm.1⟩
  have hxm : x ∈ occOf I n κ := mem_occOf.2 ⟨by omega, by rw [e, hm.2]⟩
  rw [h] at hxm
  rcases List.mem_cons.1 hxm with q | q
  · omega
  · have := hs.1 x q; omega
def updI (f : Nat → Int) (j : Nat) (v : Int) (i : Nat) : Int := if i = j then v else f i
theorem GInv.step {I : Inp} {n : Nat} {A : Nat → Nat} {G : Nat → Int} {Hh : Nat → Nat} {lo hi : Nat} (h : GInv I n A G Hh lo) (hG : Gd I.K A 0 n) (h2 : hi ≤ n) (hs : ∀ p, lo ≤ p → p < hi → I.K (A p) = I.K (A lo)) (he : hi = n ∨ I.K (A hi) ≠ I.K (A lo)) (hlh : lo < hi) :
    GInv I n A (updI G (A lo) (lo : Int)) (upd Hh (A lo) hi) hi := by
  have hocc := ginv_occ hG h.bnd h2 hs he hlh
  refine ⟨ginv_bnd hG h.bnd h2 hs he hlh, fun f hf => ?_, fun p hp hL => ?_⟩
  · by_cases e : f = A lo
    · right
      subst e
      have hc : occOf I n (I.K (A lo)) = A lo :: seg A (lo + 1) (hi - (lo + 1)) := by rw [← hocc, seg_first hlh]
      refine ⟨lo, by simp [updI], by rw [upd_same]; omega, by rw [upd_same]; omega, by rw [upd_same]; exact hocc, (occ_leader hc).1⟩
    · simp only [updI, if_neg e]
      rw [upd_other _ _ e]
      exact h.set f hf
  · unfold updI
    by_cases e : A p = A lo
    · rw [if_pos e]; omega
    · rw [if_neg e]
      by_cases c : p < lo
      · exact h.done p c hL
      · exfalso
        have hpl : p ≠ lo := fun q => e (by rw [q])
        have h1 := gd_same hG (show lo < p by omega) (by omega) (hs p (by omega) hp).symm
        exact hL (A lo) h1 (hs p (by omega) hp).symm
theorem GInv.leader {I : Inp} {n : Nat} {A : Nat → Nat} {G : Nat → Int} {Hh : Nat → Nat} (h : GInv I n A G Hh n) (hG : Gd I.K A 0 n) {f : Nat} (hf : f < n) (hL : Leader I f) : ∃ l, G f = ((l : Nat) : Int) ∧ l < Hh f ∧ Hh f ≤ n ∧ seg A l (Hh f - l) = occOf I n (I.K f) := by
  obtain ⟨p, hp, rfl⟩ := gd_pos hG hf
  rcases h.set _ hf with q | ⟨l, q1, q2, q3, q4, _⟩
  · exact absurd q (h.done p hp hL)
  · exact ⟨l, q1, q2, q3, q4⟩
theorem GInv.other {I : Inp} {n : Nat} {A : Nat → Nat} {G : Nat → Int} {Hh : Nat → Nat} (h : GInv I n A G Hh n) {f : Nat} (hf : f < n) (hL : ¬ Leader I f) : G f = -1 := by
  rcases h.set _ hf with q | ⟨l, _, _, _, _, q⟩
  · exact q
  · exact absurd q hL

/-! ### the keys in the order of their first lines -/
theorem step_n (I : Inp) (rep : Bool) (s : St) (i : Nat) : (s.step I rep i).n = if s.place (I.K i) = none then s.n + 1 else s.n := by
  unfold St.step
  cases hp : s.place (I.K i) with
  | none => simp [St.new]
  | some j =>
    by_cases hO : I.O i = 1
    · simp [hO, St.app]
    · cases rep <;> simp [hO, St.set, St.bury]
theorem step_key (I : Inp) (rep : Bool) (s : St) (i : Nat) {j : Nat} (h : j < s.n) : (s.step I rep i).key j = s.key j := by
  unfold St.step
  cases hp : s.place (I.K i) with
  | none => simp only [St.new]; exact upd_other _ _ (by omega)
  | some j' =>
    by_cases hO : I.O i = 1
    · simp [hO, St.app]
    · cases rep <;> simp [hO, St.set, St.bury]
theorem stAt_mono (I : Inp) (rep : Bool) (f d : Nat) : (stAt I rep f).n ≤ (stAt I rep (f + d)).n ∧ ∀ j, j < (stAt I rep f).n → (stAt I rep (f + d)).key j = (stAt I rep f).key j := by
  induction d with
  | zero => exact ⟨Nat.le_refl _, fun _ _ => rfl⟩
  | succ d ih =>
    rw [show f + (d + 1) = (f + d) + 1 by omega, stAt, step_n]
    refine ⟨by split <;> omega, fun j hj => ?_⟩
    rw [step_key _ _ _ _ (by omega)]
    exact ih.2 j hj
theorem leader_none {I : Inp} {f : Nat} (h : Law I f (stAt I true f)) : (stAt I true f).place (I.K f) = none ↔ Leader I f := by
  constructor
  · intro q x hx e
    obtain ⟨j, hj, hk⟩ := h.all x hx
    have := (h.ok (I.K f) j).2 ⟨hj, by rw [hk, e]⟩
    rw [q] at this; cases this
  · intro hL
    cases hp : (stAt I true f).place (I.K f) with
    | none => rfl
    | some j =>
      exfalso
      obtain ⟨hj, hk⟩ := (h.ok (I.K f) j).1 hp
      have hocc := h.occ j hj
      have hne := h.mne j hj
      obtain ⟨x, hx⟩ := List.exists_mem_of_ne_nil _ hne
      have : x ∈ occOf I f ((stAt I true f).key j) := by rw [← hocc]; exact List.mem_append_right _ hx
      have hm := mem_occOf.1 this
      exact hL x hm.1 (by rw [hm.2, hk])
/-- At a first line: a new key; else none. -/
theorem own_leader {I : Inp} {N f : Nat} (hf : f < N) (hL : Leader I f) : (stAt I true (f + 1)).n = (stAt I true f).n + 1 ∧ (stAt I true f).n < (stAt I true N).n ∧ (stAt I true N).key (stAt I true f).n = I.K f := by
  have hp := (leader_none (stAt_law I f)).2 hL
  have h1 : (stAt I true (f + 1)).n = (stAt I true f).n + 1 := by rw [stAt, step_n, if_pos hp]
  have hm := stAt_mono I true (f + 1) (N - (f + 1))
  rw [show f + 1 + (N - (f + 1)) = N by omega] at hm
  refine ⟨h1, by omega, ?_⟩
  rw [hm.2 _ (by omega), stAt]
  unfold St.step
  rw [hp]
  exact upd_same _ _ _
theorem own_other {I : Inp} {f : Nat} (hL : ¬ Leader I f) : (stAt I true (f + 1)).n = (stAt I true f).n := by
  rw [stAt, step_n, if_neg (fun q => hL ((leader_none (stAt_law I f)).1 q))]

/-! ### the runs -/
def rsOf (s : St) (j : Nat) : List (List Nat) := s.early j ++ [s.made j]
structure RunsOk (I : Inp) (rs : List (List Nat)) : Prop where
  rest : ∀ r t, r < rs.length → 0 < t → t < (rs.getD r []).length → I.O ((rs.getD r []).getD t 0) = 1
  head : ∀ r, 0 < r → r < rs.length → I.O ((rs.getD r []).getD 0 0) ≠ 1
theorem getD_left {α : Type} {L M : List α} {i : Nat} {d : α} (h : i < L.length) : (L ++ M).getD i d = L.getD i d := by
  rw [List.getD_eq_getElem?_getD, List.getD_eq_getElem?_getD, List.getElem?_append_left h]
theorem getD_last {α : Type} {L : List α} {x d : α} : (L ++ [x]).getD L.length d = x := by
  rw [List.getD_eq_getElem?_getD, List.getElem?_append_right (Nat.le_refl _)]; simp
theorem RunsOk.one (I : Inp) (i : Nat) : RunsOk I [[i]] :=
  ⟨fun r t hr h0 ht => by
    have : r = 0 := by simp at hr; omega
    subst this
    simp at ht; omega, fun r h0 hr => by simp at hr; omega⟩
theorem RunsOk.app {I : Inp} {E : List (List Nat)} {L : List Nat} {i : Nat} (h : RunsOk I (E ++ [L])) (hne : L ≠ []) (hO : I.O i = 1) : RunsOk I (E ++ [L ++ [i]]) := by
  have hlen : (E ++ [L ++ [i]]).length = (E ++ [L]).length := by simp
  refine ⟨fun r t hr h0 ht => ?_, fun r h0 hr => ?_⟩
  · by_cases e : r < E.length
    · rw [getD_left e] at ht ⊢
      have := h.rest r t (by omega) h0 (by rw [getD_left e]; exact ht)
      rwa [getD_left e] at this
    · have hr' : r = E.length := by simp at hr; omega
      subst hr'
      rw [getD_last] at ht ⊢
      by_cases e2 : t < L.length
      · rw [getD_left e2]
        have := h.rest E.length t (by simp) h0 (by rw [getD_last]; exact e2)
        rwa [getD_last] at this
      · have : t = L.length := by simp at ht; omega
        subst this
        rw [getD_last]; exact hO
  · by_cases e : r < E.length
    · have := h.head r h0 (by omega)
      rw [getD_left e] at this ⊢
      exact this
    · have hr' : r = E.length := by simp at hr; omega
      subst hr'
      have := h.head E.length h0 (by simp)
      rw [getD_last] at this ⊢
      rw [getD_left (List.length_pos_iff.2 hne)]
      exact this
theorem RunsOk.more {I : Inp} {rs : List (List Nat)} {i : Nat} (h : RunsOk I rs) (hO : I.O i ≠ 1) : RunsOk I (rs ++ [[i]]) := by
  refine ⟨fun r t hr h0 ht => ?_, fun r h0 hr => ?_⟩
  · by_cases e : r < rs.length
    · rw [getD_left e] at ht ⊢
      exact h.rest r t e h0 ht
    · have hr' : r = rs.length := by simp at hr; omega
      subst hr'
      rw [getD_last] at ht
      simp at ht; omega
  · by_cases e : r < rs.length
    · rw [getD_left e]
      exact h.head r h0 e
    · have hr' : r = rs.length := by simp at hr; omega
      subst hr'
      rw [getD_last]
      exact hO
def hasE (E : List (List Nat)) : Nat := if E = [] then 0 else 1
structure Law2 (I : Inp) (s : St) : Prop where
  runs : ∀ j, j < s.n → RunsOk I (rsOf s j)
  cnt : psum (fun j => hasE (s.early j)) s.n = s.cnt
theorem law2_step {I : Inp} {i : Nat} {s : St} (hl : Law I i s) (h : Law2 I s) : Law2 I (s.step I true i) := by
  unfold St.step
  cases hp : s.place (I.K i) with
  | none =>
    refine ⟨fun j hj => ?_, ?_⟩
    · have hj' : j < s.n + 1 := hj
      by_cases e : j = s.n
      · subst e
        simp only [rsOf, St.new, upd_same, List.nil_append]
        exact RunsOk.one _ _
      · simp only [rsOf, St.new, upd_other _ _ e]
        exact h.runs j (by omega)
    · show psum _ (s.n + 1) = s.cnt
      rw [psum, ← h.cnt]
      have e1 : (s.new (I.K i) i).early s.n = [] := upd_same _ _ _
      have e2 : ∀ j, j < s.n → (s.new (I.K i) i).early j = s.early j := fun j hj => upd_other _ _ (by omega)
      show psum (fun j => hasE ((s.new (I.K i) i).early j)) s.n + hasE ((s.new (I.K i) i).early s.n) = _
      rw [e1, psum_congr (g := fun j => hasE (s.early j)) (fun j hj => by rw [e2 j hj])]
      rfl
  | some j0 =>
    obtain ⟨hj0, hk0⟩ := (hl.ok (I.K i) j0).1 hp
    dsimp only
    by_cases hO : I.O i = 1
    · rw [if_pos hO]
      refine ⟨fun j hj => ?_, h.cnt⟩
      by_cases e : j = j0
      · subst e
        simp only [rsOf, St.app, upd_same]
        exact (h.runs j hj).app (hl.mne j hj) hO
      · simp only [rsOf, St.app, upd_other _ _ e]
        exact h.runs j hj
    · rw [if_neg hO, if_pos rfl]
      refine ⟨fun j hj => ?_, ?_⟩
      · by_cases e : j = j0
        · subst e
          simp only [rsOf, St.set, St.bury, upd_same]
          exact (h.runs j hj).more hO
        · simp only [rsOf, St.set, St.bury, upd_other _ _ e]
          exact h.runs j hj
      · show psum _ s.n = s.cnt + if s.early j0 = [] then 1 else 0
        rw [← h.cnt]
        by_cases e : s.early j0 = []
        · rw [if_pos e]
          refine psum_bump hj0 (fun j hj hne => ?_) ?_
          · simp only [St.set, St.bury, upd_other _ _ hne]
          · simp [St.set, St.bury, upd_same, e, hasE]
        · rw [if_neg e, Nat.add_zero]
          refine psum_congr (fun j hj => ?_)
          by_cases e2 : j = j0
          · subst e2
            simp [St.set, St.bury, upd_same, e, hasE]
          · simp only [St.set, St.bury, upd_other _ _ e2]
theorem stAt_law2 (I : Inp) (i : Nat) : Law2 I (stAt I true i) := by
  induction i with
  | zero => exact ⟨fun j hj => absurd hj (Nat.not_lt_zero _), rfl⟩
  | succ i ih => exact law2_step (stAt_law I i) ih

/-! ### where a run begins -/
def offR (rs : List (List Nat)) (r : Nat) : Nat := (rs.take r).flatten.length
theorem offR_zero (rs : List (List Nat)) : offR rs 0 = 0 := rfl
theorem offR_succ {rs : List (List Nat)} {r : Nat} (h : r < rs.length) : offR rs (r + 1) = offR rs r + (rs.getD r []).length := by
  unfold offR
  rw [List.take_succ_eq_append_getElem h, List.flatten_append, List.length_append, List.getD_eq_getElem?_getD, List.getElem?_eq_getElem h]
  simp
theorem offR_all (rs : List (List Nat)) : offR rs rs.length = rs.flatten.length := by rw [offR, List.take_length]
theorem offR_le {rs : List (List Nat)} {r : Nat} (h : r ≤ rs.length) : offR rs r ≤ rs.flatten.length := by
  unfold offR
  conv => rhs; rw [← List.take_append_drop r rs, List.flatten_append, List.length_append]
  omega
theorem offR_get {rs : List (List Nat)} {r t : Nat} (h : r < rs.length) (ht : t < (rs.getD r []).length) : rs.flatten.getD (offR rs r + t) 0 = (rs.getD r []).getD t 0 := by
  have e : rs.getD r [] = rs[r] := by rw [List.getD_eq_getElem?_getD, List.getElem?_eq_getElem h]; rfl
  rw [e] at ht ⊢
  have key : rs.flatten = (rs.take r).flatten ++ (rs[r] ++ (rs.drop (r + 1)).flatten) := by
    rw [← List.flatten_cons, ← List.drop_eq_getElem_cons h, ← List.flatten_append, List.take_append_drop]
  unfold offR
  rw [key, List.getD_eq_getElem?_getD, List.getElem?_append_right (by omega), Nat.add_sub_cancel_left, List.getElem?_append_left ht, ← List.getD_eq_getElem?_getD]
end Go.Proofs.Qxb6600323a
