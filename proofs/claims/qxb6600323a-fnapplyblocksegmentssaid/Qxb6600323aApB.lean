import Derived.Test.Qxb6600323aApA
namespace Go.Proofs.Qxb6600323a
open Go.RowKit
set_option linter.unusedVariables false

/-! ### blocks and their types -/
def IsRow (w : World) (b t : Nat) : Prop := ∃ cs, w.heap[b]? = some (.cells cs t (0, 0))
theorem IsRow.ne {w : World} {b b' t t' : Nat} (h : IsRow w b t) (h' : IsRow w b' t') (ht : t ≠ t') : b ≠ b' := by
  rintro rfl
  obtain ⟨c, h1⟩ := h
  obtain ⟨c', h2⟩ := h'
  rw [h1] at h2
  simp at h2
  exact ht h2.2
theorem row_isRow {w : World} {b t n : Nat} {f : Nat → Value} (h : w.rowIs b t n f) : IsRow w b t := ⟨h.choose, h.choose_spec.1⟩
theorem own_isRow {w : World} {base t size n b : Nat} {v : Value} {xs : List Value} (h : w.ownsRow base t size v n xs) (hb : v.ownBlock = some b) : IsRow w b t := by
  rcases h.2 with ⟨rfl, _⟩ | ⟨g, cap, cur, rfl, _, hg, _⟩
  · cases hb
  · cases hb
    exact ⟨cur, hg⟩
theorem Run.isRow {I : Inp} {w : World} {v : Value} {L : List Nat} {b : Nat} (h : Run I w v L) (hb : v.ownBlock = some b) : IsRow w b 71 := by
  obtain ⟨b', off, cap, cs, rfl, h1, h2, r⟩ := h
  cases hb
  exact ⟨cs, h2⟩
theorem MapIs.notRow {κ : Type} {key : κ → Value} {w : World} {m c b t : Nat} {g : κ → Option Value} (h : MapIs key w m g c) (h' : IsRow w b t) : m ≠ b := by
  rintro rfl
  obtain ⟨es, cl, h1, _⟩ := h
  obtain ⟨cs, h2⟩ := h'
  rw [h1] at h2
  simp at h2
theorem rowIs_kept {w w' : World} {b t n : Nat} {f : Nat → Value} {row : Option Nat} (h : w.rowIs b t n f) (hg : w.grownBy w' row) (hne : some b ≠ row) : w'.rowIs b t n f := h.of_block (hg.block _ h.lt hne)
theorem MapIs.kept {κ : Type} {key : κ → Value} {w w' : World} {m c : Nat} {g : κ → Option Value} {row : Option Nat} (h : MapIs key w m g c) (hg : w.grownBy w' row) (hne : some m ≠ row) : MapIs key w' m g c := h.of_block (hg.block _ h.lt hne)
theorem own_kept {w w' : World} {base t size n : Nat} {v : Value} {xs : List Value} {row : Option Nat} (h : w.ownsRow base t size v n xs) (hg : w.grownBy w' row) (hne : ∀ b, v.ownBlock = some b → some b ≠ row) : w'.ownsRow base t size v n xs := by
  refine h.kept hg ?_
  cases hv : v.ownBlock with
  | none => exact .inl rfl
  | some b => exact .inr (hne b hv)
theorem IsRow.kept {w w' : World} {b t : Nat} {row : Option Nat} (h : IsRow w b t) (hg : w.grownBy w' row) (hne : some b ≠ row) : IsRow w' b t := by
  obtain ⟨cs, h1⟩ := h
  exact ⟨cs, (hg.block _ (Array.getElem?_eq_some_iff.1 h1).1 hne).trans h1⟩
theorem grown_drew (w : World) : w.grownBy w.drew none := ⟨rfl, rfl, rfl, Nat.le_refl _, fun _ _ _ => rfl⟩
theorem grown_set (w : World) (b i : Nat) (v : Value) : w.grownBy (w.setCell ⟨b, i, none⟩ v) (some b) :=
  ⟨rfl, rfl, rfl, by simp [World.setCell], fun k _ hk => Below.heap_setCell _ _ _ _ (fun e => hk (by simp [e]))⟩

/-! ### the section, its own keys and its places -/
def secC (ov em : Value) (i : Nat) : Value := if i = 2 then ov else if i = 3 then em else if i < 2 then .slice none 0 0 else if i = 4 then .int .i64 0 else .bool false
def ownL (key : Nat → ByteArray) (M : Nat → Value) : Nat → List Value
  | 0 => []
  | n + 1 => ownL key M n ++ [.string (key n), M n]
theorem ownL_len (key : Nat → ByteArray) (M : Nat → Value) (n : Nat) : (ownL key M n).length = n * 2 := by
  induction n with
  | zero => rfl
  | succ n ih => simp [ownL, ih]; omega
theorem ownL_congr {key key' : Nat → ByteArray} {M M' : Nat → Value} {n : Nat} (h1 : ∀ j, j < n → key j = key' j) (h2 : ∀ j, j < n → M j = M' j) : ownL key M n = ownL key' M' n := by
  induction n with
  | zero => rfl
  | succ n ih => simp only [ownL]; rw [ih (fun j hj => h1 j (by omega)) (fun j hj => h2 j (by omega)), h1 n (by omega), h2 n (by omega)]
theorem ownL_0 (key : Nat → ByteArray) (M : Nat → Value) {n j : Nat} (h : j < n) : (ownL key M n)[j * 2]? = some (.string (key j)) := by
  induction n with
  | zero => omega
  | succ n ih =>
    by_cases e : j = n
    · subst e
      rw [ownL, List.getElem?_append_right (by rw [ownL_len]; omega), ownL_len, Nat.sub_self]; rfl
    · rw [ownL, List.getElem?_append_left (by rw [ownL_len]; omega)]
      exact ih (by omega)
theorem ownL_1 (key : Nat → ByteArray) (M : Nat → Value) {n j : Nat} (h : j < n) : (ownL key M n)[j * 2 + 1]? = some (M j) := by
  induction n with
  | zero => omega
  | succ n ih =>
    by_cases e : j = n
    · subst e
      rw [ownL, List.getElem?_append_right (by rw [ownL_len]; omega), ownL_len, show j * 2 + 1 - j * 2 = 1 by omega]; rfl
    · rw [ownL, List.getElem?_append_left (by rw [ownL_len]; omega)]
      exact ih (by omega)
theorem ownL_set (key : Nat → ByteArray) (M : Nat → Value) {n j : Nat} (h : j < n) (v : Value) : (ownL key M n).set (j * 2 + 1) v = ownL key (upd M j v) n := by
  induction n with
  | zero => omega
  | succ n ih =>
    by_cases e : j = n
    · subst e
      rw [ownL, List.set_append_right _ _ (by rw [ownL_len]; omega), ownL_len, show j * 2 + 1 - j * 2 = 1 by omega, ownL]
      congr 1
      · exact ownL_congr (fun _ _ => rfl) (fun i hi => (upd_other _ _ (by omega)).symm)
      · simp [upd_same]
    · rw [ownL, List.set_append_left _ _ (by rw [ownL_len]; omega), ih (by omega), ownL, upd_other _ _ (Ne.symm e)]
def eL (f : Nat → Value) (n : Nat) : List Value := (List.range n).map f

structure ABs (w0 : World) (N : Nat) (w : World) (SB PM : Nat) (s : St) (ov : Value) (em : Option Nat) (M Eo : Nat → Value) (E : Nat → Nat → Value) : Prop where
  ok : s.Ok
  bel : Below N w0 w
  loS : N ≤ SB
  loP : N ≤ PM
  loE : ∀ m, em = some m → N ≤ m
  sec : w.rowIs SB 65 6 (secC ov (.map em))
  own : w.ownsRow N 74 2 ov s.n (ownL s.key M s.n)
  place : MapIs strKey w PM (fun k => (s.place k).map fun j : Nat => Value.int .i64 (j : Int)) s.n
  noE : em = .none → s.cnt = 0 ∧ ∀ j, j < s.n → s.early j = []
  ne : ∀ m, em = some m → m ≠ PM
  map : ∀ m, em = some m → MapIs strKey w m (fun k => (s.place k).bind fun j => if s.early j = [] then .none else some (Eo j)) s.cnt
  rows : ∀ j, j < s.n → s.early j ≠ [] → w.ownsRow N 67 1 (Eo j) (s.early j).length (eL (E j) (s.early j).length)
  apart : ∀ j j', j < s.n → j' < s.n → j' ≠ j → s.early j ≠ [] → s.early j' ≠ [] → (Eo j').ownBlock ≠ (Eo j).ownBlock

structure ABr (N : Nat) (I : Inp) (w : World) (sb base len : Nat) (s : St) (M : Nat → Value) (E : Nat → Nat → Value) : Prop where
  set : Run I w (.slice (some ⟨sb, 0, none⟩) len len) (List.range' base len)
  runM : ∀ j, j < s.n → Run I w (M j) (s.made j)
  runE : ∀ j r L, j < s.n → (s.early j)[r]? = some L → Run I w (E j r) L
  alone : ∀ j, j < s.n → Grow (M j) → (M j).ownBlock ≠ some sb ∧ (∀ j', j' < s.n → j' ≠ j → (M j').ownBlock ≠ (M j).ownBlock) ∧ (∀ j' r L, j' < s.n → (s.early j')[r]? = some L → (E j' r).ownBlock ≠ (M j).ownBlock) ∧ ∀ k, (M j).ownBlock = some k → N ≤ k

section
variable {w0 : World} {N : Nat} {I : Inp} {w w' : World} {SB PM sb base len : Nat} {s : St} {ov : Value} {em : Option Nat} {M Eo : Nat → Value} {E : Nat → Nat → Value}

theorem ABs.loN (h : ABs w0 N w SB PM s ov em M Eo E) : N ≤ w.heap.size := by
  have := h.sec.lt
  have := h.loS
  omega
theorem ABs.kept (h : ABs w0 N w SB PM s ov em M Eo E) {row : Option Nat} (hg : w.grownBy w' row) (hr : ∀ k, row = some k → IsRow w k 71 ∧ N ≤ k) : ABs w0 N w' SB PM s ov em M Eo E := by
  have hne : ∀ {b t}, IsRow w b t → t ≠ 71 → some b ≠ row := fun hb ht e => (hb.ne (hr _ e.symm).1 ht) rfl
  have hnm : ∀ {m c g}, MapIs strKey w m g c → some m ≠ row := fun hm e => (hm.notRow (hr _ e.symm).1) rfl
  exact ⟨h.ok, h.bel.grown hg h.loN (fun k e => (hr k e).2), h.loS, h.loP, h.loE, rowIs_kept h.sec hg (hne (row_isRow h.sec) (by decide)), own_kept h.own hg (fun b hb => hne (own_isRow h.own hb) (by decide)), h.place.kept hg (hnm h.place), h.noE, h.ne,
    fun m hm => (h.map m hm).kept hg (hnm (h.map m hm)), fun j hj hn => own_kept (h.rows j hj hn) hg (fun b hb => hne (own_isRow (h.rows j hj hn) hb) (by decide)), h.apart⟩
theorem ABs.fresh (h : ABs w0 N w SB PM s ov em M Eo E) (hg : w.grownBy w' .none) : ABs w0 N w' SB PM s ov em M Eo E := h.kept hg (fun k e => by cases e)
theorem ABr.kept (h : ABr N I w sb base len s M E) {row : Option Nat} (hg : w.grownBy w' row) (hr : ∀ k, row = some k → ¬ IsRow w k 71) : ABr N I w' sb base len s M E := by
  have hne : ∀ {v L}, Run I w v L → v.ownBlock ≠ row := by
    intro v L hv e
    obtain ⟨b, hb, _⟩ := hv.lt
    exact hr b (e.symm.trans hb) (hv.isRow hb)
  exact ⟨h.set.kept hg (hne h.set), fun j hj => (h.runM j hj).kept hg (hne (h.runM j hj)), fun j r L hj hL => (h.runE j r L hj hL).kept hg (hne (h.runE j r L hj hL)), h.alone⟩
theorem ABr.fresh (h : ABr N I w sb base len s M E) (hg : w.grownBy w' .none) : ABr N I w' sb base len s M E := h.kept hg (fun k e => by cases e)

/-- The view of one line. -/
theorem ABr.view (h : ABr N I w sb base len s M E) {p : Nat} (hp : p < len) : Run I w (.slice (some ⟨sb, p * 9, none⟩) 1 1) [base + p] := by
  obtain ⟨b, off, cap, cs, e, h1, h2, h3, _⟩ := h.set
  simp at e
  obtain ⟨⟨rfl, rfl⟩, e1⟩ := e
  refine ⟨sb, p * 9, 1, cs, rfl, Nat.le_refl _, h2, ?_, .inl rfl⟩
  intro j u hj
  have hj9 : j < 9 := by
    have := (List.getElem?_eq_some_iff.1 hj).1
    simpa [asgL, asg] using this
  have := h3 (p * 9 + j) u (by rw [asgL_get I _ p (base + p) j (by simp [hp]) hj9]; simpa [asgL] using hj)
  simpa using this

/-- A store into the own row. -/
theorem ABs.store (h : ABs w0 N w SB PM s ov em M Eo E) {ob cap j : Nat} (ho : ov = .slice (some ⟨ob, 0, none⟩) s.n cap) (hj : j < s.n) (v : Value) :
    ABs w0 N (w.setCell ⟨ob, j * 2 + 1, none⟩ v) SB PM s ov em (upd M j v) Eo E := by
  have hg := grown_set w ob (j * 2 + 1) v
  have hrow : IsRow w ob 74 := own_isRow h.own (by rw [ho]; rfl)
  have hne : ∀ {b t}, IsRow w b t → t ≠ 74 → some b ≠ some ob := fun hb ht e => (hb.ne hrow ht) (by simpa using e)
  have hnm : ∀ {m c g}, MapIs strKey w m g c → some m ≠ some ob := fun hm e => (hm.notRow hrow) (by simpa using e)
  refine ⟨h.ok, h.bel.grown hg h.loN (fun k e => by cases e; exact (h.own.lt ob (by rw [ho]; rfl)).1), h.loS, h.loP, h.loE, rowIs_kept h.sec hg (hne (row_isRow h.sec) (by decide)), ?_, h.place.kept hg (hnm h.place), h.noE, h.ne,
    fun m hm => (h.map m hm).kept hg (hnm (h.map m hm)), fun j hj hn => own_kept (h.rows j hj hn) hg (fun b hb => hne (own_isRow (h.rows j hj hn) hb) (by decide)), h.apart⟩
  have h0 := h.own
  rw [ho] at h0 ⊢
  rw [← ownL_set _ _ hj]
  exact (h0.stored _ _).1
theorem ABs.obRow (h : ABs w0 N w SB PM s ov em M Eo E) {ob cap : Nat} (ho : ov = .slice (some ⟨ob, 0, none⟩) s.n cap) : IsRow w ob 74 := own_isRow h.own (by rw [ho]; rfl)

/-- Case A: one more line for key j. -/
theorem AB_app {i ob cap j : Nat} (hs : ABs w0 N w SB PM s ov em M Eo E) (hr : ABr N I w sb base len s M E) (ho : ov = .slice (some ⟨ob, 0, none⟩) s.n cap) (hj : j < s.n) {v : Value} {row : Option Nat} (hrun : Run I w' v (s.made j ++ [i]))
    (hg : w.grownBy w' row) (h1 : row = .none ∨ (Grow (M j) ∧ row = (M j).ownBlock)) {k : Nat} (hk : v.ownBlock = some k) (h2 : w.heap.size ≤ k ∨ (Grow (M j) ∧ (M j).ownBlock = some k)) :
    ABs w0 N (w'.setCell ⟨ob, j * 2 + 1, none⟩ v) SB PM (s.app j i) ov em (upd M j v) Eo E ∧ ABr N I (w'.setCell ⟨ob, j * 2 + 1, none⟩ v) sb base len (s.app j i) (upd M j v) E := by
  have hs' : ABs w0 N w' SB PM s ov em M Eo E := hs.kept hg (fun k e => by
    rcases h1 with rfl | ⟨q, rfl⟩
    · cases e
    · exact ⟨(hr.runM j hj).isRow e, (hr.alone j hj ‹_›).2.2.2 k e⟩)
  have hg2 := grown_set w' ob (j * 2 + 1) v
  have hrow := hs'.obRow ho
  have hne : ∀ {v L}, Run I w' v L → v.ownBlock ≠ some ob := by
    intro v L hv e
    exact ((hv.isRow e).ne hrow (by decide)) rfl
  -- the old runs, apart from key j's
  have keep : ∀ {u L}, Run I w u L → (Grow (M j) → u.ownBlock ≠ (M j).ownBlock) → Run I (w'.setCell ⟨ob, j * 2 + 1, none⟩ v) u L := by
    intro u L hu hd
    have : Run I w' u L := hu.kept hg (by
      rcases h1 with rfl | ⟨q, rfl⟩
      · obtain ⟨b, hb, _⟩ := hu.lt
        rw [hb]; simp
      · exact hd q)
    exact this.kept hg2 (hne this)
  refine ⟨⟨hs'.ok, (hs'.store ho hj v).bel, hs'.loS, hs'.loP, hs'.loE, (hs'.store ho hj v).sec, (hs'.store ho hj v).own, (hs'.store ho hj v).place, (hs'.store ho hj v).noE, hs'.ne, (hs'.store ho hj v).map, (hs'.store ho hj v).rows, (hs'.store ho hj v).apart⟩, ?_, ?_, ?_, ?_⟩
  · exact keep hr.set (fun q e => (hr.alone j hj q).1 e.symm)
  · intro j' hj'
    by_cases e : j' = j
    · subst e
      simp only [St.app, upd_same]
      exact hrun.kept hg2 (hne hrun)
    · simp only [St.app, upd_other _ _ e]
      exact keep (hr.runM j' hj') (fun q => (hr.alone j hj q).2.1 j' hj' e)
  · intro j' r L hj' hL
    exact keep (hr.runE j' r L hj' hL) (fun q => (hr.alone j hj q).2.2.1 j' r L hj' hL)
  · intro j' hj' hgr
    have hlt : ∀ {u L}, Run I w u L → (Grow (M j) → u.ownBlock ≠ (M j).ownBlock) → u.ownBlock ≠ some k := by
      intro u L hu hd e
      obtain ⟨b, hb, hlt⟩ := hu.lt
      rcases h2 with h2 | ⟨q, h2⟩
      · rw [hb] at e; cases e; omega
      · exact hd q (e.trans h2.symm)
    by_cases e : j' = j
    · subst e
      rw [upd_same, hk]
      refine ⟨fun e => hlt hr.set (fun q e => (hr.alone j' hj q).1 e.symm) e.symm, fun j2 hj2 hne2 => ?_, fun j2 r L hj2 hL => ?_, fun k' e => ?_⟩
      · rw [upd_other _ _ hne2]
        exact hlt (hr.runM j2 hj2) (fun q => (hr.alone j' hj q).2.1 j2 hj2 hne2)
      · exact hlt (hr.runE j2 r L hj2 hL) (fun q => (hr.alone j' hj q).2.2.1 j2 r L hj2 hL)
      · cases e
        rcases h2 with h2 | ⟨q, h2⟩
        · exact Nat.le_trans hs.loN h2
        · exact (hr.alone j' hj q).2.2.2 k h2
    · rw [upd_other _ _ e] at hgr ⊢
      obtain ⟨a1, a2, a3⟩ := hr.alone j' hj' hgr
      refine ⟨a1, fun j2 hj2 hne2 => ?_, a3⟩
      by_cases e2 : j2 = j
      · subst e2
        rw [upd_same, hk]
        intro q
        exact hlt (hr.runM j' hj') (fun qq => (hr.alone j2 hj qq).2.1 j' hj' e) q.symm
      · rw [upd_other _ _ e2]
        exact a2 j2 hj2 hne2

/-- Case D, and the last step of case C: key j's value starts anew. -/
theorem AB_set {ob cap j p : Nat} (hs : ABs w0 N w SB PM s ov em M Eo E) (hr : ABr N I w sb base len s M E) (ho : ov = .slice (some ⟨ob, 0, none⟩) s.n cap) (hj : j < s.n) (hp : p < len) :
    ABs w0 N (w.setCell ⟨ob, j * 2 + 1, none⟩ (.slice (some ⟨sb, p * 9, none⟩) 1 1)) SB PM (s.set j (base + p)) ov em (upd M j (.slice (some ⟨sb, p * 9, none⟩) 1 1)) Eo E ∧
      ABr N I (w.setCell ⟨ob, j * 2 + 1, none⟩ (.slice (some ⟨sb, p * 9, none⟩) 1 1)) sb base len (s.set j (base + p)) (upd M j (.slice (some ⟨sb, p * 9, none⟩) 1 1)) E := by
  have hst := hs.store ho hj (.slice (some ⟨sb, p * 9, none⟩) 1 1)
  have hrow := hs.obRow ho
  have hr2 : ABr N I (w.setCell ⟨ob, j * 2 + 1, none⟩ (.slice (some ⟨sb, p * 9, none⟩) 1 1)) sb base len s M E := hr.kept (grown_set w ob (j * 2 + 1) _) (fun k e q => by cases e; exact (q.ne hrow (by decide)) rfl)
  refine ⟨⟨hst.ok, hst.bel, hst.loS, hst.loP, hst.loE, hst.sec, hst.own, hst.place, hst.noE, hst.ne, hst.map, hst.rows, hst.apart⟩, hr2.set, ?_, hr2.runE, ?_⟩
  · intro j' hj'
    by_cases e : j' = j
    · subst e
      simp only [St.set, upd_same]
      exact hr2.view hp
    · simp only [St.set, upd_other _ _ e]
      exact hr2.runM j' hj'
  · intro j' hj' hgr
    by_cases e : j' = j
    · subst e
      rw [upd_same] at hgr
      obtain ⟨a, n, c, q, hne⟩ := hgr
      simp at q
      omega
    · rw [upd_other _ _ e] at hgr ⊢
      obtain ⟨a1, a2, a3⟩ := hr.alone j' hj' hgr
      refine ⟨a1, fun j2 hj2 hne2 => ?_, a3⟩
      by_cases e2 : j2 = j
      · subst e2
        rw [upd_same]
        intro q
        exact a1 q.symm
      · rw [upd_other _ _ e2]
        exact a2 j2 hj2 hne2
end
end Go.Proofs.Qxb6600323a
