import Derived.Test.Qxb6600323aApB
namespace Go.Proofs.Qxb6600323a
open Go.RowKit
set_option linter.unusedVariables false

theorem sec_size (w : World) (a : Addr) (v : Value) : (w.setCell a v).heap.size = w.heap.size := by simp [World.setCell]
theorem eL_add (f : Nat → Value) (n : Nat) (v : Value) : eL f n ++ [v] = eL (upd f n v) (n + 1) := by
  unfold eL
  rw [List.range_succ, List.map_append]
  congr 1
  · apply List.map_congr_left
    intro i hi
    rw [upd_other]
    have : i < n := by simpa using hi
    omega
  · simp [upd_same]
theorem ownL_new (key : Nat → ByteArray) (M : Nat → Value) (n : Nat) (k : ByteArray) (v : Value) : ownL (upd key n k) (upd M n v) (n + 1) = ownL key M n ++ [.string k, v] := by
  rw [ownL, upd_same, upd_same]
  congr 1
  exact ownL_congr (fun j hj => upd_other _ _ (by omega)) (fun j hj => upd_other _ _ (by omega))
theorem St.new_ok {s : St} (h : s.Ok) {k : ByteArray} (hk : s.place k = none) (i : Nat) : (s.new k i).Ok := by
  intro k' j
  simp only [St.new]
  by_cases e : k' = k
  · subst e
    rw [if_pos rfl]
    constructor
    · intro q
      cases q
      exact ⟨by omega, upd_same _ _ _⟩
    · rintro ⟨q1, q2⟩
      by_cases e2 : j = s.n
      · rw [e2]
      · rw [upd_other _ _ e2] at q2
        have := (h k' j).2 ⟨by omega, q2⟩
        rw [hk] at this
        cases this
  · rw [if_neg e, h k' j]
    constructor
    · rintro ⟨q1, q2⟩
      exact ⟨by omega, by rw [upd_other _ _ (by omega)]; exact q2⟩
    · rintro ⟨q1, q2⟩
      by_cases e2 : j = s.n
      · subst e2
        rw [upd_same] at q2
        exact absurd q2.symm e
      · rw [upd_other _ _ e2] at q2
        exact ⟨by omega, q2⟩

section
variable {w0 : World} {N : Nat} {I : Inp} {w w1 w2 w' : World} {SB PM sb base len : Nat} {s : St} {ov : Value} {em : Option Nat} {M Eo : Nat → Value} {E : Nat → Nat → Value}

/-- The map of earlier values is made. -/
theorem AB_mk (hs : ABs w0 N w SB PM s ov none M Eo E) (hr : ABr N I w sb base len s M E) :
    ABs w0 N ((w.setCell ⟨SB, 3, none⟩ (.map (some w.heap.size))).alloc (.map #[] 0)) SB PM s ov (some w.heap.size) M Eo E ∧ ABr N I ((w.setCell ⟨SB, 3, none⟩ (.map (some w.heap.size))).alloc (.map #[] 0)) sb base len s M E := by
  have hrow := row_isRow hs.sec
  have hg : w.grownBy ((w.setCell ⟨SB, 3, none⟩ (.map (some w.heap.size))).alloc (.map #[] 0)) (some SB) := (grown_set w SB 3 _).trans (World.grownBy_alloc _ _ _)
  obtain ⟨hc, he⟩ := hs.noE rfl
  refine ⟨⟨hs.ok, hs.bel.grown hg hs.loN (fun k e => by cases e; exact hs.loS), hs.loS, hs.loP, (fun m e => by cases e; exact hs.loN), ?_, own_kept hs.own hg (fun b hb e => ((own_isRow hs.own hb).ne hrow (by decide)) (by simpa using e)), hs.place.kept hg (fun e => (hs.place.notRow hrow) (by simpa using e)), (fun q => by cases q), ?_, ?_, ?_, ?_⟩, hr.kept hg (fun k e q => by cases e; exact (q.ne hrow (by decide)) rfl)⟩
  · refine ((hs.sec.set 3 _).congr ?_).alloc _
    intro i hi
    unfold secC
    by_cases e : i = 3 <;> simp [e]
  · intro m hm
    cases hm
    have := hs.place.lt
    omega
  · intro m hm
    cases hm
    have := MapIs.made (key := strKey) (w.setCell ⟨SB, 3, none⟩ (.map (some w.heap.size)))
    rw [sec_size] at this
    rw [hc]
    refine this.congr ?_
    intro k
    cases hk : s.place k with
    | none => rfl
    | some j => simp [he j ((hs.ok k j).1 hk).1]
  · intro j hj hn
    exact absurd (he j hj) hn
  · intro j j' hj _ _ hn
    exact absurd (he j hj) hn

/-- Case B: a new key. -/
theorem AB_new (hs : ABs w0 N w SB PM s ov em M Eo E) (hr : ABr N I w sb base len s M E) {p : Nat} {k : ByteArray} (hk : s.place k = none) (hp : p < len)
    (hg1 : w.grownBy w1 (some PM)) (hm : MapIs strKey w1 PM (fun k' => ((s.new k (base + p)).place k').map fun j : Nat => Value.int .i64 (j : Int)) (s.n + 1)) (hg2 : w1.grownBy w2 none) (ty : TypeId) (ad c : Nat)
    (hone : ∀ j u, [Value.string k, .slice (some ⟨sb, p * 9, none⟩) 1 1][j]? = some u → w2.cell? ((⟨ad, 0, none⟩ : Addr).add j) = some u) (hn : s.n + 1 ≤ 1048576) :
    ∃ a' c' w3, (Builtin.append_ #[62, 62] ty #[ov, .slice (some ⟨ad, 0, none⟩) 1 c]).run Try.prog w2 = .ok (.slice a' ((s.n + 1 : Nat) : Int).toNat c') w3 ∧ w3.rowIs SB 65 6 (secC ov (.map em)) ∧
      ABs w0 N (w3.setCell ⟨SB, 2, none⟩ (.slice a' (s.n + 1) c')) SB PM (s.new k (base + p)) (.slice a' (s.n + 1) c') em (upd M s.n (.slice (some ⟨sb, p * 9, none⟩) 1 1)) Eo E ∧
      ABr N I (w3.setCell ⟨SB, 2, none⟩ (.slice a' (s.n + 1) c')) sb base len (s.new k (base + p)) (upd M s.n (.slice (some ⟨sb, p * 9, none⟩) 1 1)) E := by
  obtain ⟨i0, hi, hz, hsz, hb⟩ := info_parts Try.info74
  have nePM : ∀ {b t}, IsRow w b t → some b ≠ some PM := fun hb e => (hs.place.notRow hb) (by simpa using e.symm)
  -- everything but the places stands at w2
  have hown2 : w2.ownsRow N 74 2 ov s.n (ownL s.key M s.n) := own_kept (own_kept hs.own hg1 (fun b hb => nePM (own_isRow hs.own hb))) hg2 (fun b _ => by simp)
  have hsec2 : w2.rowIs SB 65 6 (secC ov (.map em)) := rowIs_kept (rowIs_kept hs.sec hg1 (nePM (row_isRow hs.sec))) hg2 (by simp)
  have hpl2 := hm.kept hg2 (by simp)
  have hmap2 : ∀ m, em = some m → MapIs strKey w2 m (fun k => (s.place k).bind fun j => if s.early j = [] then .none else some (Eo j)) s.cnt := fun m hm => ((hs.map m hm).kept hg1 (fun e => hs.ne m hm (by simpa using e))).kept hg2 (by simp)
  have hrows2 : ∀ j, j < s.n → s.early j ≠ [] → w2.ownsRow N 67 1 (Eo j) (s.early j).length (eL (E j) (s.early j).length) := fun j hj hn => own_kept (own_kept (hs.rows j hj hn) hg1 (fun b hb => nePM (own_isRow (hs.rows j hj hn) hb))) hg2 (fun b _ => by simp)
  have hr2 : ABr N I w2 sb base len s M E := (hr.kept hg1 (fun k e q => by cases e; exact (hs.place.notRow q) rfl)).fresh hg2
  obtain ⟨ov', w3, hrun, r1, r2, _, _⟩ := run_append_own_at (P := Try.prog) w2 N 62 ty 74 i0 _ 2 40 Try.underlying62 hi hz hsz hb rfl (by decide) ov s.n _ hown2 ⟨ad, 0, none⟩ 1 c [Value.string k, .slice (some ⟨sb, p * 9, none⟩) 1 1] rfl hone (by intro u hu; simp at hu; rcases hu with rfl | rfl <;> rfl) (by unfold maxLen; omega) (by omega) (Nat.le_trans hs.loN (Nat.le_trans hg1.size hg2.size))
  have hv : ∃ a' c', ov' = .slice a' (s.n + 1) c' := by
    rcases r1.2 with ⟨_, q⟩ | ⟨g, cap, _, rfl, _⟩
    · omega
    · exact ⟨_, _, rfl⟩
  obtain ⟨a', c', rfl⟩ := hv
  have ne3 : ∀ {b t}, IsRow w2 b t → t ≠ 74 → some b ≠ ov.ownBlock := fun hb ht e => (hb.ne (own_isRow hown2 e.symm) ht) rfl
  have nem3 : ∀ {m c g}, MapIs strKey w2 m g c → some m ≠ ov.ownBlock := fun hm e => (hm.notRow (own_isRow hown2 e.symm)) rfl
  have hsec3 := rowIs_kept hsec2 r2 (ne3 (row_isRow hsec2) (by decide))
  have hrow3 := row_isRow hsec3
  have hg4 := grown_set w3 SB 2 (.slice a' (s.n + 1) c')
  have ne4 : ∀ {b t}, IsRow w3 b t → t ≠ 65 → some b ≠ some SB := fun hb ht e => (hb.ne hrow3 ht) (by simpa using e)
  have nem4 : ∀ {m c g}, MapIs strKey w3 m g c → some m ≠ some SB := fun hm e => (hm.notRow hrow3) (by simpa using e)
  have hr3 : ABr N I w3 sb base len s M E := hr2.kept r2 (fun k e q => (q.ne (own_isRow hown2 e) (by decide)) rfl)
  have hr4 : ABr N I (w3.setCell ⟨SB, 2, none⟩ (.slice a' (s.n + 1) c')) sb base len s M E := hr3.kept hg4 (fun k e q => by cases e; exact (q.ne hrow3 (by decide)) rfl)
  have hpl3 := hpl2.kept r2 (nem3 hpl2)
  have hb1 := hs.bel.grown hg1 hs.loN (fun k e => by cases e; exact hs.loP)
  have hb2 := hb1.grown hg2 (Nat.le_trans hs.loN hg1.size) (fun k e => by cases e)
  have hb3 := hb2.grown r2 (Nat.le_trans hs.loN (Nat.le_trans hg1.size hg2.size)) (fun k e => (hown2.lt k e).1)
  have hb4 := hb3.grown hg4 (Nat.le_trans hs.loN (Nat.le_trans hg1.size (Nat.le_trans hg2.size r2.size))) (fun k e => by cases e; exact hs.loS)
  refine ⟨a', c', w3, by simpa using hrun, hsec3, ⟨St.new_ok hs.ok hk _, hb4, hs.loS, hs.loP, hs.loE, ?_, ?_, hpl3.kept hg4 (nem4 hpl3), ?_, hs.ne, ?_, ?_, ?_⟩, hr4.set, ?_, ?_, ?_⟩
  · refine (hsec3.set 2 _).congr ?_
    intro i hi
    unfold secC
    by_cases e : i = 2 <;> simp [e]
  · have hl : ownL (s.new k (base + p)).key (upd M s.n (.slice (some ⟨sb, p * 9, none⟩) 1 1)) (s.n + 1) = ownL s.key M s.n ++ [Value.string k, .slice (some ⟨sb, p * 9, none⟩) 1 1] := by
      exact ownL_new _ _ _ _ _
    have := own_kept r1 hg4 (fun b hb => ne4 (own_isRow r1 hb) (by decide))
    rw [← hl] at this
    exact this
  · intro q
    refine ⟨(hs.noE q).1, ?_⟩
    intro j hj
    by_cases e : j = s.n
    · subst e; simp [St.new, upd_same]
    · simp only [St.new, upd_other _ _ e]
      have : j < s.n + 1 := hj
      exact (hs.noE q).2 j (by omega)
  · intro m hm
    have h3 := (hmap2 m hm).kept r2 (nem3 (hmap2 m hm))
    refine (h3.kept hg4 (nem4 h3)).congr ?_
    intro k'
    simp only [St.new]
    by_cases e : k' = k
    · subst e
      simp [hk, upd_same]
    · rw [if_neg e]
      cases hq : s.place k' with
      | none => rfl
      | some j =>
        have := ((hs.ok k' j).1 hq).1
        simp [upd_other s.early [] (show j ≠ s.n by omega)]
  · intro j hj hn'
    have hj' : j < s.n + 1 := hj
    by_cases e : j = s.n
    · subst e; simp [St.new, upd_same] at hn'
    · simp only [St.new, upd_other _ _ e] at hn' ⊢
      have q2 := hrows2 j (by omega) hn'
      have q3 := own_kept q2 r2 (fun b hb => ne3 (own_isRow q2 hb) (by decide))
      exact own_kept q3 hg4 (fun b hb => ne4 (own_isRow q3 hb) (by decide))
  · intro j j' hj hj' hne h1 h2
    have hj1 : j < s.n + 1 := hj
    have hj2 : j' < s.n + 1 := hj'
    by_cases e : j = s.n
    · subst e; simp [St.new, upd_same] at h1
    · by_cases e2 : j' = s.n
      · subst e2; simp [St.new, upd_same] at h2
      · simp only [St.new, upd_other _ _ e, upd_other _ _ e2] at h1 h2
        exact hs.apart j j' (by omega) (by omega) hne h1 h2
  · intro j hj
    have hj1 : j < s.n + 1 := hj
    by_cases e : j = s.n
    · subst e
      simp only [St.new, upd_same]
      exact hr4.view hp
    · simp only [St.new, upd_other _ _ e]
      exact hr4.runM j (by omega)
  · intro j r L hj hL
    have hj1 : j < s.n + 1 := hj
    by_cases e : j = s.n
    · subst e; simp [St.new, upd_same] at hL
    · simp only [St.new, upd_other _ _ e] at hL
      exact hr4.runE j r L (by omega) hL
  · intro j hj hgr
    have hj1 : j < s.n + 1 := hj
    by_cases e : j = s.n
    · subst e
      rw [upd_same] at hgr
      obtain ⟨a, n, c, q, hne⟩ := hgr
      simp at q
      omega
    · rw [upd_other _ _ e] at hgr ⊢
      obtain ⟨a1, a2, a3, a4⟩ := hr.alone j (by omega) hgr
      refine ⟨a1, fun j2 hj2 hne2 => ?_, fun j2 r L hj2 hL => ?_, a4⟩
      · have hj3 : j2 < s.n + 1 := hj2
        by_cases e2 : j2 = s.n
        · subst e2
          rw [upd_same]
          intro q
          exact a1 q.symm
        · rw [upd_other _ _ e2]
          exact a2 j2 (by omega) hne2
      · have hj3 : j2 < s.n + 1 := hj2
        by_cases e2 : j2 = s.n
        · subst e2; simp [St.new, upd_same] at hL
        · simp only [St.new, upd_other _ _ e2] at hL
          exact a3 j2 r L (by omega) hL

/-- What the map of earlier values answers for key j. -/
def earlyOf (s : St) (Eo : Nat → Value) (j : Nat) : Value := if s.early j = [] then .slice none 0 0 else Eo j
/-- Case C: key j's value is kept among the earlier ones. -/
theorem AB_bury {m : Nat} (hs : ABs w0 N w SB PM s ov (some m) M Eo E) (hr : ABr N I w sb base len s M E) {j : Nat} {k : ByteArray} (hk : s.place k = some j) (hg1 : w.grownBy w1 none) (ty : TypeId) (ad c : Nat)
    (hone : ∀ i u, [M j][i]? = some u → w1.cell? ((⟨ad, 0, none⟩ : Addr).add i) = some u) (hn : (s.early j).length + 1 ≤ 1048576) :
    ∃ v' w2 w3 row, (Builtin.append_ #[76, 76] ty #[earlyOf s Eo j, .slice (some ⟨ad, 0, none⟩) 1 c]).run Try.prog w1 = .ok v' w2 ∧ w1.grownBy w2 row ∧ (∀ k, row = some k → IsRow w k 67) ∧
      (Instr.mapUpdate 63 (.map (some m)) (strKey k) v').run Try.prog w2 = .ok () w3 ∧
      ABs w0 N w3 SB PM (s.bury j) ov (some m) M (upd Eo j v') (upd E j (upd (E j) (s.early j).length (M j))) ∧ ABr N I w3 sb base len s M E := by
  obtain ⟨i0, hi, hz, hsz, hb⟩ := info_parts Try.info67
  obtain ⟨hj, hkey⟩ := (hs.ok k j).1 hk
  have hs1 := hs.fresh hg1
  have hr1 := hr.fresh hg1
  have hown1 : w1.ownsRow N 67 1 (earlyOf s Eo j) (s.early j).length (eL (E j) (s.early j).length) := by
    unfold earlyOf
    by_cases e : s.early j = []
    · rw [if_pos e, e]; exact World.ownsRow_nil _ _ _ _
    · rw [if_neg e]; exact hs1.rows j hj e
  have hown0 : w.ownsRow N 67 1 (earlyOf s Eo j) (s.early j).length (eL (E j) (s.early j).length) := by
    unfold earlyOf
    by_cases e : s.early j = []
    · rw [if_pos e, e]; exact World.ownsRow_nil _ _ _ _
    · rw [if_neg e]; exact hs.rows j hj e
  have hM1 : ∀ u ∈ [M j], u.oneCell' = true := by
    intro u hu
    simp at hu
    subst hu
    obtain ⟨b, off, cap, cs, e, _⟩ := hr.runM j hj
    rw [e]; rfl
  obtain ⟨v', w2, hrun, r1, r2, _, r4⟩ := run_append_own_at (P := Try.prog) w1 N 76 ty 67 i0 _ 1 24 Try.underlying76 hi hz hsz hb rfl (by decide) _ _ _ hown1 ⟨ad, 0, none⟩ 1 c [M j] rfl hone hM1 (by unfold maxLen; omega) (by omega) hs1.loN
  rw [eL_add] at r1
  obtain ⟨w3, hput, p1, p2⟩ := ((hs1.map m rfl).kept r2 (fun e => ((hs1.map m rfl).notRow (own_isRow hown1 e.symm)) rfl)).put (P := Try.prog) (kt := 9) (e := 76) (str_fine Try.underlying9) (t := 63) Try.underlying63 k v'
  have hm2 := (hs1.map m rfl).kept r2 (fun e => ((hs1.map m rfl).notRow (own_isRow hown1 e.symm)) rfl)
  have ne2 : ∀ {b t}, IsRow w1 b t → t ≠ 67 → some b ≠ (earlyOf s Eo j).ownBlock := fun hb ht e => (hb.ne (own_isRow hown1 e.symm) ht) rfl
  have ne3 : ∀ {b t}, IsRow w2 b t → some b ≠ some m := fun hb e => (hm2.notRow hb) (by simpa using e.symm)
  have hsec2 := rowIs_kept hs1.sec r2 (ne2 (row_isRow hs1.sec) (by decide))
  have hown2 := own_kept hs1.own r2 (fun b hb => ne2 (own_isRow hs1.own hb) (by decide))
  have hpl2 := hs1.place.kept r2 (fun e => (hs1.place.notRow (own_isRow hown1 e.symm)) rfl)
  have hr2 : ABr N I w2 sb base len s M E := hr1.kept r2 (fun k e q => (q.ne (own_isRow hown1 e) (by decide)) rfl)
  have hr3 : ABr N I w3 sb base len s M E := hr2.kept p2 (fun k e q => by cases e; exact (hm2.notRow q) rfl)
  have hb2 := hs1.bel.grown r2 hs1.loN (fun k e => (hown1.lt k e).1)
  have hb3 := hb2.grown p2 (Nat.le_trans hs1.loN r2.size) (fun k e => by cases e; exact hs.loE m rfl)
  -- the rows of the other keys
  have hv' : ∀ j', j' < s.n → j' ≠ j → s.early j' ≠ [] → (Eo j').ownBlock ≠ v'.ownBlock := by
    intro j' hj' hne hn' e
    rcases r4 with r4 | r4
    · rw [r4] at e
      unfold earlyOf at e
      by_cases e2 : s.early j = []
      · rw [if_pos e2] at e
        rcases (hs.rows j' hj' hn').2 with ⟨_, q⟩ | ⟨g, cap, cur, q, _⟩
        · exact hn' (List.eq_nil_of_length_eq_zero q)
        · rw [q] at e; cases e
      · rw [if_neg e2] at e
        exact hs.apart j j' hj hj' hne e2 hn' e
    · rw [r4] at e
      have := ((hs1.rows j' hj' hn').lt _ e).2
      omega
  have hvr : v'.ownBlock ≠ (earlyOf s Eo j).ownBlock ∨ True := .inr trivial
  refine ⟨v', w2, w3, _, hrun, r2, fun k' e => own_isRow hown0 e, hput, ⟨hs.ok, hb3, hs.loS, hs.loP, hs.loE, rowIs_kept hsec2 p2 (ne3 (row_isRow hsec2)), own_kept hown2 p2 (fun b hb => ne3 (own_isRow hown2 hb)), hpl2.kept p2 (fun e => hs.ne m rfl (by simpa using e.symm)), (fun q => by cases q), hs.ne, ?_, ?_, ?_⟩, hr3⟩
  · intro m' hm'
    cases hm'
    have := p1 (fun k' => (s.place k').bind fun j' => if (s.bury j).early j' = [] then none else some (upd Eo j v' j')) (by simp [hk, St.bury, upd_same]) (by
      intro k' hne
      cases hq : s.place k' with
      | none => rfl
      | some j' =>
        have hjj : j' ≠ j := by
          rintro rfl
          exact hne (((hs.ok k' _).1 hq).2.symm.trans hkey)
        simp [St.bury, upd_other s.early _ hjj, upd_other Eo _ hjj])
    have hc : (s.bury j).cnt = s.cnt + if (Option.bind (s.place k) fun j => if s.early j = [] then none else some (Eo j)).isSome = true then 0 else 1 := by
      simp only [St.bury, hk, Option.bind_some]
      by_cases e : s.early j = [] <;> simp [e]
    rw [hc]
    exact this
  · intro j' hj' hn'
    by_cases e : j' = j
    · subst e
      have : (s.bury j').early j' = s.early j' ++ [s.made j'] := by simp [St.bury, upd_same]
      rw [this, upd_same, upd_same, List.length_append]
      exact own_kept r1 p2 (fun b hb => ne3 (own_isRow r1 hb))
    · have : (s.bury j).early j' = s.early j' := by simp [St.bury, upd_other _ _ e]
      rw [this] at hn' ⊢
      rw [upd_other _ _ e, upd_other _ _ e]
      have q1 := hs1.rows j' hj' hn'
      have q2 : w2.ownsRow N 67 1 (Eo j') (s.early j').length (eL (E j') (s.early j').length) := own_kept q1 r2 (fun b hb q => by
        unfold earlyOf at q
        by_cases e2 : s.early j = []
        · rw [if_pos e2] at q; cases q
        · rw [if_neg e2] at q
          exact hs.apart j j' hj hj' e e2 hn' (hb.trans q))
      exact own_kept q2 p2 (fun b hb => ne3 (own_isRow q2 hb))
  · intro j1 j2 h1 h2 hne e1 e2
    by_cases q1 : j1 = j
    · subst q1
      have : (s.bury j1).early j2 = s.early j2 := by simp [St.bury, upd_other _ _ hne]
      rw [this] at e2
      rw [upd_same, upd_other _ _ hne]
      exact hv' j2 h2 hne e2
    · have t1 : (s.bury j).early j1 = s.early j1 := by simp [St.bury, upd_other _ _ q1]
      rw [t1] at e1
      rw [upd_other _ _ q1]
      by_cases q2 : j2 = j
      · subst q2
        rw [upd_same]
        exact fun e => hv' j1 h1 q1 e1 e.symm
      · have t2 : (s.bury j).early j2 = s.early j2 := by simp [St.bury, upd_other _ _ q2]
        rw [t2] at e2
        rw [upd_other _ _ q2]
        exact hs.apart j1 j2 h1 h2 hne e1 e2
end
/-- The last step of case C. -/
theorem AB_buried {w0 : World} {N : Nat} {I : Inp} {w : World} {SB PM sb base len : Nat} {s : St} {ov : Value} {em : Option Nat} {M Eo : Nat → Value} {E : Nat → Nat → Value} {ob cap j p : Nat} (hs : ABs w0 N w SB PM (s.bury j) ov em M Eo (upd E j (upd (E j) (s.early j).length (M j)))) (hr : ABr N I w sb base len s M E)
    (ho : ov = .slice (some ⟨ob, 0, none⟩) s.n cap) (hj : j < s.n) (hp : p < len) :
    ABs w0 N (w.setCell ⟨ob, j * 2 + 1, none⟩ (.slice (some ⟨sb, p * 9, none⟩) 1 1)) SB PM ((s.bury j).set j (base + p)) ov em (upd M j (.slice (some ⟨sb, p * 9, none⟩) 1 1)) Eo (upd E j (upd (E j) (s.early j).length (M j))) ∧
      ABr N I (w.setCell ⟨ob, j * 2 + 1, none⟩ (.slice (some ⟨sb, p * 9, none⟩) 1 1)) sb base len ((s.bury j).set j (base + p)) (upd M j (.slice (some ⟨sb, p * 9, none⟩) 1 1)) (upd E j (upd (E j) (s.early j).length (M j))) := by
  have hst := hs.store (s := s.bury j) ho hj (.slice (some ⟨sb, p * 9, none⟩) 1 1)
  have hrow := ABs.obRow (s := s.bury j) hs ho
  have hr2 : ABr N I (w.setCell ⟨ob, j * 2 + 1, none⟩ (.slice (some ⟨sb, p * 9, none⟩) 1 1)) sb base len s M E := hr.kept (grown_set w ob (j * 2 + 1) _) (fun k e q => by cases e; exact (q.ne hrow (by decide)) rfl)
  have hE : ∀ j' r L, ((s.bury j).early j')[r]? = some L → (upd E j (upd (E j) (s.early j).length (M j)) j' r = E j' r ∧ (s.early j')[r]? = some L) ∨ (j' = j ∧ upd E j (upd (E j) (s.early j).length (M j)) j' r = M j ∧ L = s.made j) := by
    intro j' r L hL
    by_cases e : j' = j
    · subst e
      have t : (s.bury j').early j' = s.early j' ++ [s.made j'] := by simp [St.bury, upd_same]
      rw [t] at hL
      rw [upd_same]
      by_cases er : r = (s.early j').length
      · subst er
        rw [upd_same]
        simp at hL
        exact .inr ⟨rfl, rfl, hL.symm⟩
      · rw [upd_other _ _ er]
        refine .inl ⟨rfl, ?_⟩
        have := (List.getElem?_eq_some_iff.1 hL).1
        rw [List.length_append] at this
        simp at this
        rwa [List.getElem?_append_left (by omega)] at hL
    · have t : (s.bury j).early j' = s.early j' := by simp [St.bury, upd_other _ _ e]
      rw [t] at hL
      rw [upd_other _ _ e]
      exact .inl ⟨rfl, hL⟩
  refine ⟨⟨hst.ok, hst.bel, hst.loS, hst.loP, hst.loE, hst.sec, hst.own, hst.place, hst.noE, hst.ne, hst.map, hst.rows, hst.apart⟩, hr2.set, ?_, ?_, ?_⟩
  · intro j' hj'
    by_cases e : j' = j
    · subst e
      simp only [St.set, upd_same]
      exact hr2.view hp
    · simp only [St.set, upd_other _ _ e]
      exact hr2.runM j' hj'
  · intro j' r L hj' hL
    rcases hE j' r L hL with ⟨e1, e2⟩ | ⟨e0, e1, e2⟩
    · rw [e1]; exact hr2.runE j' r L hj' e2
    · rw [e1, e2]; exact hr2.runM j hj
  · intro j' hj' hgr
    by_cases e : j' = j
    · subst e
      rw [upd_same] at hgr
      obtain ⟨a, n, c, q, hne⟩ := hgr
      simp at q
      omega
    · rw [upd_other _ _ e] at hgr ⊢
      obtain ⟨a1, a2, a3, a4⟩ := hr.alone j' hj' hgr
      refine ⟨a1, fun j2 hj2 hne2 => ?_, fun j2 r L hj2 hL => ?_, a4⟩
      · by_cases e2 : j2 = j
        · subst e2
          rw [upd_same]
          intro q
          exact a1 q.symm
        · rw [upd_other _ _ e2]
          exact a2 j2 hj2 hne2
      · rcases hE j2 r L hL with ⟨e1, e2⟩ | ⟨e0, e1, e2⟩
        · rw [e1]; exact a3 j2 r L hj2 e2
        · rw [e1]; exact a2 j hj (fun q => e q.symm)
end Go.Proofs.Qxb6600323a
