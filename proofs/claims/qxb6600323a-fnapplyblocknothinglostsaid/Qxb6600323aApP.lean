import Derived.Test.Qxb6600323aApN
import Derived.Test.Qxb6600323aApO
import Derived.Test.Qxb6600323aApH
namespace Go.Proofs.Qxb6600323a
open Go.RowKit
set_option linter.unusedVariables false
set_option linter.unusedSimpArgs false
attribute [local go_sem ↓] Go.wp_at_zero Go.wp_at_succ

theorem OpsAt.congr {w : World} {a : Option Addr} {n n' : Nat} {aI : Nat → Option Addr} {nI nI' cI : Nat → Nat} {oo : Nat → Nat → Int} (h : OpsAt w a n aI nI cI oo) (hn : n' = n) (hI : ∀ i, i < n' → nI' i = nI i) : OpsAt w a n' aI nI' cI oo := by
  intro h0
  obtain ⟨b, off, e, hc⟩ := h (by omega)
  refine ⟨b, off, e, fun i hi => ?_⟩
  rw [hI i hi]
  exact hc i (by omega)
theorem psum_each {nI : Nat → Nat} {n i : Nat} (h : i < n) : nI i ≤ psum nI n := by
  have := psum_le nI (show i + 1 ≤ n by omega)
  simp only [psum] at this
  omega

section
variable {w : World} {B : Nat} {s : St} {mB eB : Nat → Nat} {eR : Nat → Nat → Nat}
theorem partR_full {n i : Nat} {f : Nat → Value} {z : Value} (h : i < n) : partR n f z i = f i := by simp [partR, h]
theorem Out.keyCell (h : Out w B s s.n s.n s.n s.n s.n mB eB eR) {k : Nat} (hk : k < s.n) : w.cell? ⟨B, k, none⟩ = some (.string (s.key k)) := by
  rw [h.r1.cell hk, partR_full hk]; rfl
theorem Out.madeCell (h : Out w B s s.n s.n s.n s.n s.n mB eB eR) {k : Nat} (hk : k < s.n) : w.cell? ⟨B + 1, k, none⟩ = some (.slice (some ⟨mB k, 0, none⟩) (s.made k).length (s.made k).length) := by
  rw [h.r2.cell hk, partR_full hk]; rfl
theorem Out.earCell (h : Out w B s s.n s.n s.n s.n s.n mB eB eR) {k : Nat} (hk : k < s.n) : w.cell? ⟨B + 2, k, none⟩ = some (earC s eB k) := by
  rw [h.r3.cell hk, partR_full hk]
theorem Out.idCell (h : Out w B s s.n s.n s.n s.n s.n mB eB eR) {k : Nat} (hk : k < s.n) : w.cell? ⟨B + 3, k, none⟩ = some (.int .i64 (k : Int)) := by
  rw [h.r4.cell hk, partR_full hk]; rfl
theorem Out.earAt (h : Out w B s s.n s.n s.n s.n s.n mB eB eR) {k : Nat} (hk : k < s.n) : ∃ ax cx, w.cell? ⟨B + 2, k, none⟩ = some (.slice ax (s.early k).length cx) ∧ (0 < (s.early k).length → ax = some ⟨eB k, 0, none⟩ ∧ ∀ r, r < (s.early k).length → w.cell? ⟨eB k, r, none⟩ = some (.slice (some ⟨eR k r, 0, none⟩) ((s.early k).getD r []).length ((s.early k).getD r []).length)) := by
  rw [h.earCell hk]
  unfold earC
  by_cases e : s.early k = []
  · rw [if_pos e, e]
    exact ⟨none, 0, rfl, fun h => absurd h (Nat.not_lt_zero _)⟩
  · rw [if_neg e]
    refine ⟨_, _, rfl, fun _ => ⟨rfl, fun r hr => ?_⟩⟩
    rw [(h.eR k hk e).2.1.cell hr]; rfl
theorem row_ints {w : World} {b : Nat} {L : List Nat} (h : w.rowIs b 3 L.length (lineC L)) : IntsAt w (some ⟨b, 0, none⟩) L.length (fun i => ((L.getD i 0 : Nat) : Int)) :=
  fun _ => ⟨b, 0, rfl, fun i hi => by rw [Nat.zero_add, h.cell hi]; rfl⟩
theorem Out.madeInts (h : Out w B s s.n s.n s.n s.n s.n mB eB eR) {k : Nat} (hk : k < s.n) : IntsAt w (some ⟨mB k, 0, none⟩) (s.made k).length (fun i => (((s.made k).getD i 0 : Nat) : Int)) := row_ints (h.mR k hk).2
theorem Out.earInts (h : Out w B s s.n s.n s.n s.n s.n mB eB eR) {k r : Nat} (hk : k < s.n) (hr : r < (s.early k).length) : IntsAt w (some ⟨eR k r, 0, none⟩) ((s.early k).getD r []).length (fun i => ((((s.early k).getD r []).getD i 0 : Nat) : Int)) :=
  row_ints ((h.eR k hk (fun e => by rw [e] at hr; exact absurd hr (Nat.not_lt_zero _))).2.2 r hr).2
end

def seenT (I : Inp) (s : St) (k x : Nat) : Bool := (List.range k).any fun j => decide (s.key j = I.K x)
theorem seenT_succ (I : Inp) (s : St) (k x : Nat) : seenT I s (k + 1) x = (seenT I s k x || decide (s.key k = I.K x)) := by simp [seenT, List.range_succ]
theorem seenT_zero (I : Inp) (s : St) (x : Nat) : seenT I s 0 x = false := rfl
theorem seenT_no {I : Inp} {s : St} (h : s.Ok) {k x : Nat} (hk : k < s.n) (hx : I.K x = s.key k) : seenT I s k x = false := by
  rw [Bool.eq_false_iff]
  intro q
  obtain ⟨j, hj, e⟩ := List.any_eq_true.1 q
  have hj' : j < k := List.mem_range.1 hj
  have e' : s.key j = I.K x := of_decide_eq_true e
  have h1 := (h (s.key k) k).2 ⟨hk, rfl⟩
  have h2 := (h (s.key k) j).2 ⟨by omega, by rw [e', hx]⟩
  rw [h1] at h2
  have := Option.some.inj h2
  omega

/-- What is seen and counted so far: the keys ahead of k, and of k the lines pre. -/
structure NL (I : Inp) (s : St) (W : World) (N : Nat) (wr : World) (k : Nat) (pre : List Nat) (cnt : Nat) : Prop where
  below : Below W.heap.size W wr
  row : wr.rowIs W.heap.size 4 N (seenV (seenT I s k) pre)
  cnt : cnt = psum (fun j => (occOf I N (s.key j)).length) k + pre.length
theorem NL.next {I : Inp} {s : St} {W : World} {N : Nat} {wr : World} {k cnt : Nat} (h : NL I s W N wr k (occOf I N (s.key k)) cnt) : NL I s W N wr (k + 1) [] cnt := by
  refine ⟨h.below, h.row.congr (fun i hi => ?_), by rw [h.cnt]; rfl⟩
  unfold seenV
  rw [seenT_succ]
  congr 1
  by_cases e : s.key k = I.K i
  · have : i ∈ occOf I N (s.key k) := mem_occOf.2 ⟨hi, e.symm⟩
    rw [decide_eq_true this, decide_eq_true e]; simp
  · have : ¬ i ∈ occOf I N (s.key k) := fun q => e (mem_occOf.1 q).2.symm
    rw [decide_eq_false this, decide_eq_false e]; simp
theorem occ_le {I : Inp} {N : Nat} {s : St} (h : Law I N s) {k : Nat} (hk : k < s.n) : psum (fun j => (occOf I N (s.key j)).length) k + (occOf I N (s.key k)).length ≤ N := by
  have h1 := psum_le (fun j => (occOf I N (s.key j)).length) (show k + 1 ≤ s.n by omega)
  rw [h.tot] at h1
  exact h1
theorem flat_ge {E : List (List Nat)} (h : ∀ L ∈ E, L ≠ []) : E.length ≤ E.flatten.length := by
  induction E with
  | nil => exact Nat.le_refl _
  | cons L E ih =>
    have h1 := ih (fun L' hL => h L' (List.mem_cons_of_mem _ hL))
    have h2 := List.length_pos_iff.2 (h L List.mem_cons_self)
    simp only [List.flatten_cons, List.length_append, List.length_cons]
    omega
theorem take_flat {E : List (List Nat)} {r : Nat} (h : r < E.length) : (E.take (r + 1)).flatten = (E.take r).flatten ++ E.getD r [] := by
  rw [List.take_succ_eq_append_getElem h, List.flatten_append, List.getD_eq_getElem?_getD, List.getElem?_eq_getElem h]
  simp
theorem take_pre {E : List (List Nat)} (r : Nat) : List.Sublist (E.take r).flatten E.flatten := by
  conv => rhs; rw [← List.take_append_drop r E, List.flatten_append]
  exact List.sublist_append_left _ _

set_option maxRecDepth 100000 in
set_option maxHeartbeats 4000000 in
/-- FnApplyBlockNothingLost. -/
theorem nl_walk (hA : ApplySays) {a1 a2 : Option Addr} {n1 n2 : Nat} {aI aP : Nat → Option Addr} {nI nP cI cP : Nat → Nat} {kk : Nat → Nat → ByteArray} {oo : Nat → Nat → Int} {w : World} (c1 c2 : Nat) (H : Args w a1 a2 n1 n2 aI aP nI nP cI cP kk oo) :
    Calls Try.prog 5 #[.slice a1 n1 c1, .slice a2 n2 c2] w fun e w' => e = .returned (.bool true) ∧ Below w.heap.size w w' := by
  have HA : Hid ApplySays := hA
  have HR : Hid (Args w a1 a2 n1 n2 aI aP nI nP cI cP kk oo) := H
  have HB := (id (bytes_nl c1 c2 H) : Hid (Calls _ _ _ _ _))
  have HF := (id (fit_any c1 c2 H) : Hid (Calls _ _ _ _ _))
  clear H hA
  go_enter Try.func5, Try.ntmps5
  go_wp2_with fail
  refine HB.out.mono ?_
  rintro e w' ⟨⟨t, rfl⟩, rfl⟩
  clear HB
  cases t with
  | false => go_wp2_with fail; go_ret; exact ⟨rfl, Below.refl _ _⟩
  | true =>
  go_wp2_with fail
  refine HF.out.mono ?_
  rintro e w' ⟨⟨t, rfl, hfit⟩, rfl⟩
  clear HF
  cases t with
  | false => go_wp2_with fail; go_ret; exact ⟨rfl, Below.refl _ _⟩
  | true =>
  obtain ⟨hn1, hn2, hsum⟩ := hfit rfl
  have HM := (id (match_any c1 c2 hn1 HR.out) : Hid (Calls _ _ _ _ _))
  clear hfit
  go_wp2_with fail
  refine HM.out.mono ?_
  rintro e w' ⟨⟨t, rfl, hmat⟩, q, rfl⟩
  clear HM
  cases t with
  | false => go_wp2_with fail; go_ret; exact ⟨rfl, below_drewN (Below.refl _ _) _⟩
  | true =>
  obtain ⟨rfl, hmI⟩ := hmat rfl
  have hN : psum nI n1 ≤ 65536 := by omega
  have hle : ∀ i, i < n1 → nI i ≤ 1048576 := fun i hi => by have := psum_each (nI := nI) hi; omega
  have HC1 := (id (copyStr2_any a1 n1 c1 aI nI cI kk (w.drewN q) (by omega) hle HR.out.keys) : Hid (Calls _ _ _ _ _))
  have HO1 : Hid (OpsAt (w.drewN q) a2 n1 aP nI cP oo) := HR.out.ops.congr rfl hmI
  have HLE : Hid (∀ i, i < n1 → nI i ≤ 1048576) := hle
  have HN : Hid (psum nI n1 ≤ 65536) := hN
  clear hmat hmI hle hN hsum HR
  go_wp2_with fail
  refine HC1.out.mono ?_
  rintro e w2 ⟨b1, d1, bI, dI, rfl, hk2, hb2⟩
  have hb02 : Below w.heap.size w w2 := ⟨hb2.os, hb2.tape, hb2.output, hb2.size, hb2.block⟩
  have HC2 := (id (copyU82_any a2 n1 c2 aP nI cP oo w2 (by omega) HLE.out (HO1.out.below hb2)) : Hid (Calls _ _ _ _ _))
  have HK2 : Hid (KeysAt w2 b1 n1 bI nI dI kk) := hk2
  clear HC1 HO1 hk2 hb2
  go_wp2_with fail
  refine HC2.out.mono ?_
  rintro e w3 ⟨b2, d2, bP, dP, rfl, ho3, hb3⟩
  have HK3 : Hid (KeysAt w3 b1 n1 bI nI dI kk) := HK2.out.below hb3
  have HO3 : Hid (OpsAt w3 b2 n1 bP nI dP oo) := ho3
  have HFL := (id (flatten_any d1 d2 hn1 HN.out HK3.out HO3.out) : Hid (Calls _ _ _ _ _))
  have hb03 : Below w.heap.size w w3 := hb02.trans (hb3.mono hb02.size)
  obtain ⟨I, hI⟩ : ∃ I, Hid (I = inpOf n1 nI kk oo) := ⟨_, (rfl : inpOf n1 nI kk oo = _)⟩
  obtain ⟨N, hN⟩ : ∃ N, Hid (N = psum nI n1) := ⟨_, (rfl : psum nI n1 = _)⟩
  have hNle : N ≤ 65536 := by rw [hN.out]; exact HN.out
  rw [← hI.out, ← hN.out] at HFL
  clear HC2 HK2 ho3 hb3 HLE hb02
  go_wp2_with fail
  refine HFL.out.mono ?_
  rintro e w4 ⟨aF, cF, aG, cG, rfl, hv4, _, hb4⟩
  have HK4 : Hid (KeysAt w4 b1 n1 bI nI dI kk) := HK3.out.below hb4
  have HO4 : Hid (OpsAt w4 b2 n1 bP nI dP oo) := HO3.out.below hb4
  have HV4 : Hid (ValsAt w4 aF N (keyV I)) := hv4
  have hb04 : Below w.heap.size w w4 := hb03.trans (hb4.mono hb03.size)
  have HT := (id (blocks_any HA.out true b1 b2 n1 d1 d2 bI bP nI dI dP kk oo w4 hn1 (by have := HN.out; omega) HK4.out HO4.out) : Hid (Calls _ _ _ _ _))
  rw [← hI.out, ← hN.out] at HT
  obtain ⟨s1, hs1⟩ : ∃ s1, Hid (s1 = stAt I true N) := ⟨_, (rfl : stAt I true N = _)⟩
  rw [← hs1.out] at HT
  have hsn : s1.n ≤ 65536 := by
    have := (stAt_fits I true N).1
    rw [← hs1.out] at this
    omega
  clear HFL HK3 HO3 hv4 hb4 hb03
  go_wp2_with fail
  refine HT.out.mono ?_
  rintro e w5 ⟨B1, mB1, eB1, eR1, en1, rfl, hB1, hO1, hb5, _⟩
  have HK5 : Hid (KeysAt w5 b1 n1 bI nI dI kk) := HK4.out.below hb5
  have HO5 : Hid (OpsAt w5 b2 n1 bP nI dP oo) := HO4.out.below hb5
  have HV5 : Hid (ValsAt w5 aF N (keyV I)) := HV4.out.below hb5
  have HX1 : Hid (Out w5 B1 s1 s1.n s1.n s1.n s1.n s1.n mB1 eB1 eR1) := hO1
  have hb05 : Below w.heap.size w w5 := hb04.trans (hb5.mono hb04.size)
  have HT0 := (id (blocks_any HA.out false b1 b2 n1 d1 d2 bI bP nI dI dP kk oo w5 hn1 (by have := HN.out; omega) HK5.out HO5.out) : Hid (Calls _ _ _ _ _))
  rw [← hI.out, ← hN.out] at HT0
  clear HT HK4 HO4 HV4 hb04 hb5 hO1 hB1
  go_wp2_with fail
  refine HT0.out.mono ?_
  rintro e w6 ⟨B0, mB0, eB0, eR0, en0, he, hB0, hO0, hb6, hen⟩
  obtain ⟨q1, q2, q3, q4⟩ := stAt_same I N
  obtain ⟨q5, q6⟩ := stAt_still I N
  rw [← hs1.out] at q1 q2 q3 q4
  rw [hen.2 q6, q1, q6] at he
  subst he
  have HV6 : Hid (ValsAt w6 aF N (keyV I)) := HV5.out.below hb6
  have HX6 : Hid (Out w6 B1 s1 s1.n s1.n s1.n s1.n s1.n mB1 eB1 eR1) := HX1.out.kept hb6.block
  have hb06 : Below w.heap.size w w6 := hb05.trans (hb6.mono hb05.size)
  have HE : Hid (ValsAt w6 (some ⟨B0 + 2, 0, none⟩) s1.n (fun _ => .slice none 0 0)) := fun _ => ⟨B0 + 2, 0, rfl, fun i hi => by
    rw [← q1] at hi
    rw [Nat.zero_add, hO0.earCell hi, earC, if_pos (q5 i)]⟩
  have HQ1 := (id (eqStr_true (some ⟨B1, 0, none⟩) (some ⟨B0, 0, none⟩) s1.n s1.n s1.n s1.key w6 (by omega)
    (fun _ => ⟨B1, 0, rfl, fun i hi => by rw [Nat.zero_add]; exact HX6.out.keyCell hi⟩)
    (fun _ => ⟨B0, 0, rfl, fun i hi => by rw [Nat.zero_add, hO0.keyCell (by rw [q1]; exact hi), q2]⟩)) : Hid (Calls _ _ _ _ _))
  have hml : ∀ i, i < s1.n → (s1.made i).length ≤ 1048576 := fun i hi => by
    have := (stAt_fits I true N).2 i (by rw [← hs1.out]; exact hi)
    rw [← hs1.out] at this
    omega
  have HQ2 : Hid (∀ k, Calls Try.prog 23 #[.slice (some ⟨B1 + 1, 0, none⟩) s1.n s1.n, .slice (some ⟨B0 + 1, 0, none⟩) s1.n s1.n] (w6.drewN k) fun e w' => e = .returned (.bool true) ∧ ∃ k', w' = (w6.drewN k).drewN k') := fun k =>
    eqInts2_true (some ⟨B1 + 1, 0, none⟩) (some ⟨B0 + 1, 0, none⟩) s1.n s1.n s1.n (fun i => some ⟨mB1 i, 0, none⟩) (fun i => some ⟨mB0 i, 0, none⟩) (fun i => (s1.made i).length) (fun i => (s1.made i).length) (fun i => (s1.made i).length) (fun i q => (((s1.made i).getD q 0 : Nat) : Int)) (w6.drewN k) (by omega) hml
      (fun _ => ⟨B1 + 1, 0, rfl, fun i hi => by rw [Nat.zero_add]; exact HX6.out.madeCell hi⟩)
      (fun _ => ⟨B0 + 1, 0, rfl, fun i hi => by
        have := hO0.madeCell (k := i) (by rw [q1]; exact hi)
        rw [q4] at this
        rw [Nat.zero_add]; exact this⟩)
      (fun i hi => HX6.out.madeInts hi)
      (fun i hi => by
        have := hO0.madeInts (k := i) (by rw [q1]; exact hi)
        rw [q4] at this
        exact this)
  have HQ3 : Hid (∀ k, Calls Try.prog 18 #[.slice (some ⟨B1 + 3, 0, none⟩) s1.n s1.n, .slice (some ⟨B0 + 3, 0, none⟩) s1.n s1.n] (w6.drewN k) fun e w' => e = .returned (.bool true) ∧ ∃ k', w' = (w6.drewN k).drewN k') := fun k =>
    eqInts_true (some ⟨B1 + 3, 0, none⟩) (some ⟨B0 + 3, 0, none⟩) s1.n s1.n s1.n (fun i => (i : Int)) (w6.drewN k) (by omega)
      (fun _ => ⟨B1 + 3, 0, rfl, fun i hi => by rw [Nat.zero_add]; exact HX6.out.idCell hi⟩)
      (fun _ => ⟨B0 + 3, 0, rfl, fun i hi => by rw [Nat.zero_add]; exact hO0.idCell (by rw [q1]; exact hi)⟩)
  obtain ⟨n, hn⟩ : ∃ n, Hid (n = s1.n) := ⟨_, (rfl : s1.n = _)⟩
  rw [← hn.out] at HQ1 HQ2 HQ3 HE hsn ⊢
  clear HT0 HK5 HO5 HV5 HX1 hb05 hb6 hO0 hen q1 q2 q3 q4 q5 q6 hml hB0
  go_wp2_with fail
  refine HQ1.out.mono ?_
  rintro e w' ⟨rfl, k1, rfl⟩
  go_wp2_with fail
  refine (HQ2.out _).mono ?_
  rintro e w' ⟨rfl, k2, rfl⟩
  go_wp2_with fail
  refine (HQ3.out _).mono ?_
  rintro e w' ⟨rfl, k3, rfl⟩
  clear HQ1 HQ2 HQ3
  go_wp2_with fail
  obtain ⟨W, hW⟩ : ∃ W, Hid (W = ((w6.drewN k1).drewN k2).drewN k3) := ⟨_, (rfl : ((w6.drewN k1).drewN k2).drewN k3 = _)⟩
  have HVW : Hid (ValsAt W aF N (keyV I)) := by rw [hW.out]; exact HV6.out
  have HXW : Hid (Out W B1 s1 s1.n s1.n s1.n s1.n s1.n mB1 eB1 eR1) := by rw [hW.out]; exact HX6.out.kept (fun _ _ => rfl)
  have HEW : Hid (ValsAt W (some ⟨B0 + 2, 0, none⟩) n (fun _ => .slice none 0 0)) := by rw [hW.out]; exact HE.out
  have hbW : Below w.heap.size w W := by rw [hW.out]; exact below_drewN (below_drewN (below_drewN hb06 _) _) _
  have HLW : Hid (Law I N s1) := by rw [hs1.out]; exact stAt_law I N
  have hmk := run_make_row' (P := Try.prog) 29 4 (.bool false) 1 Try.underlying29 Try.info4C rfl .i64 .i64 N (by omega) (by omega)
  simp only [World.drewN_drewN] at hW
  rw [show w6.drewN (k1 + k2 + k3) = W from hW.out.symm]
  clear HV6 HX6 HE hb06 hs1 hI hN HN HA
  go_loop [22] (fun i => ∃ k : Nat, k ≤ n ∧ i = .int .i64 k) (fun i => n - (intOf i).toNat)
  case atStart => exact ⟨0, Nat.zero_le _, rfl⟩
  case round =>
    obtain ⟨k, hk, rfl⟩ := hrel
    by_cases hlt : k < n
    · obtain ⟨b, off, hbo, hc⟩ := HEW.out (by omega)
      have c1 := hc k hlt
      have hbo' := Option.some.inj hbo
      simp only [Addr.mk.injEq] at hbo'
      obtain ⟨rfl, rfl, _⟩ := hbo'
      rw [Nat.zero_add] at c1
      clear hbo hc HEW hmk
      go_wp2_with fail
      go_round
      case rel => exact ⟨k + 1, by omega, by go_num⟩
      case measure => simp [intOf]; omega
    · clear HEW
      go_wp2_with fail
      go_loopw [24, 25] (fun ct i wr => ∃ k cnt : Nat, k ≤ n ∧ i = .int .i64 k ∧ ct = .int .i64 cnt ∧ cnt ≤ 65536 ∧ Hid (NL I s1 W N wr k [] cnt)) (fun _ i _ => n - (intOf i).toNat)
      case atStart =>
        refine ⟨0, 0, Nat.zero_le _, rfl, rfl, by omega, ?_⟩
        refine (⟨(Below.refl _ _).alloc (Nat.le_refl _) _, (World.rowIs_made W (.bool false) N 4).congr (fun i hi => by simp [seenV, seenT_zero]), rfl⟩ : NL I s1 W N _ 0 [] 0)
      case round =>
        rename World => wo
        obtain ⟨k, cnt, hk, rfl, rfl, hcnt, hg⟩ := hrel
        clear hmk
        by_cases hlt : k < n
        · have hks : k < s1.n := by rw [← hn.out]; exact hlt
          obtain ⟨ax, cx, x1, hin⟩ := HXW.out.earAt hks
          have x0 := HXW.out.keyCell hks
          have x2 := HXW.out.madeCell hks
          obtain ⟨el, hel⟩ : ∃ el, Hid (el = (s1.early k).length) := ⟨_, (rfl : (s1.early k).length = _)⟩
          obtain ⟨ml, hml⟩ : ∃ ml, Hid (ml = (s1.made k).length) := ⟨_, (rfl : (s1.made k).length = _)⟩
          obtain ⟨key, hkey⟩ : ∃ key, Hid (key = s1.key k) := ⟨_, (rfl : s1.key k = _)⟩
          rw [← hel.out] at x1
          rw [← hml.out] at x2
          rw [← hkey.out] at x0
          have hocc := HLW.out.occ k hks
          have hole := occ_le HLW.out hks
          have hel2 : el ≤ 65536 := by
            have h1 := flat_ge (HLW.out.ene k hks)
            have h2 := congrArg List.length hocc
            rw [List.length_append] at h2
            rw [hel.out]; omega
          have hml0 : ml ≤ 65536 := by
            have := congrArg List.length hocc
            rw [List.length_append] at this
            rw [hml.out]; omega
          have HOC : Hid ((s1.early k).flatten ++ s1.made k = occOf I N (s1.key k) ∧ psum (fun j => (occOf I N (s1.key j)).length) k + (occOf I N (s1.key k)).length ≤ N) := ⟨hocc, hole⟩
          have HIN : Hid (0 < (s1.early k).length → ax = some ⟨eB1 k, 0, none⟩ ∧ ∀ r, r < (s1.early k).length → W.cell? ⟨eB1 k, r, none⟩ = some (.slice (some ⟨eR1 k r, 0, none⟩) ((s1.early k).getD r []).length ((s1.early k).getD r []).length)) := hin
          have HX : Hid (W.cell? ⟨B1 + 2, k, none⟩ = some (.slice ax el cx) ∧ W.cell? ⟨B1, k, none⟩ = some (.string key) ∧ W.cell? ⟨B1 + 1, k, none⟩ = some (.slice (some ⟨mB1 k, 0, none⟩) ml ml)) := ⟨x1, x0, x2⟩
          clear hocc hole hin x1 x0 x2
          go_wp2_with fail
          go_loopw [24, 26, 28] (fun ct pv i wi => ∃ (r cnt : Nat) (p : Int), r ≤ el ∧ i = .int .i64 r ∧ ct = .int .i64 cnt ∧ pv = .int .i64 p ∧ cnt ≤ 65536 ∧ Hid (NL I s1 W N wi k ((s1.early k).take r).flatten cnt ∧ p = lastOf ((s1.early k).take r).flatten)) (fun _ _ i _ => el - (intOf i).toNat)
          case atStart =>
            refine ⟨0, cnt, -1, by omega, rfl, rfl, rfl, hcnt, ?_⟩
            rw [List.take_zero]
            exact ⟨hg.out, rfl⟩
          case round =>
            rename World => wi
            obtain ⟨r, ct, p, hr, rfl, rfl, rfl, hct, hgi⟩ := hrel
            obtain ⟨hNL, hp⟩ := hgi.out
            have y1 : wi.cell? ⟨B1 + 2, k, none⟩ = some (.slice ax el cx) := (hNL.below.cell (by exact World.block_lt_of_cell? W _ HX.out.1)).trans HX.out.1
            by_cases hltr : r < el
            · have hrE : r < (s1.early k).length := by rw [← hel.out]; exact hltr
              obtain ⟨rfl, hinr⟩ := HIN.out (by omega)
              have xr := hinr r hrE
              obtain ⟨L, hL⟩ : ∃ L, L = (s1.early k).getD r [] := ⟨_, rfl⟩
              have hLi : IntsAt W (some ⟨eR1 k r, 0, none⟩) L.length (fun i => ((L.getD i 0 : Nat) : Int)) := by rw [hL]; exact HXW.out.earInts hks hrE
              have hLm : L ∈ s1.early k := by
                rw [hL, List.getD_eq_getElem?_getD, List.getElem?_eq_getElem hrE]
                exact List.getElem_mem hrE
              have hLne := List.length_pos_iff.2 (HLW.out.ene k hks L hLm)
              have htk : ((s1.early k).take (r + 1)).flatten = ((s1.early k).take r).flatten ++ L := by rw [hL]; exact take_flat hrE
              have hsub : List.Sublist (((s1.early k).take r).flatten ++ L) (occOf I N (s1.key k)) := by
                rw [← htk, ← HOC.out.1]
                exact (take_pre _).trans (List.sublist_append_left _ _)
              have hlen := hsub.length_le
              rw [List.length_append] at hlen
              have hle2 := HOC.out.2
              have hcc := hNL.cnt
              have hxx : ∀ x ∈ L, x < N ∧ I.K x = key ∧ seenT I s1 k x = false := fun x hx => by
                have hm := mem_occOf.1 (hsub.subset (List.mem_append_right _ hx))
                exact ⟨hm.1, by rw [hkey.out]; exact hm.2, seenT_no HLW.out.ok hks hm.2⟩
              have HCL := (id (visit_true I (some ⟨eR1 k r, 0, none⟩) aF L.length cF N ((s1.early k).take r).flatten L key (seenT I s1 k) W wi.drew (by omega) (by omega) hNL.below.drew hLi HVW.out (hNL.row.of_block rfl) ((occOf_sorted I N (s1.key k)).sublist hsub) hxx p hp) : Hid (Calls _ _ _ _ _))
              rw [← hL] at xr
              obtain ⟨ll, hll⟩ : ∃ ll, Hid (ll = L.length) := ⟨_, (rfl : L.length = _)⟩
              have hll0 : ll ≤ 65536 := by rw [hll.out]; omega
              have hll1 : ¬ (ll : Int) = 0 := by rw [hll.out]; omega
              have hsum2 : ct + ll ≤ 65536 := by rw [hll.out]; omega
              have HCC : Hid (ct = psum (fun j => (occOf I N (s1.key j)).length) k + ((s1.early k).take r).flatten.length) := hcc
              have HTK : Hid (((s1.early k).take (r + 1)).flatten = ((s1.early k).take r).flatten ++ L) := htk
              rw [← hll.out] at HCL xr
              have y0 : wi.cell? ⟨B1, k, none⟩ = some (.string key) := (hNL.below.cell (by exact World.block_lt_of_cell? W _ HX.out.2.1)).trans HX.out.2.1
              have y3 : wi.cell? ⟨eB1 k, r, none⟩ = some (.slice (some ⟨eR1 k r, 0, none⟩) ll ll) := (hNL.below.cell (by exact World.block_lt_of_cell? W _ xr)).trans xr
              have XR : Hid (W.cell? ⟨eB1 k, r, none⟩ = some (.slice (some ⟨eR1 k r, 0, none⟩) ll ll)) := xr
              have hr0 : (0 : Int) ≤ (r : Int) := by omega
              have hr1 : (r : Int) < (el : Int) := by omega
              have hk0 : (0 : Int) ≤ (k : Int) := by omega
              have hk1 : (k : Int) < (n : Int) := by omega
              clear hinr hL hLi hLm hLne htk hsub hlen hle2 hcc hxx hNL hp hgi xr
              go_wp2_with fail
              go_region_held3 (fun w' => w'.cell? ⟨B1 + 2, k, none⟩ = some (.slice (some ⟨eB1 k, 0, none⟩) el cx) ∧ w'.cell? ⟨eB1 k, r, none⟩ = some (.slice (some ⟨eR1 k r, 0, none⟩) ll ll) ∧ w'.cell? ⟨B1, k, none⟩ = some (.string key))
                (first | exact ⟨y1, y3, y0⟩ | exact ⟨z1, z3, z0⟩)
                ((go_at_call 26; refine HCL.out.mono ?_; rintro e' w8 ⟨rfl, hb8, hrow8⟩; have z1 := (hb8.cell (p := ⟨B1 + 2, k, none⟩) (by exact World.block_lt_of_cell? W _ HX.out.1)).trans HX.out.1; have z0 := (hb8.cell (p := ⟨B1, k, none⟩) (by exact World.block_lt_of_cell? W _ HX.out.2.1)).trans HX.out.2.1; have z3 := (hb8.cell (p := ⟨eB1 k, r, none⟩) (by exact World.block_lt_of_cell? W _ XR.out)).trans XR.out))
              all_goals
                have HN2 : Hid (NL I s1 W N w8 k ((s1.early k).take (r + 1)).flatten (ct + ll) ∧ lastOf (((s1.early k).take r).flatten ++ L) = lastOf ((s1.early k).take (r + 1)).flatten) := by
                  rw [HTK.out]
                  exact ⟨⟨hb8, hrow8, by rw [HCC.out, List.length_append, hll.out, Nat.add_assoc]⟩, rfl⟩
                clear hb8 hrow8 HCL y0 y1 y3
                go_wp2_with fail
                go_roundw
                case rel => exact ⟨r + 1, ct + ll, _, by omega, by go_num, by go_num, rfl, hsum2, HN2⟩
                case measure => simp [intOf]; omega
            · have hrE : r = (s1.early k).length := by rw [← hel.out]; omega
              rw [hrE, List.take_length] at hNL hp
              have hLne := List.length_pos_iff.2 (HLW.out.mne k hks)
              have hlen := congrArg List.length HOC.out.1
              rw [List.length_append] at hlen
              have hle2 := HOC.out.2
              have hcc := hNL.cnt
              have hxx : ∀ x ∈ s1.made k, x < N ∧ I.K x = key ∧ seenT I s1 k x = false := fun x hx => by
                have hm := mem_occOf.1 (show x ∈ occOf I N (s1.key k) by rw [← HOC.out.1]; exact List.mem_append_right _ hx)
                exact ⟨hm.1, by rw [hkey.out]; exact hm.2, seenT_no HLW.out.ok hks hm.2⟩
              have HCL := (id (visit_true I (some ⟨mB1 k, 0, none⟩) aF (s1.made k).length cF N (s1.early k).flatten (s1.made k) key (seenT I s1 k) W wi.drew (by omega) (by omega) hNL.below.drew (HXW.out.madeInts hks) HVW.out (hNL.row.of_block rfl) (by rw [HOC.out.1]; exact occOf_sorted I N (s1.key k)) hxx p hp) : Hid (Calls _ _ _ _ _))
              have hll1 : ¬ (ml : Int) = 0 := by rw [hml.out]; omega
              have hsum2 : ct + ml ≤ 65536 := by rw [hml.out]; omega
              have HCC : Hid (ct = psum (fun j => (occOf I N (s1.key j)).length) k + (s1.early k).flatten.length) := hcc
              rw [← hml.out] at HCL
              have y0 : wi.cell? ⟨B1, k, none⟩ = some (.string key) := (hNL.below.cell (by exact World.block_lt_of_cell? W _ HX.out.2.1)).trans HX.out.2.1
              have y2 : wi.cell? ⟨B1 + 1, k, none⟩ = some (.slice (some ⟨mB1 k, 0, none⟩) ml ml) := (hNL.below.cell (by exact World.block_lt_of_cell? W _ HX.out.2.2)).trans HX.out.2.2
              have hk0 : (0 : Int) ≤ (k : Int) := by omega
              have hk1 : (k : Int) < (n : Int) := by omega
              clear hrE hLne hlen hle2 hcc hxx hNL hp hgi HIN
              go_wp2_with fail
              go_region_held3 (fun w' => w'.cell? ⟨B1 + 1, k, none⟩ = some (.slice (some ⟨mB1 k, 0, none⟩) ml ml) ∧ w'.cell? ⟨B1, k, none⟩ = some (.string key))
                (first | exact ⟨y2, y0⟩ | exact ⟨z2, z0⟩)
                ((go_at_call 26; refine HCL.out.mono ?_; rintro e' w8 ⟨rfl, hb8, hrow8⟩; have z2 := (hb8.cell (p := ⟨B1 + 1, k, none⟩) (by exact World.block_lt_of_cell? W _ HX.out.2.2)).trans HX.out.2.2; have z0 := (hb8.cell (p := ⟨B1, k, none⟩) (by exact World.block_lt_of_cell? W _ HX.out.2.1)).trans HX.out.2.1))
              all_goals
                have HN2 : Hid (NL I s1 W N w8 (k + 1) [] (ct + ml)) := by
                  rw [HOC.out.1] at hrow8
                  exact NL.next ⟨hb8, hrow8, by rw [HCC.out, hml.out, ← HOC.out.1, List.length_append, Nat.add_assoc]⟩
                clear hb8 hrow8 HCL y0 y1 y2
                go_wp2_with fail
                go_roundw
                case rel => exact ⟨k + 1, ct + ml, by omega, by go_num, by go_num, hsum2, HN2⟩
                case measure => simp [intOf]; omega
        · have hkn : k = s1.n := by rw [← hn.out]; omega
          have hcN : cnt = N := by
            have := hg.out.cnt
            rw [hkn, HLW.out.tot] at this
            simpa using this
          subst hcN
          have hbe : Below w.heap.size w wo := hbW.trans (hg.out.below.mono hbW.size)
          clear hg hkn
          go_wp2_with fail
          go_ret
          exact ⟨rfl, hbe⟩
end Go.Proofs.Qxb6600323a
